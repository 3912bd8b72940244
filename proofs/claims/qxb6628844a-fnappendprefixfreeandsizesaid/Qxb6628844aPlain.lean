/-
  THE PLAIN MATHEMATICS of seat b6628844a: canonical varints as lists of bytes, records as lists of bytes. No Go in sight.
-/
namespace Go.Proofs.Qxb6628844a.Plain

/-- The bytes of the varint of x, at most f + 1 of them. -/
def enc : Nat → Nat → List Int
  | 0, x => [(x : Int)]
  | f + 1, x => if x < 128 then [(x : Int)] else ((x % 128 + 128 : Nat) : Int) :: enc f (x / 128)

def uv (x : Nat) : List Int := enc 9 x

theorem enc_small (f x : Nat) (h : x < 128) : enc f x = [(x : Int)] := by
  cases f with
  | zero => rfl
  | succ f => simp [enc, h]

theorem enc_big (f x : Nat) (h : ¬ x < 128) : enc (f + 1) x = ((x % 128 + 128 : Nat) : Int) :: enc f (x / 128) := by
  simp [enc, h]

theorem enc_len (f : Nat) : ∀ x, 1 ≤ (enc f x).length ∧ (enc f x).length ≤ f + 1 := by
  induction f with
  | zero => intro x; simp [enc]
  | succ f ih =>
    intro x
    by_cases h : x < 128
    · rw [enc_small _ _ h]; simp
    · rw [enc_big _ _ h]
      have := ih (x / 128)
      simp only [List.length_cons]
      omega

theorem uv_len (x : Nat) : 1 ≤ (uv x).length ∧ (uv x).length ≤ 10 := enc_len 9 x

theorem enc_bytes (f : Nat) : ∀ x, x < 2 * 128 ^ f → ∀ z ∈ enc f x, 0 ≤ z ∧ z ≤ 255 := by
  induction f with
  | zero =>
    intro x hx z hz
    simp [enc] at hz
    simp at hx
    omega
  | succ f ih =>
    intro x hx z hz
    by_cases h : x < 128
    · rw [enc_small _ _ h] at hz
      simp at hz
      omega
    · rw [enc_big _ _ h] at hz
      rcases List.mem_cons.1 hz with hz | hz
      · omega
      · refine ih (x / 128) ?_ z hz
        rw [Nat.pow_succ] at hx
        omega

/-- One version of a record. -/
structure Vr where
  val : List Int
  pres : Bool
  wa : Nat
  vu : Nat
  ep : Nat

def flag (b : Bool) : Int := if b then 1 else 0
def tail (v : Vr) : List Int := if v.pres then uv v.val.length ++ v.val else []
def encVer (v : Vr) : List Int := flag v.pres :: (uv v.wa ++ (uv v.vu ++ (uv v.ep ++ tail v)))
def encVers (vs : List Vr) : List Int := vs.flatMap encVer
def encRec (key : List Int) (vs : List Vr) : List Int := uv key.length ++ (key ++ (uv vs.length ++ encVers vs))

/-- The bytes that the versions' values take. -/
def vals (vs : List Vr) : Nat := (vs.map fun v => v.val.length).sum

theorem encVer_len (v : Vr) : 4 ≤ (encVer v).length ∧ (encVer v).length ≤ 41 + v.val.length := by
  have h1 := uv_len v.wa
  have h2 := uv_len v.vu
  have h3 := uv_len v.ep
  have h4 := uv_len v.val.length
  unfold encVer tail
  cases v.pres <;> simp <;> omega

theorem encVers_len (vs : List Vr) : (encVers vs).length ≤ 41 * vs.length + vals vs := by
  induction vs with
  | nil => simp [encVers, vals]
  | cons v vs ih =>
    have := encVer_len v
    simp only [encVers, vals, List.flatMap_cons, List.length_append, List.map_cons, List.sum_cons, List.length_cons] at ih ⊢
    omega

theorem encRec_len (key : List Int) (vs : List Vr) : (encRec key vs).length ≤ 20 + key.length + 41 * vs.length + vals vs := by
  have h1 := uv_len key.length
  have h2 := uv_len vs.length
  have h3 := encVers_len vs
  simp only [encRec, List.length_append]
  omega

theorem take_succ {α : Type} (l : List α) (k : Nat) (h : k < l.length) : l.take (k + 1) = l.take k ++ [l[k]] := List.take_succ_eq_append_getElem h

theorem encVers_take_succ (vs : List Vr) (k : Nat) (h : k < vs.length) : encVers (vs.take (k + 1)) = encVers (vs.take k) ++ encVer vs[k] := by
  rw [take_succ _ _ h]
  simp only [encVers, List.flatMap_append, List.flatMap_cons, List.flatMap_nil, List.append_nil]

theorem encVers_drop (vs : List Vr) (k : Nat) (h : k < vs.length) : encVers (vs.drop k) = encVer vs[k] ++ encVers (vs.drop (k + 1)) := by
  rw [List.drop_eq_getElem_cons h]
  simp only [encVers, List.flatMap_cons]

theorem encVers_split (vs : List Vr) (k : Nat) : encVers vs = encVers (vs.take k) ++ encVers (vs.drop k) := by
  simp only [encVers, ← List.flatMap_append, List.take_append_drop]

theorem vals_take_le (vs : List Vr) (k : Nat) : vals (vs.take k) ≤ vals vs := by
  have h : vals vs = vals (vs.take k) + vals (vs.drop k) := by
    simp only [vals, ← List.sum_append, ← List.map_append, List.take_append_drop]
  omega

theorem vals_take_succ (vs : List Vr) (k : Nat) (h : k < vs.length) : vals (vs.take (k + 1)) = vals (vs.take k) + vs[k].val.length := by
  rw [take_succ _ _ h]
  simp only [vals, List.map_append, List.sum_append, List.map_cons, List.map_nil, List.sum_cons, List.sum_nil, Nat.add_zero]

/-! ### Reading by places -/
theorem drop_more {L a b : List Int} {i : Nat} (h : L.drop i = a ++ b) : L.drop (i + a.length) = b := by
  rw [← List.drop_drop, h, List.drop_left]

theorem drop_le {L a b : List Int} {i : Nat} (h : L.drop i = a ++ b) (hi : i ≤ L.length) : i + a.length ≤ L.length := by
  have := congrArg List.length h
  simp only [List.length_drop, List.length_append] at this
  omega

theorem drop_at {L a b : List Int} {i : Nat} (h : L.drop i = a ++ b) (j : Nat) (hj : j < a.length) : L.getD (i + j) 0 = a.getD j 0 := by
  have h1 : (L.drop i)[j]? = (a ++ b)[j]? := by rw [h]
  rw [List.getElem?_drop, List.getElem?_append_left hj] at h1
  simp only [List.getD, h1]

end Go.Proofs.Qxb6628844a.Plain
