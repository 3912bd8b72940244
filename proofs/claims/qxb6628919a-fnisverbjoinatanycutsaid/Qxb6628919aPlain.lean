/-
  THE PLAIN MATHEMATICS of seat b6628919a: four letters. No Go in sight.
-/
namespace Go.Proofs.Qxb6628919a.Plain

def isL (c : UInt8) : Bool := (decide (97 ≤ c.toNat) && decide (c.toNat ≤ 122)) || (decide (65 ≤ c.toNat) && decide (c.toNat ≤ 90))
def verb (l : List UInt8) : Bool := l.length == 4 && l.all isL

def up (c : UInt8) : UInt8 := UInt8.ofNat (65 + c.toNat % 26)
def low (c : UInt8) : UInt8 := UInt8.ofNat (97 + c.toNat % 26)
def flip (c : UInt8) : UInt8 := UInt8.ofNat (c.toNat ^^^ 32)

theorem up_toNat (c : UInt8) : (up c).toNat = 65 + c.toNat % 26 := by
  simp only [up, UInt8.toNat_ofNat']
  omega
theorem low_toNat (c : UInt8) : (low c).toNat = 97 + c.toNat % 26 := by
  simp only [low, UInt8.toNat_ofNat']
  omega
theorem flip_toNat (c : UInt8) : (flip c).toNat = c.toNat ^^^ 32 := by
  have h : c.toNat ^^^ 32 < 2 ^ 8 := Nat.xor_lt_two_pow c.toNat_lt (by omega)
  simp only [flip, UInt8.toNat_ofNat']
  omega

theorem isL_up (c : UInt8) : isL (up c) = true := by
  simp only [isL, up_toNat]
  simp
  omega
theorem isL_low (c : UInt8) : isL (low c) = true := by
  simp only [isL, low_toNat]
  simp
  omega

theorem flip_nat : ∀ n : Nat, n < 256 → ((decide (97 ≤ n ^^^ 32) && decide (n ^^^ 32 ≤ 122)) || (decide (65 ≤ n ^^^ 32) && decide (n ^^^ 32 ≤ 90))) = ((decide (97 ≤ n) && decide (n ≤ 122)) || (decide (65 ≤ n) && decide (n ≤ 90))) := by
  decide +kernel
theorem isL_flip (c : UInt8) : isL (flip c) = isL c := by
  simp only [isL, flip_toNat]
  exact flip_nat c.toNat c.toNat_lt

theorem all_up (l : List UInt8) : (l.map up).all isL = true := by simp [isL_up]
theorem all_low (l : List UInt8) : (l.map low).all isL = true := by simp [isL_low]
theorem all_flip (l : List UInt8) : (l.map flip).all isL = l.all isL := by
  induction l with
  | nil => rfl
  | cons c l ih => simp only [List.map_cons, List.all_cons, isL_flip, ih]

theorem verb_flip (l : List UInt8) : verb (l.map flip) = verb l := by simp only [verb, List.length_map, all_flip]
theorem verb_low (l : List UInt8) : verb (l.map low) = (l.length == 4) := by simp only [verb, List.length_map, all_low, Bool.and_true]

theorem verb_both (a b : List UInt8) : verb (a.map up ++ b.map up) = (a.length + b.length == 4) := by
  simp only [verb, List.length_append, List.length_map, List.all_append, all_up, Bool.and_true]
theorem verb_left (a b : List UInt8) : verb (a ++ b.map up) = (a.length + b.length == 4 && a.all isL) := by
  simp only [verb, List.length_append, List.length_map, List.all_append, all_up, Bool.and_true]
theorem verb_right (a b : List UInt8) : verb (a.map up ++ b) = (a.length + b.length == 4 && b.all isL) := by
  simp only [verb, List.length_append, List.length_map, List.all_append, all_up, Bool.true_and]
theorem verb_whole (a b : List UInt8) : verb (a ++ b) = (a.length + b.length == 4 && (a.all isL && b.all isL)) := by
  simp only [verb, List.length_append, List.all_append]

theorem verb_split (a b : List UInt8) : verb (a ++ b) = (verb (a ++ b.map up) && verb (a.map up ++ b)) := by
  rw [verb_whole, verb_left, verb_right]
  cases a.length + b.length == 4 <;> cases a.all isL <;> cases b.all isL <;> rfl

theorem take_snoc (l : List UInt8) (k : Nat) (h : k < l.length) : l.take (k + 1) = l.take k ++ [l[k]] := List.take_succ_eq_append_getElem h

end Go.Proofs.Qxb6628919a.Plain
