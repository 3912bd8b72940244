/-
  THE PLAIN MATHEMATICS of seat b6628880a: the presentation form of a text of bytes. No Go in sight.
-/
namespace Go.Proofs.Qxb6628880a.Plain

/-- Is the byte written as a backslash and three digits? -/
def esc (c : UInt8) : Bool := decide (c.toNat ≤ 32) || decide (127 ≤ c.toNat)

def d1 (c : UInt8) : UInt8 := UInt8.ofNat (48 + c.toNat / 100)
def d2 (c : UInt8) : UInt8 := UInt8.ofNat (48 + c.toNat / 10 % 10)
def d3 (c : UInt8) : UInt8 := UInt8.ofNat (48 + c.toNat % 10)

/-- The presentation form of one byte. -/
def pres (c : UInt8) : List UInt8 := if esc c then [92, d1 c, d2 c, d3 c] else [c]

/-- .. of a text. -/
def unp (l : List UInt8) : List UInt8 := l.flatMap pres

theorem d1_toNat (c : UInt8) : (d1 c).toNat = 48 + c.toNat / 100 := by
  have := c.toNat_lt
  simp only [d1, UInt8.toNat_ofNat']
  omega
theorem d2_toNat (c : UInt8) : (d2 c).toNat = 48 + c.toNat / 10 % 10 := by
  have := c.toNat_lt
  simp only [d2, UInt8.toNat_ofNat']
  omega
theorem d3_toNat (c : UInt8) : (d3 c).toNat = 48 + c.toNat % 10 := by
  have := c.toNat_lt
  simp only [d3, UInt8.toNat_ofNat']
  omega

theorem esc_yes {c : UInt8} (h : c.toNat ≤ 32 ∨ 127 ≤ c.toNat) : esc c = true := by
  simp [esc]; omega
theorem esc_no {c : UInt8} (h : 32 < c.toNat ∧ c.toNat < 127) : esc c = false := by
  simp [esc]; omega
theorem esc_of_true {c : UInt8} (h : esc c = true) : c.toNat ≤ 32 ∨ 127 ≤ c.toNat := by
  simpa [esc] using h
theorem esc_of_false {c : UInt8} (h : esc c = false) : 32 < c.toNat ∧ c.toNat < 127 := by
  simp [esc] at h; omega

theorem pres_yes {c : UInt8} (h : esc c = true) : pres c = [92, d1 c, d2 c, d3 c] := by simp [pres, h]
theorem pres_no {c : UInt8} (h : esc c = false) : pres c = [c] := by simp [pres, h]

theorem unp_append (a b : List UInt8) : unp (a ++ b) = unp a ++ unp b := by simp [unp]
theorem unp_cons (c : UInt8) (b : List UInt8) : unp (c :: b) = pres c ++ unp b := by simp [unp]
theorem unp_one (c : UInt8) : unp [c] = pres c := by simp [unp]

theorem unp_plain (l : List UInt8) (h : ∀ c ∈ l, esc c = false) : unp l = l := by
  induction l with
  | nil => rfl
  | cons c l ih =>
    rw [unp_cons, pres_no (h c (List.mem_cons_self ..)), ih (fun d hd => h d (List.mem_cons_of_mem _ hd))]
    rfl

theorem pres_printable (c : UInt8) : ∀ d ∈ pres c, esc d = false := by
  intro d hd
  have hc := c.toNat_lt
  cases h : esc c with
  | false =>
    rw [pres_no h] at hd
    simp at hd
    rw [hd]
    exact h
  | true =>
    rw [pres_yes h] at hd
    simp at hd
    rcases hd with rfl | rfl | rfl | rfl
    · decide
    · exact esc_no (by rw [d1_toNat]; omega)
    · exact esc_no (by rw [d2_toNat]; omega)
    · exact esc_no (by rw [d3_toNat]; omega)

theorem unp_printable (l : List UInt8) : ∀ d ∈ unp l, esc d = false := by
  intro d hd
  simp only [unp, List.mem_flatMap] at hd
  obtain ⟨c, _, hc⟩ := hd
  exact pres_printable c d hc

theorem unp_idem (l : List UInt8) : unp (unp l) = unp l := unp_plain _ (unp_printable l)

/-- How many bytes are written out. -/
def escs (l : List UInt8) : Nat := (l.filter esc).length

theorem escs_le (l : List UInt8) : escs l ≤ l.length := List.length_filter_le _ _

theorem unp_length (l : List UInt8) : (unp l).length = l.length + 3 * escs l := by
  induction l with
  | nil => rfl
  | cons c l ih =>
    rw [unp_cons, List.length_append, ih]
    cases h : esc c with
    | false => simp [pres_no h, escs, h]; omega
    | true => simp [pres_yes h, escs, h]; omega

theorem take_snoc (l : List UInt8) (k : Nat) (h : k < l.length) : l.take (k + 1) = l.take k ++ [l[k]] := List.take_succ_eq_append_getElem h

theorem escs_snoc (l : List UInt8) (c : UInt8) : escs (l ++ [c]) = escs l + if esc c then 1 else 0 := by
  unfold escs
  rw [List.filter_append, List.length_append]
  cases h : esc c <;> simp [h]

end Go.Proofs.Qxb6628880a.Plain
