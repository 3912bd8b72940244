/-
  THE WALK of FnIsVerbCaseBitFlip (4).
-/
import Derived.Test.Qxb6628919aMaps
import Derived.Test.Qxb6628919aVerb
namespace Go.Proofs.Qxb6628919a
open Go.RowKit

theorem named (s : ByteArray) (f : UInt8 → UInt8) (w : World) (F : Nat) (h : Calls Try.prog F #[.string s] w fun e w' => e = .returned (.string ⟨(s.data.toList.map f).toArray⟩) ∧ Below w.heap.size w w') :
    Calls Try.prog F #[.string s] w fun e w' => ∃ u : ByteArray, e = .returned (.string u) ∧ Hid (u.data.toList = s.data.toList.map f) ∧ u.size ≤ s.size ∧ Below w.heap.size w w' := by
  refine h.mono ?_
  rintro e w' ⟨rfl, hb⟩
  refine ⟨_, rfl, rfl, ?_, hb⟩
  show (s.data.toList.map f).toArray.size ≤ _
  simp

set_option maxRecDepth 100000 in
set_option maxHeartbeats 1000000 in
theorem flip_walk (s : ByteArray) (hs : s.size ≤ maxLen) (w : World) :
    Calls Try.prog 4 #[.string s] w fun e w' => e = .returned (.bool true) ∧ Below w.heap.size w w' := by
  go_enter Try.func4, Try.ntmps4
  go_wp2_with fail
  refine (bytes9_any s w hs).mono ?_
  rintro e w ⟨⟨r, rfl, hr⟩, rfl⟩
  cases r with
  | false =>
    go_wp2
    go_ret
    exact ⟨rfl, Below.refl _ _⟩
  | true =>
    have hsz := hr rfl
    clear hr hs
    by_cases h16 : s.size ≤ 65536
    · go_wp2_with fail
      refine (named s Plain.flip _ 10 (flip_any s w (by omega))).mono ?_
      rintro e w1 ⟨u, rfl, HU, hus, bel1⟩
      go_wp2_with fail
      refine (named s Plain.low _ 11 (lower_any s w1 (by omega))).mono ?_
      rintro e w2 ⟨v, rfl, HV, hvs, bel2⟩
      have bel : Below w.heap.size w w2 := bel1.trans (bel2.mono bel1.size)
      clear bel1 bel2
      have HB2 : Hid (Plain.verb s.data.toList = Plain.verb u.data.toList) := by show _ = _; rw [HU.out, Plain.verb_flip]
      have HC : Hid ((s.size == 4) = Plain.verb v.data.toList) := by
        show _ = _
        rw [HV.out, Plain.verb_low]
        simp
      obtain ⟨b, hb⟩ : ∃ b, b = Plain.verb s.data.toList := ⟨_, rfl⟩
      have HB1 := mkHid hb
      rw [← hb] at HB2
      obtain ⟨c, hc⟩ : ∃ c, c = (s.size == 4) := ⟨_, rfl⟩
      rw [← hc] at HC
      have h4 : (s.size = 4 ∧ c = true) ∨ (¬ s.size = 4 ∧ c = false) := by
        by_cases h : s.size = 4
        · exact .inl ⟨h, by rw [hc]; simpa using h⟩
        · exact .inr ⟨h, by rw [hc]; simpa using h⟩
      clear hb hc HU HV
      go_wp2_with fail
      refine (isVerb_any s b _ (by omega) HB1).mono ?_
      rintro e w3 ⟨rfl, rfl⟩
      go_wp2_with fail
      refine (isVerb_any u b _ (by omega) HB2).mono ?_
      rintro e w3 ⟨rfl, rfl⟩
      go_wp2_with fail
      refine (isVerb_any v c _ (by omega) HC).mono ?_
      rintro e w3 ⟨rfl, rfl⟩
      rcases h4 with ⟨h4, rfl⟩ | ⟨h4, rfl⟩
      · have hq : ((s.size : Int) == 4) = true := by rw [beq_iff_eq]; omega
        clear h4
        go_wp2
        go_ret
        exact ⟨rfl, bel⟩
      · have hq : ((s.size : Int) == 4) = false := by rw [beq_eq_false_iff_ne]; omega
        clear h4
        go_wp2
        go_ret
        exact ⟨rfl, bel⟩
    · go_wp2
      go_ret
      exact ⟨rfl, Below.refl _ _⟩
end Go.Proofs.Qxb6628919a
