/-
  THE WALK of FnIsVerbJoinAtAnyCut (3).
-/
import Derived.Test.Qxb6628919aMaps
import Derived.Test.Qxb6628919aVerb
import Derived.Test.Qxb6628919aJoin
namespace Go.Proofs.Qxb6628919a
open Go.RowKit

theorem letters_named (s : ByteArray) (w : World) (hs : s.size ≤ 1000000000) :
    Calls Try.prog 6 #[.string s] w fun e w' => ∃ u : ByteArray, e = .returned (.string u) ∧ Hid (u.data.toList = s.data.toList.map Plain.up) ∧ u.size ≤ s.size ∧ Below w.heap.size w w' := by
  refine (letters_any s w hs).mono ?_
  rintro e w' ⟨rfl, hb⟩
  refine ⟨_, rfl, rfl, ?_, hb⟩
  show (s.data.toList.map Plain.up).toArray.size ≤ _
  simp

theorem join_named (a b : ByteArray) (w : World) (hab : a.size + b.size ≤ 1000000000) :
    Calls Try.prog 7 #[.string a, .string b] w fun e w' => ∃ u : ByteArray, e = .returned (.string u) ∧ Hid (u.data.toList = a.data.toList ++ b.data.toList) ∧ u.size ≤ a.size + b.size ∧ Below w.heap.size w w' := by
  refine (join_any a b w hab).mono ?_
  rintro e w' ⟨rfl, hb⟩
  refine ⟨_, rfl, rfl, ?_, hb⟩
  show (a.data.toList ++ b.data.toList).toArray.size ≤ _
  simp

set_option maxRecDepth 100000 in
set_option maxHeartbeats 1000000 in
theorem cut_walk (a b : ByteArray) (ha : a.size ≤ maxLen) (hb : b.size ≤ maxLen) (w : World) :
    Calls Try.prog 3 #[.string a, .string b] w fun e w' => e = .returned (.bool true) ∧ Below w.heap.size w w' := by
  go_enter Try.func3, Try.ntmps3
  go_wp2_with fail
  refine (bytes5_any a b w ha hb).mono ?_
  rintro e w ⟨⟨r, rfl, hr⟩, rfl⟩
  cases r with
  | false =>
    go_wp2
    go_ret
    exact ⟨rfl, Below.refl _ _⟩
  | true =>
    have hsz := hr rfl
    clear hr ha hb
    by_cases ha16 : a.size ≤ 65536
    · by_cases hb16 : b.size ≤ 65536
      · go_wp2_with fail
        refine (letters_named a _ (by omega)).mono ?_
        rintro e w1 ⟨la, rfl, HLA, hlas, bel1⟩
        go_wp2_with fail
        refine (letters_named b _ (by omega)).mono ?_
        rintro e w2 ⟨lb, rfl, HLB, hlbs, bel2⟩
        have bA : Below w.heap.size w w2 := bel1.trans (bel2.mono bel1.size)
        clear bel1 bel2
        have hla16 : la.size ≤ 65536 := by omega
        have hlb16 : lb.size ≤ 65536 := by omega
        clear hlas hlbs
        go_wp2_with fail
        refine (join_named a b _ (by omega)).mono ?_
        rintro e w3 ⟨u1, rfl, HU1, hu1, bel3⟩
        have hu1' : u1.size ≤ 131072 := by omega
        have bB : Below w.heap.size w w3 := bA.trans (bel3.mono bA.size)
        clear bA bel3 hu1
        go_wp2_with fail
        refine (join_named a lb _ (by omega)).mono ?_
        rintro e w4 ⟨u2, rfl, HU2, hu2, bel4⟩
        have hu2' : u2.size ≤ 131072 := by omega
        have bC : Below w.heap.size w w4 := bB.trans (bel4.mono bB.size)
        clear bB bel4 hu2
        go_wp2_with fail
        refine (join_named la b _ (by omega)).mono ?_
        rintro e w5 ⟨u3, rfl, HU3, hu3, bel5⟩
        have hu3' : u3.size ≤ 131072 := by omega
        have bD : Below w.heap.size w w5 := bC.trans (bel5.mono bC.size)
        clear bC bel5 hu3
        go_wp2_with fail
        refine (join_named la lb _ (by omega)).mono ?_
        rintro e w6 ⟨u4, rfl, HU4, hu4, bel6⟩
        have hu4' : u4.size ≤ 131072 := by omega
        have bE : Below w.heap.size w w6 := bD.trans (bel6.mono bD.size)
        clear bD bel6 hu4
        -- the plain law
        obtain ⟨L, hL⟩ : ∃ L, L = Plain.verb u2.data.toList := ⟨_, rfl⟩
        obtain ⟨R, hR⟩ : ∃ R, R = Plain.verb u3.data.toList := ⟨_, rfl⟩
        have hW : (L && R) = Plain.verb u1.data.toList := by rw [hL, hR, HU1.out, HU2.out, HU3.out, HLA.out, HLB.out]; exact (Plain.verb_split _ _).symm
        obtain ⟨c, hc⟩ : ∃ c, c = (a.size + b.size == 4) := ⟨_, rfl⟩
        have hC : c = Plain.verb u4.data.toList := by
          rw [hc, HU4.out, HLA.out, HLB.out, Plain.verb_both, show a.data.toList.length = a.size from by simp, show b.data.toList.length = b.size from by simp]
        have h4 : (a.size + b.size = 4 ∧ c = true) ∨ (¬ a.size + b.size = 4 ∧ c = false) := by
          by_cases h : a.size + b.size = 4
          · exact .inl ⟨h, by rw [hc]; simpa using h⟩
          · exact .inr ⟨h, by rw [hc]; simpa using h⟩
        have HL := mkHid hL
        have HR := mkHid hR
        have HW := mkHid hW
        have HC := mkHid hC
        clear hL hR hW hC hc HU1 HU2 HU3 HU4 HLA HLB
        have HQ : Hid (((a.size : Int) + (b.size : Int) == 4) = c) := by
          show _ = _
          rcases h4 with ⟨h4, rfl⟩ | ⟨h4, rfl⟩
          · rw [beq_iff_eq]; omega
          · rw [beq_eq_false_iff_ne]; omega
        clear h4
        cases L with
        | true =>
          have HW' : Hid (R = Plain.verb u1.data.toList) := HW
          go_wp2_with fail
          refine (isVerb_any u1 R _ (by omega) HW').mono ?_
          rintro e w7 ⟨rfl, rfl⟩
          go_wp2_with fail
          refine (isVerb_any u2 true _ (by omega) HL).mono ?_
          rintro e w7 ⟨rfl, rfl⟩
          go_wp2_with fail
          refine (isVerb_any u3 R _ (by omega) HR).mono ?_
          rintro e w7 ⟨rfl, rfl⟩
          go_wp2_with fail
          refine (isVerb_any u4 c _ (by omega) HC).mono ?_
          rintro e w7 ⟨rfl, rfl⟩
          have hq := HQ.out
          go_wp2
          go_ret
          exact ⟨rfl, bE⟩
        | false =>
          have HW' : Hid (false = Plain.verb u1.data.toList) := HW
          go_wp2_with fail
          refine (isVerb_any u1 false _ (by omega) HW').mono ?_
          rintro e w7 ⟨rfl, rfl⟩
          go_wp2_with fail
          refine (isVerb_any u2 false _ (by omega) HL).mono ?_
          rintro e w7 ⟨rfl, rfl⟩
          go_wp2_with fail
          refine (isVerb_any u4 c _ (by omega) HC).mono ?_
          rintro e w7 ⟨rfl, rfl⟩
          have hq := HQ.out
          go_wp2
          go_ret
          exact ⟨rfl, bE⟩
      · go_wp2
        go_ret
        exact ⟨rfl, Below.refl _ _⟩
    · go_wp2
      go_ret
      exact ⟨rfl, Below.refl _ _⟩
end Go.Proofs.Qxb6628919a
