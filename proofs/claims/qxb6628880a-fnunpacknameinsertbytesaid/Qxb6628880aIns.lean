/-
  THE WALK of FnUnpackNameInsertByte (function 3), of its test of size (5) and of presentByte (7).
-/
import Derived.Test.Qxb6628880aUnp
import Derived.Laws.IdiomStrings
import Derived.OpenShut
namespace Go.Proofs.Qxb6628880a
open Go.RowKit

/-- The call answers a bool; where it says true, P holds. -/
def Ans2 (P : Prop) (e : Ending) : Prop := ∃ r : Bool, e = .returned (.bool r) ∧ (r = true → P)

theorem bytes5_any (s t : ByteArray) (z : Int) (w : World) (hs : s.size ≤ maxLen) (ht : t.size ≤ maxLen) :
    Calls Try.prog 5 #[.string s, .int .u8 z, .string t] w fun e w' => Ans2 (s.size + t.size ≤ 1048576) e ∧ w' = w := by
  have hs' : s.size ≤ 9223372036854775807 := by unfold maxLen at hs; omega
  have ht' : t.size ≤ 9223372036854775807 := by unfold maxLen at ht; omega
  clear hs ht
  by_cases h1 : s.size ≤ 1048576
  · by_cases h2 : t.size ≤ 1048576
    · by_cases h3 : s.size + t.size ≤ 1048576
      · go_enter Try.func5, Try.ntmps5
        go_wp2
        go_ret
        exact ⟨⟨true, rfl, fun _ => h3⟩, rfl⟩
      · go_enter Try.func5, Try.ntmps5
        go_wp2
        go_ret
        exact ⟨⟨false, rfl, by simp⟩, rfl⟩
    · go_enter Try.func5, Try.ntmps5
      go_wp2
      go_ret
      exact ⟨⟨false, rfl, by simp⟩, rfl⟩
  · go_enter Try.func5, Try.ntmps5
    go_wp2
    go_ret
    exact ⟨⟨false, rfl, by simp⟩, rfl⟩

/-- 'string([]byte{..})' of a literal just laid. -/
theorem run_lit (w : World) (g : Nat) (hg : g = w.heap.size) (l : List UInt8) : (convert 24 9 (.slice (some ⟨g, 0, none⟩) l.length l.length)).run Try.prog (w.alloc (.cells (cs l).toArray 5)) = .ok (.string ⟨l.toArray⟩) (w.alloc (.cells (cs l).toArray 5)) := by
  subst hg
  refine run_str _ _ 0 _ l (fun j _ => ?_)
  rw [Nat.zero_add, World.cell?_alloc_new]
  simp

set_option maxRecDepth 100000 in
set_option maxHeartbeats 400000 in
theorem present_any (c : UInt8) (z : Int) (hz : Hid (z = (c.toNat : Int))) (w : World) :
    Calls Try.prog 7 #[.int .u8 z] w fun e w' => e = .returned (.string ⟨(Plain.pres c).toArray⟩) ∧ w.keptBut w' (fun _ => False) := by
  have hzb : 0 ≤ z ∧ z ≤ 255 := by have := c.toNat_lt; have := hz.out; omega
  cases he : Plain.esc c with
  | false =>
    have h1 := Plain.esc_of_false he
    have h2 : 32 < z ∧ z < 127 := by have := hz.out; omega
    have HP : Hid (Plain.pres c = [c]) := Plain.pres_no he
    have hl := run_lit w w.heap.size rfl [c]
    simp only [cs, List.map_cons, List.map_nil, ← hz.out, List.length_cons, List.length_nil] at hl
    clear h1 he
    go_enter Try.func7, Try.ntmps7
    go_wp2
    go_ret
    exact ⟨by rw [HP.out]; rfl, World.keptBut_alloc _ _ _⟩
  | true =>
    have h1 := Plain.esc_of_true he
    have h2 : z ≤ 32 ∨ 127 ≤ z := by have := hz.out; omega
    have HP : Hid (Plain.pres c = [92, Plain.d1 c, Plain.d2 c, Plain.d3 c]) := Plain.pres_yes he
    have hl := run_lit w w.heap.size rfl [92, Plain.d1 c, Plain.d2 c, Plain.d3 c]
    rw [cs_digits c z hz.out] at hl
    have e2 : z / 10 % 10 = (z - z / 100 * 100) / 10 := by omega
    have e3 : z % 10 = z - z / 100 * 100 - (z - z / 100 * 100) / 10 * 10 := by omega
    rw [e2, e3] at hl
    simp only [List.length_cons, List.length_nil] at hl
    clear h1 he e2 e3
    by_cases h3 : z ≤ 32
    · go_enter Try.func7, Try.ntmps7
      go_wp2
      go_ret
      exact ⟨by rw [HP.out]; rfl, World.keptBut_alloc _ _ _⟩
    · have h4 : 127 ≤ z := by omega
      clear h2
      go_enter Try.func7, Try.ntmps7
      go_wp2
      go_ret
      exact ⟨by rw [HP.out]; rfl, World.keptBut_alloc _ _ _⟩
/-- What UnpackName gives, under a name, with its size. -/
theorem unp_named (t : ByteArray) (w : World) (hs : t.size ≤ 100000000) :
    Calls Try.prog 6 #[.string t] w fun e w' => ∃ u : ByteArray, e = .returned (.string u) ∧ Hid (u.data.toList = Plain.unp t.data.toList) ∧ u.size ≤ 4 * t.size ∧ w.keptBut w' (fun _ => False) := by
  refine (unp_any t w hs).mono ?_
  rintro e w' ⟨rfl, hk⟩
  refine ⟨_, rfl, rfl, ?_, hk⟩
  have h1 := Plain.unp_length t.data.toList
  have h2 := Plain.escs_le t.data.toList
  have h3 : t.data.toList.length = t.size := by simp
  show (Plain.unp t.data.toList).toArray.size ≤ _
  rw [List.size_toArray]
  omega

theorem present_named (c : UInt8) (z : Int) (hz : Hid (z = (c.toNat : Int))) (w : World) :
    Calls Try.prog 7 #[.int .u8 z] w fun e w' => ∃ u : ByteArray, e = .returned (.string u) ∧ Hid (u.data.toList = Plain.pres c) ∧ u.size ≤ 4 ∧ w.keptBut w' (fun _ => False) := by
  refine (present_any c z hz w).mono ?_
  rintro e w' ⟨rfl, hk⟩
  refine ⟨_, rfl, rfl, ?_, hk⟩
  show (Plain.pres c).toArray.size ≤ _
  rw [List.size_toArray]
  unfold Plain.pres
  split <;> simp

theorem cat3 (a b : ByteArray) (c : UInt8) : (a ++ (⟨#[c]⟩ : ByteArray) ++ b).data.toList = a.data.toList ++ [c] ++ b.data.toList := by simp
theorem cat3_size (a b : ByteArray) (c : UInt8) : (a ++ (⟨#[c]⟩ : ByteArray) ++ b).size = a.size + 1 + b.size := by simp; rfl

set_option maxRecDepth 100000 in
set_option maxHeartbeats 1000000 in
theorem ins_walk (a b : ByteArray) (z : Int) (ha : a.size ≤ maxLen) (hzw : (Lit.int .u8 z).wf = true) (hb : b.size ≤ maxLen) (w : World) :
    Calls Try.prog 3 #[.string a, .int .u8 z, .string b] w fun e w' => e = .returned (.bool true) ∧ w.keptBut w' (fun _ => False) := by
  have hzb : 0 ≤ z ∧ z ≤ 255 := bounds_u8 hzw
  obtain ⟨c, hc⟩ : ∃ c : UInt8, z = (c.toNat : Int) := ⟨UInt8.ofNat z.toNat, by simp only [UInt8.toNat_ofNat']; omega⟩
  have HC := mkHid hc
  clear hc hzw
  go_enter Try.func3, Try.ntmps3
  go_wp2_with fail
  refine (bytes5_any a b z w ha hb).mono ?_
  rintro e w ⟨⟨r, rfl, hr⟩, rfl⟩
  cases r with
  | false =>
    go_wp2
    go_ret
    exact ⟨rfl, World.keptBut_refl _ _⟩
  | true =>
    have hsz := hr rfl
    clear hr ha hb
    have ha' : a.size ≤ 1048576 := by omega
    have hb' : b.size ≤ 1048576 := by omega
    have hl := run_lit w w.heap.size rfl [c]
    simp only [cs, List.map_cons, List.map_nil, ← HC.out, List.length_cons, List.length_nil] at hl
    have hs1 : (⟨#[c]⟩ : ByteArray).size = 1 := rfl
    have hw1 : w.keptBut (w.alloc (.cells #[.int .u8 z] 5)) (fun _ => False) := World.keptBut_alloc _ _ _
    go_wp2_with fail
    have HT := mkHid (cat3 a b c)
    have hTs := cat3_size a b c
    generalize w.alloc (.cells #[.int .u8 z] 5) = w1 at *
    generalize (a ++ (⟨#[c]⟩ : ByteArray) ++ b : ByteArray) = T at *
    have hTb : T.size ≤ 1048577 := by omega
    clear hTs hl hs1
    refine (unp_named T w1 (by omega)).mono ?_
    rintro e w2 ⟨U, rfl, HU, hUs, hk2⟩
    have hUb : U.size ≤ 4194308 := by omega
    clear hUs
    go_wp2_with fail
    refine (unp_named a w2 (by omega)).mono ?_
    rintro e w3 ⟨A, rfl, HA, hAs, hk3⟩
    have hAb : A.size ≤ 4194304 := by omega
    clear hAs
    go_wp2_with fail
    refine (present_named c z HC w3).mono ?_
    rintro e w4 ⟨P, rfl, HP, hPs, hk4⟩
    go_wp2_with fail
    refine (unp_named b w4 (by omega)).mono ?_
    rintro e w5 ⟨B, rfl, HB, hBs, hk5⟩
    have hBb : B.size ≤ 4194304 := by omega
    clear hBs
    have hk : w.keptBut w5 (fun _ => False) := World.keptBut_trans hw1 (World.keptBut_trans hk2 (World.keptBut_trans hk3 (World.keptBut_trans hk4 hk5)))
    have hfin : U = A ++ P ++ B := by
      have h1 : U.data.toList = (A ++ P ++ B).data.toList := by
        rw [HU.out, HT.out]
        simp only [Plain.unp_append, Plain.unp_one, ByteArray.data_append, Array.toList_append, HA.out, HP.out, HB.out]
      exact ByteArray.ext (Array.toList_inj.1 h1)
    subst hfin
    clear hk2 hk3 hk4 hk5 hw1
    go_wp2
    go_ret
    exact ⟨rfl, hk⟩
end Go.Proofs.Qxb6628880a
