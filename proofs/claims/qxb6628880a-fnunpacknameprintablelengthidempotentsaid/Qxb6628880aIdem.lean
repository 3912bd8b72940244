/-
  THE WALK of FnUnpackNamePrintableLengthIdempotent (function 4), and of its test of size (8).
-/
import Derived.Test.Qxb6628880aUnp
namespace Go.Proofs.Qxb6628880a
open Go.RowKit

/-- The call answers a bool; where it says true, P holds. -/
def Ansd (P : Prop) (e : Ending) : Prop := ∃ r : Bool, e = .returned (.bool r) ∧ (r = true → P)

theorem bytes8_any (s : ByteArray) (w : World) (hs : s.size ≤ maxLen) :
    Calls Try.prog 8 #[.string s] w fun e w' => Ansd (s.size ≤ 1048576) e ∧ w' = w := by
  have hs' : s.size ≤ 9223372036854775807 := by unfold maxLen at hs; omega
  clear hs
  by_cases h : s.size ≤ 1048576
  · go_enter Try.func8, Try.ntmps8
    go_wp2
    go_ret
    exact ⟨⟨true, rfl, fun _ => h⟩, rfl⟩
  · go_enter Try.func8, Try.ntmps8
    go_wp2
    go_ret
    exact ⟨⟨false, rfl, by simp⟩, rfl⟩

def CtRel (s : ByteArray) (n i : Value) (w wr : World) : Prop :=
  ∃ k t : Nat, k ≤ s.size ∧ i = .int .i64 k ∧ n = .int .i64 t ∧ t = Plain.escs (s.data.toList.take k) ∧ wr = w

def PrRel (u : ByteArray) (i : Value) (w wr : World) : Prop := ∃ k : Nat, k ≤ u.size ∧ i = .int .i64 k ∧ wr = w

set_option maxRecDepth 100000 in
set_option maxHeartbeats 1000000 in
theorem idem_walk (s : ByteArray) (hs : s.size ≤ maxLen) (w : World) :
    Calls Try.prog 4 #[.string s] w fun e w' => e = .returned (.bool true) ∧ w.keptBut w' (fun _ => False) := by
  go_enter Try.func4, Try.ntmps4
  go_wp2_with fail
  refine (bytes8_any s w hs).mono ?_
  rintro e w ⟨⟨r, rfl, hr⟩, rfl⟩
  cases r with
  | false =>
    go_wp2
    go_ret
    exact ⟨rfl, World.keptBut_refl _ _⟩
  | true =>
    have hsz := hr rfl
    clear hr hs
    go_wp2_with fail
    refine (unp_any s w (by omega)).mono ?_
    rintro e w1 ⟨rfl, hk1⟩
    obtain ⟨u, hu⟩ : ∃ u : ByteArray, u = ⟨(Plain.unp s.data.toList).toArray⟩ := ⟨_, rfl⟩
    rw [← hu]
    have hul : u.data.toList = Plain.unp s.data.toList := by rw [hu]
    have hus : u.size = s.size + 3 * Plain.escs s.data.toList := by
      have h1 : u.size = u.data.toList.length := by simp
      rw [h1, hul, Plain.unp_length]
      simp
    have hue := Plain.escs_le s.data.toList
    have hub : u.size ≤ 4194304 := by simp at hue; omega
    have HUS := mkHid hus
    have HPR : Hid (∀ j (h : j < u.size), Plain.esc u[j] = false) := by
      intro j hj
      have h1 := Plain.unp_printable s.data.toList
      rw [← hul] at h1
      exact h1 _ (by rw [ByteArray.getElem_eq_getElem_data, ← Array.getElem_toList]; exact List.getElem_mem _)
    have HID : Hid (Plain.unp u.data.toList = u.data.toList) := by show _ = _; rw [hul]; exact Plain.unp_idem _
    clear hu hul hus hue
    go_wp2
    go_loopw [4, 5] (fun n i wr => CtRel s n i w1 wr) (fun _ i _ => s.size - (intOf i).toNat)
    case atStart => exact ⟨0, 0, Nat.zero_le _, rfl, rfl, by simp [Plain.escs], rfl⟩
    case round =>
      obtain ⟨k, t, hk, rfl, rfl, ht, hwr⟩ := hrel
      have HT := mkHid ht
      have htb : t ≤ 1048576 := by
        have h1 := Plain.escs_le (s.data.toList.take k)
        have h2 : (s.data.toList.take k).length ≤ s.size := by simp; omega
        omega
      subst hwr
      clear ht
      by_cases hlt : k < s.size
      · have hsn : Plain.escs (s.data.toList.take (k + 1)) = Plain.escs (s.data.toList.take k) + if Plain.esc s[k] then 1 else 0 := by
          rw [Plain.take_snoc _ k (by simpa using hlt), Plain.escs_snoc]
          rfl
        have HS := mkHid hsn
        clear hsn
        cases he : Plain.esc s[k] with
        | false =>
          have hR : CtRel s (.int .i64 (t : Int)) (.int .i64 ((k : Int) + 1)) wr wr := ⟨k + 1, t, by omega, by go_num, rfl, by rw [HS.out, he, ← HT.out]; simp, rfl⟩
          have h1 := Plain.esc_of_false he
          clear he HS HT
          go_wp2
          go_roundw
          case rel => exact hR
          case measure => simp [intOf]; omega
        | true =>
          have hR : CtRel s (.int .i64 ((t : Int) + 1)) (.int .i64 ((k : Int) + 1)) wr wr := ⟨k + 1, t + 1, by omega, by go_num, by go_num, by rw [HS.out, he, ← HT.out]; simp, rfl⟩
          have h1 := Plain.esc_of_true he
          clear he HS HT
          by_cases h2 : s[k].toNat ≤ 32
          · go_wp2
            go_roundw
            case rel => exact hR
            case measure => simp [intOf]; omega
          · have h3 : 127 ≤ s[k].toNat := by omega
            clear h1
            go_wp2
            go_roundw
            case rel => exact hR
            case measure => simp [intOf]; omega
      · have hne : ((u.size : Int) != (s.size : Int) + 3 * (t : Int)) = false := by
          have h1 := HUS.out
          have h2 := HT.out
          rw [List.take_of_length_le (by simp; omega)] at h2
          rw [bne_eq_false_iff_eq]
          omega
        obtain ⟨wo, rfl⟩ : ∃ wo : World, wo = wr := ⟨_, rfl⟩
        go_wp2
        go_loopw [6] (fun i wx => PrRel u i wo wx) (fun i _ => u.size - (intOf i).toNat)
        case atStart => exact ⟨0, Nat.zero_le _, rfl, rfl⟩
        case round =>
          obtain ⟨q, hq, rfl, hwr⟩ := hrel
          subst hwr
          by_cases hlt2 : q < u.size
          · have hR : PrRel u (.int .i64 ((q : Int) + 1)) wr wr := ⟨q + 1, by omega, by go_num, rfl⟩
            have h1 := Plain.esc_of_false (HPR.out q hlt2)
            go_wp2
            go_roundw
            case rel => exact hR
            case measure => simp [intOf]; omega
          · go_wp2_with fail
            refine (unp_any u _ (by omega)).mono ?_
            rintro e w9 ⟨rfl, hk9⟩
            have hk : w.keptBut w9 (fun _ => False) := World.keptBut_trans hk1 hk9
            rw [HID.out]
            clear hk9
            go_wp2
            go_ret
            exact ⟨rfl, hk⟩
end Go.Proofs.Qxb6628880a
