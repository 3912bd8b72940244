/-
  THE WALKS of isLetter (12), IsVerb (8), and of the tests of size (5, 9).
-/
import Derived.Test.Qxb6628919aKit
namespace Go.Proofs.Qxb6628919a
open Go.RowKit

theorem isLetter_any (z : Int) (w : World) (b : Bool) (h : (b = true ∧ ((97 ≤ z ∧ z ≤ 122) ∨ (65 ≤ z ∧ z ≤ 90))) ∨ (b = false ∧ ¬ (97 ≤ z ∧ z ≤ 122) ∧ ¬ (65 ≤ z ∧ z ≤ 90))) :
    Calls Try.prog 12 #[.int .u8 z] w fun e w' => e = .returned (.bool b) ∧ w' = w := by
  by_cases h1 : 97 ≤ z
  · by_cases h2 : z ≤ 122
    · obtain rfl : b = true := by rcases h with ⟨h, _⟩ | ⟨_, h, _⟩ <;> first | exact h | omega
      clear h
      go_enter Try.func12, Try.ntmps12
      go_wp2
      go_ret
      exact ⟨rfl, rfl⟩
    · obtain rfl : b = false := by rcases h with ⟨_, h⟩ | ⟨h, _⟩ <;> first | exact h | omega
      clear h
      have e2 : decide (z ≤ 122) = false := by simpa using h2
      have e3 : decide (z ≤ 90) = false := by simp; omega
      go_enter Try.func12, Try.ntmps12
      go_wp2
      go_ret
      exact ⟨rfl, rfl⟩
  · have e1 : decide (97 ≤ z) = false := by simpa using h1
    by_cases h3 : 65 ≤ z
    · by_cases h4 : z ≤ 90
      · obtain rfl : b = true := by rcases h with ⟨h, _⟩ | ⟨_, _, h⟩ <;> first | exact h | omega
        clear h
        go_enter Try.func12, Try.ntmps12
        go_wp2
        go_ret
        exact ⟨rfl, rfl⟩
      · obtain rfl : b = false := by rcases h with ⟨_, h⟩ | ⟨h, _⟩ <;> first | exact h | omega
        clear h
        have e4 : decide (z ≤ 90) = false := by simpa using h4
        go_enter Try.func12, Try.ntmps12
        go_wp2
        go_ret
        exact ⟨rfl, rfl⟩
    · obtain rfl : b = false := by rcases h with ⟨_, h⟩ | ⟨h, _⟩ <;> first | exact h | omega
      clear h
      have e3 : decide (65 ≤ z) = false := by simpa using h3
      go_enter Try.func12, Try.ntmps12
      go_wp2
      go_ret
      exact ⟨rfl, rfl⟩

theorem isLetter_calls (c : UInt8) (w : World) (b : Bool) (h : Hid (Plain.isL c = b)) :
    Calls Try.prog 12 #[.int .u8 (c.toNat : Int)] w fun e w' => e = .returned (.bool b) ∧ w' = w := by
  refine isLetter_any _ _ _ ?_
  have h1 := h.out
  cases b with
  | true => simp [Plain.isL] at h1; exact .inl ⟨rfl, by omega⟩
  | false => simp [Plain.isL] at h1; exact .inr ⟨rfl, by omega⟩

def VRel (s : ByteArray) (i : Value) (w wr : World) : Prop :=
  ∃ k : Nat, k ≤ s.size ∧ i = .int .i64 k ∧ (∀ j (h : j < s.size), j < k → Plain.isL s[j] = true) ∧ wr = w

set_option maxRecDepth 100000 in
set_option maxHeartbeats 400000 in
theorem isVerb_any (s : ByteArray) (b : Bool) (w : World) (hs : s.size ≤ 1000000000) (hb : Hid (b = Plain.verb s.data.toList)) :
    Calls Try.prog 8 #[.string s] w fun e w' => e = .returned (.bool b) ∧ w' = w := by
  by_cases h4 : s.size = 4
  · have HS : Hid (s.size = 4) := h4
    have hne : ((s.size : Int) != 4) = false := by rw [bne_eq_false_iff_eq]; omega
    clear h4
    go_enter Try.func8, Try.ntmps8
    go_wp2
    go_loopw [3] (fun i wr => VRel s i w wr) (fun i _ => s.size - (intOf i).toNat)
    case atStart => exact ⟨0, Nat.zero_le _, rfl, fun _ _ h => absurd h (Nat.not_lt_zero _), rfl⟩
    case round =>
      obtain ⟨k, hk, rfl, hno, hw⟩ := hrel
      have HNO := mkHid hno
      subst hw
      clear hno
      by_cases hlt : k < s.size
      · cases he : Plain.isL s[k] with
        | true =>
          have HE : Hid (Plain.isL s[k] = true) := he
          have hR : VRel s (.int .i64 ((k : Int) + 1)) wr wr := by
            refine ⟨k + 1, by omega, by go_num, fun j h1 h2 => ?_, rfl⟩
            by_cases e : j = k
            · subst e; exact he
            · exact HNO.out j h1 (by omega)
          clear he
          go_wp2_with (go_at_call 12; refine (isLetter_calls _ _ true HE).mono ?_; rintro e wr ⟨rfl, rfl⟩)
          go_roundw
          case rel => exact hR
          case measure => simp [intOf]; omega
        | false =>
          have HE : Hid (Plain.isL s[k] = false) := he
          have hbf : b = false := by
            rw [hb.out, Plain.verb]
            have : s.data.toList.all Plain.isL = false := by
              rw [List.all_eq_false]
              exact ⟨s[k], by rw [ByteArray.getElem_eq_getElem_data, ← Array.getElem_toList]; exact List.getElem_mem _, by rw [he]; simp⟩
            rw [this, Bool.and_false]
          subst hbf
          clear he
          go_wp2_with (go_at_call 12; refine (isLetter_calls _ _ false HE).mono ?_; rintro e wr ⟨rfl, rfl⟩)
          go_ret
          exact ⟨rfl, rfl⟩
      · have hbt : b = true := by
          rw [hb.out, Plain.verb]
          have h1 : s.data.toList.length = 4 := by have := HS.out; simpa using this
          have h2 : s.data.toList.all Plain.isL = true := by
            rw [List.all_eq_true]
            intro c hc
            obtain ⟨j, hj, rfl⟩ := List.getElem_of_mem hc
            exact HNO.out j (by simpa using hj) (by simp at hj; omega)
          rw [h1, h2]
          rfl
        subst hbt
        go_wp2
        go_ret
        exact ⟨rfl, rfl⟩
  · have hne : ((s.size : Int) != 4) = true := by rw [bne_iff_ne]; omega
    have hbf : b = false := by
      rw [hb.out, Plain.verb]
      have : (s.data.toList.length == 4) = false := by simpa using h4
      rw [this, Bool.false_and]
    subst hbf
    clear h4
    go_enter Try.func8, Try.ntmps8
    go_wp2
    go_ret
    exact ⟨rfl, rfl⟩

/-- The call answers a bool; where it says true, P holds. -/
def Ansd (P : Prop) (e : Ending) : Prop := ∃ r : Bool, e = .returned (.bool r) ∧ (r = true → P)

theorem bytes9_any (s : ByteArray) (w : World) (hs : s.size ≤ maxLen) :
    Calls Try.prog 9 #[.string s] w fun e w' => Ansd (s.size ≤ 1048576) e ∧ w' = w := by
  have hs' : s.size ≤ 9223372036854775807 := by unfold maxLen at hs; omega
  clear hs
  by_cases h : s.size ≤ 1048576
  · go_enter Try.func9, Try.ntmps9
    go_wp2
    go_ret
    exact ⟨⟨true, rfl, fun _ => h⟩, rfl⟩
  · go_enter Try.func9, Try.ntmps9
    go_wp2
    go_ret
    exact ⟨⟨false, rfl, by simp⟩, rfl⟩

theorem bytes5_any (s t : ByteArray) (w : World) (hs : s.size ≤ maxLen) (ht : t.size ≤ maxLen) :
    Calls Try.prog 5 #[.string s, .string t] w fun e w' => Ansd (s.size + t.size ≤ 1048576) e ∧ w' = w := by
  have hs' : s.size ≤ 9223372036854775807 := by unfold maxLen at hs; omega
  have ht' : t.size ≤ 9223372036854775807 := by unfold maxLen at ht; omega
  clear hs ht
  by_cases h1 : s.size ≤ 1048576
  · by_cases h2 : t.size ≤ 1048576
    · by_cases h3 : s.size + t.size ≤ 1048576
      · go_enter Try.func5, Try.ntmps5
        go_wp2
        go_ret
        exact ⟨⟨true, rfl, fun _ => h3⟩, rfl⟩
      · go_enter Try.func5, Try.ntmps5
        go_wp2
        go_ret
        exact ⟨⟨false, rfl, by simp⟩, rfl⟩
    · go_enter Try.func5, Try.ntmps5
      go_wp2
      go_ret
      exact ⟨⟨false, rfl, by simp⟩, rfl⟩
  · go_enter Try.func5, Try.ntmps5
    go_wp2
    go_ret
    exact ⟨⟨false, rfl, by simp⟩, rfl⟩
end Go.Proofs.Qxb6628919a
