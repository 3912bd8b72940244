/-
  THE WALK of encoding/binary.AppendUvarint (function 14).
-/
import Derived.Test.Qxb6628844aRows
import Derived.Test.Qxb6628844aKit
import Derived.Test.Qxb6628844aPlain
import Derived.Laws.BitsAllLaws
namespace Go.Proofs.Qxb6628844a
open Go.RowKit

theorem Try.info5 : (Try.prog.info? 5).map (fun i => (i.zero, i.size, i.bytes)) = some (some (.int .u8 0), 1, 1) := by kernel_rfl

theorem or128 : ∀ a : Nat, a < 256 → a ||| 128 = a % 128 + 128 := by decide +kernel

theorem byte_or (y : Nat) : bits .or .u8 ((y : Int) % 256) 128 = ((y % 128 + 128 : Nat) : Int) := by
  have h : ((y : Int) % 256) = ((y % 256 : Nat) : Int) := by omega
  rw [h]
  have := u8_or_nat (y % 256) 128 (by omega) (by omega)
  rw [or128 _ (by omega)] at this
  rw [show ((128 : Nat) : Int) = 128 from rfl] at this
  rw [this]
  omega

theorem map_snoc (l : List Int) (z : Int) : l.map (Value.int .u8) ++ [Value.int .u8 z] = (l ++ [z]).map (Value.int .u8) := by simp

/-- The loop's relation: what is still to be written is enc f yy. -/
def UvRel (base : Nat) (pre : List Int) (x : Nat) (w : World) (v : Value) (v' y : Value) (wr : World) : Prop :=
  ∃ (f yy : Nat) (cur : List Int), y = .int .u64 yy ∧ yy < 2 * 128 ^ f ∧ f ≤ 9 ∧ yy < 18446744073709551616 ∧ cur.length + f ≤ pre.length + 9 ∧ wr.ownsRow base 5 1 v' cur.length (cur.map (Value.int .u8)) ∧
      cur ++ Plain.enc f yy = pre ++ Plain.uv x ∧ Step w wr v v'

set_option maxRecDepth 100000 in
set_option maxHeartbeats 400000 in
theorem appendUvarint_any (base : Nat) (v : Value) (pre : List Int) (x : Nat) (w : World) (hx : x < 18446744073709551616)
    (hown : w.ownsRow base 5 1 v pre.length (pre.map (Value.int .u8))) (hbase : base ≤ w.heap.size) (hbd : pre.length ≤ 1000000000) :
    Calls Try.prog 14 #[v, .int .u64 x] w fun e w' => ∃ v', e = .returned v' ∧ w'.ownsRow base 5 1 v' (pre ++ Plain.uv x).length ((pre ++ Plain.uv x).map (Value.int .u8)) ∧ Step w w' v v' := by
  obtain ⟨i0, hi, hz0, hz1, hz2⟩ := info_parts Try.info5
  have h0 : UvRel base pre x w v v (.int .u64 x) w := ⟨9, x, pre, rfl, by omega, by omega, hx, by omega, hown, rfl, Step.refl _ _⟩
  clear hx
  go_enter Try.func14, Try.ntmps14
  go_wp2
  go_loopw [0, 1] (fun v' y wr => UvRel base pre x w v v' y wr) (fun _ y _ => (intOf y).toNat)
  case atStart => exact h0
  case round =>
    obtain ⟨f, yy, cur, rfl, hy, hf, hy64, hcl, ho, he, hst⟩ := hrel
    have HE : Hid (cur ++ Plain.enc f yy = pre ++ Plain.uv x) := he
    have HY : Hid (yy < 2 * 128 ^ f) := hy
    clear he hy h0
    by_cases hlt : yy < 128
    · go_wp2_with (at_builtin; refine wpList_append_own_at _ rfl (.tmp 15) (.tmp 18) 22 rfl base 5 i0 (.int .u8 0) 1 1 Try.underlying22 hi hz0 hz1 hz2 rfl (by decide) _ _ _ rfl (ho.alloc _) ⟨wr.heap.size, 0, none⟩ 1 1 [.int .u8 (yy : Int)] rfl rfl (cell_one_new _ _ _) (by simp [Value.oneCell']) (by unfold maxLen; omega) (by omega) (by have := hst.size; simp; omega) ?_)
      intro v' w1 hown' hgrow _ hat
      have hs1 : Step w w1 v v' := (hst.trans (Step.alloc wr (.cells #[.int .u8 (yy : Int)] 5) _)).trans (Step.grown hgrow (by simpa using hat))
      have hfin : pre ++ Plain.uv x = cur ++ [(yy : Int)] := by rw [← HE.out, Plain.enc_small _ _ hlt]
      rw [map_snoc] at hown'
      have HF := (show Hid (pre ++ Plain.uv x = cur ++ [(yy : Int)]) from hfin)
      clear hfin hgrow hat ho hst HE HY
      go_wp2
      go_ret
      refine ⟨v', rfl, ?_, hs1⟩
      rw [HF.out]
      simpa using hown'
    · obtain ⟨g, rfl⟩ : ∃ g, f = g + 1 := by
        cases f with
        | zero => have := HY.out; simp at this; omega
        | succ g => exact ⟨g, rfl⟩
      go_wp2_with (at_builtin; refine wpList_append_own_at _ rfl (.tmp 7) (.tmp 11) 22 rfl base 5 i0 (.int .u8 0) 1 1 Try.underlying22 hi hz0 hz1 hz2 rfl (by decide) _ _ _ rfl (ho.alloc _) ⟨wr.heap.size, 0, none⟩ 1 1 [.int .u8 (bits .or .u8 ((yy : Int) % 256) 128)] rfl rfl (cell_one_new _ _ _) (by simp [Value.oneCell']) (by unfold maxLen; omega) (by omega) (by have := hst.size; simp; omega) ?_)
      intro v' w1 hown' hgrow _ hat
      have hs1 : Step w w1 v v' := (hst.trans (Step.alloc wr (.cells #[.int .u8 (bits .or .u8 ((yy : Int) % 256) 128)] 5) _)).trans (Step.grown hgrow (by simpa using hat))
      have hfin : (cur ++ [((yy % 128 + 128 : Nat) : Int)]) ++ Plain.enc g (yy / 128) = pre ++ Plain.uv x := by rw [← HE.out, Plain.enc_big _ _ hlt]; simp
      rw [map_snoc, byte_or] at hown'
      have hR : UvRel base pre x w v v' (.int .u64 ((yy / 128 : Nat) : Int)) w1 := by
        refine ⟨g, yy / 128, _, rfl, ?_, by omega, by omega, ?_, by simpa using hown', hfin, hs1⟩
        · have := HY.out
          rw [Nat.pow_succ] at this
          omega
        · simp
          omega
      rw [show ((yy / 128 : Nat) : Int) = (yy : Int) / 128 from by omega] at hR
      clear hfin hgrow hat ho hst HE HY hown'
      go_wp2
      go_roundw
      case rel => exact hR
      case measure => simp [intOf]; omega
end Go.Proofs.Qxb6628844a
