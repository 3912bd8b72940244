/-
  THE WALK of zzBytesAt (function 10).
-/
import Derived.Test.Qxb6628844aUv
import Derived.Deep.QuietTactic
import Derived.BigQuiet
namespace Go.Proofs.Qxb6628844a
open Go.RowKit

def AtRel (n : Nat) (w : World) (k : Value) (wr : World) : Prop := ∃ kk d : Nat, kk ≤ n ∧ k = .int .i64 kk ∧ wr = w.drewN d

theorem drewN_drew (w : World) (d : Nat) : (w.drewN d).drew = w.drewN (d + 1) := rfl

set_option maxRecDepth 100000 in
set_option maxHeartbeats 400000 in
theorem bytesAt_any (pa qa : Option Addr) (pl pc ql qc i : Nat) (L q rest : List Int) (w : World) (hp : Bs w none pa pl pc L) (hq : Bs w none qa ql qc q) (hbd : pl ≤ 1000000000)
    (hd : L.drop i = q ++ rest) (hi : i ≤ L.length) :
    Calls Try.prog 10 #[.slice pa pl pc, .int .i64 i, .slice qa ql qc] w fun e w' => e = .returned (.bool true) ∧ ∃ d, w' = w.drewN d := by
  have hle := Plain.drop_le hd hi
  have HD : Hid (L.drop i = q ++ rest) := hd
  have hl1 := hp.hlen
  have hl2 := hq.hlen
  subst hl1 hl2
  clear hd
  go_enter Try.func10, Try.ntmps10
  go_wp2
  go_loopw [7] (fun k wr => AtRel q.length w k wr) (fun k _ => q.length - (intOf k).toNat)
  case atStart => exact ⟨0, 0, Nat.zero_le _, rfl, rfl⟩
  case round =>
    obtain ⟨k, d, hk, rfl, rfl⟩ := hrel
    by_cases hlt : k < q.length
    · obtain ⟨b, off, rfl, _, hc⟩ := hp.cells (by omega)
      obtain ⟨b', off', rfl, _, hc'⟩ := hq.cells (by omega)
      have h1 : w.cell? ⟨b, off + (i + k), none⟩ = some (.int .u8 (L.getD (i + k) 0)) := hc (i + k) (by omega)
      have h2 : w.cell? ⟨b', off' + k, none⟩ = some (.int .u8 (q.getD k 0)) := hc' k hlt
      have g1 : IntKind.i64.wrap ((i : Int) + (k : Int)) = (i : Int) + (k : Int) := by rw [IntKind.wrap_i64]; omega
      have g2 : (0 : Int) ≤ (i : Int) + (k : Int) := by omega
      have g3 : (i : Int) + (k : Int) < (L.length : Int) := by omega
      have g4 : (0 : Int) ≤ (k : Int) := by omega
      have g5 : (k : Int) < (q.length : Int) := by omega
      have g6 : ((i : Int) + (k : Int)).toNat = i + k := by omega
      rw [Plain.drop_at HD.out k hlt] at h1
      obtain ⟨z, hz⟩ : ∃ z, z = q.getD k 0 := ⟨_, rfl⟩
      rw [← hz] at h1 h2
      have hR : ∀ d', AtRel q.length w (.int .i64 ((k : Int) + 1)) (w.drewN d') := fun d' => ⟨k + 1, d', by omega, by go_num, rfl⟩
      clear hc hc' hz hp hq
      go_wp2
      go_quiet (fail)
      go_wp2
      go_roundw
      case rel => exact hR _
      case measure => simp [intOf]; omega
    · go_wp2
      go_ret
      exact ⟨rfl, d, rfl⟩
end Go.Proofs.Qxb6628844a
