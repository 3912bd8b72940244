/-
  SMALL LAWS for seat b6628953a; the walks of Kind (6) and of the tests of size (5, 7).
-/
import Derived.Test.Qxb6628953aRows
import Derived.WalkKit
import Derived.WalkSpells
import Derived.Lib.SliceRun
import Derived.Laws.CopyOwn
namespace Go.Proofs.Qxb6628953a
open Go.RowKit

theorem Try.info5 : (Try.prog.info? 5).map (fun i => (i.zero, i.size, i.bytes)) = some (some (.int .u8 0), 1, 1) := by kernel_rfl
theorem Try.size5 : (Try.prog.info? 5).map (·.size) = some 1 := by kernel_rfl
theorem mkHid {p : Prop} (h : p) : Hid p := h

/-- A slice of bytes, in the world w; it reads zs. -/
structure Bs (w : World) (ao : Option Addr) (len cap : Nat) (zs : List Int) : Prop where
  hlen : zs.length = len
  le : len ≤ cap
  top : cap ≤ maxLen
  nil : ao = none → len = 0 ∧ cap = 0
  cells : 0 < len → ∃ b off, ao = some ⟨b, off, none⟩ ∧ ∀ i, i < len → w.cell? ⟨b, off + i, none⟩ = some (.int .u8 (zs.getD i 0))

theorem kind_any (ao : Option Addr) (len cap : Nat) (z : Int) (w : World) (hl : len ≤ 1000000000)
    (h : (len = 0 ∧ z = 0) ∨ (0 < len ∧ ∃ b off, ao = some ⟨b, off, none⟩ ∧ w.cell? ⟨b, off, none⟩ = some (.int .u8 z))) :
    Calls Try.prog 6 #[.slice ao len cap] w fun e w' => e = .returned (.int .u8 z) ∧ w' = w := by
  rcases h with ⟨rfl, rfl⟩ | ⟨h0, b, off, rfl, hc⟩
  · go_enter Try.func6, Try.ntmps6
    go_wp2
    go_ret
    exact ⟨rfl, rfl⟩
  · have hne : ((len : Int) == 0) = false := by rw [beq_eq_false_iff_ne]; omega
    go_enter Try.func6, Try.ntmps6
    go_wp2
    go_ret
    exact ⟨rfl, rfl⟩

/-- The call answers a bool; where it says true, P holds. -/
def Ansd (P : Prop) (e : Ending) : Prop := ∃ r : Bool, e = .returned (.bool r) ∧ (r = true → P)

theorem bytes7_any (ao : Option Addr) (len cap : Nat) (k : Int) (w : World) (hs : len ≤ maxLen) :
    Calls Try.prog 7 #[.slice ao len cap, .int .i64 k] w fun e w' => Ansd (len ≤ 1048576) e ∧ w' = w := by
  have hs' : len ≤ 9223372036854775807 := by unfold maxLen at hs; omega
  clear hs
  by_cases h : len ≤ 1048576
  · go_enter Try.func7, Try.ntmps7
    go_wp2
    go_ret
    exact ⟨⟨true, rfl, fun _ => h⟩, rfl⟩
  · go_enter Try.func7, Try.ntmps7
    go_wp2
    go_ret
    exact ⟨⟨false, rfl, by simp⟩, rfl⟩

theorem bytes5_any (ao : Option Addr) (len cap : Nat) (k c : Int) (w : World) (hs : len ≤ maxLen) :
    Calls Try.prog 5 #[.slice ao len cap, .int .i64 k, .int .u8 c] w fun e w' => Ansd (len ≤ 1048576) e ∧ w' = w := by
  have hs' : len ≤ 9223372036854775807 := by unfold maxLen at hs; omega
  clear hs
  by_cases h : len ≤ 1048576
  · go_enter Try.func5, Try.ntmps5
    go_wp2
    go_ret
    exact ⟨⟨true, rfl, fun _ => h⟩, rfl⟩
  · go_enter Try.func5, Try.ntmps5
    go_wp2
    go_ret
    exact ⟨⟨false, rfl, by simp⟩, rfl⟩

/-- 'zzc := make([]byte, n); copy(zzc, value)': behind the copy. -/
theorem copy_law (w w1 : World) (ad : Addr) (n cap : Nat) (zs : List Int) (hb : Bs w (some ad) n cap zs) (ty : TypeId)
    (hown : w1.ownsRow w.heap.size 5 1 (.slice (some ⟨w.heap.size, 0, none⟩) n n) n (madeCells #[Value.int .u8 0] n).toList) (hbel : Below w.heap.size w w1) :
    ∃ w2, ((Builtin.copy_ #[22, 22] ty #[.slice (some ⟨w.heap.size, 0, none⟩) n n, .slice (some ad) n cap]).run Try.prog w1 = .ok (goInt n) w2) ∧
      w2.ownsRow w.heap.size 5 1 (.slice (some ⟨w.heap.size, 0, none⟩) n n) n (zs.map (Value.int .u8)) ∧ Below w.heap.size w w2 := by
  rcases hown.2 with ⟨h, _⟩ | ⟨g, cap', cur, hv, _, hg, _, hcm, hcs, _⟩
  · simp at h
  · simp only [Value.slice.injEq, Option.some.injEq, Addr.mk.injEq, and_true, true_and] at hv
    obtain ⟨rfl, rfl⟩ := hv
    have hzl := hb.hlen
    have hcl : (zs.map (Value.int .u8)).length = n := by simp [hzl]
    have hrun := run_copy_row (P := Try.prog) w1 22 22 ty 5 w.heap.size 0 n n ad n cap cur 5 (zs.map (Value.int .u8)) Try.underlying22 Try.size5 hg (by rw [hcl]; exact (Nat.min_self n).symm)
      (fun j v hj => by
        have hj' : j < n := by have := (List.getElem?_eq_some_iff.1 hj).1; omega
        obtain ⟨b, off, he, hc⟩ := hb.cells (by omega)
        obtain rfl := Option.some.inj he
        have hbw : b < w.heap.size := World.block_lt_of_cell? w _ (hc j hj')
        rw [Addr.add_lit, hbel.cell (by exact hbw), hc j hj']
        have hjz : j < zs.length := by omega
        simp [hjz] at hj
        simp [List.getD, hjz, hj])
      (by rw [hcl]; omega) (ints_oneCell _ _)
    rw [hcl] at hrun
    refine ⟨_, hrun, ⟨by omega, .inr ⟨w.heap.size, n, _, rfl, Nat.le_refl _, setRow_heap w1 _ cur _ 5 _ hg, Nat.le_refl _, hcm, ?_, ?_⟩⟩, below_setRow hbel (Nat.le_refl _) _⟩
    · simp
      omega
    · rw [Nat.mul_one]
      show ((cur.toList.take 0 ++ zs.map (Value.int .u8) ++ cur.toList.drop (0 + n)).take n) = _
      rw [List.take_zero, List.nil_append, List.take_append_of_le_length (by omega)]
      exact List.take_of_length_le (by omega)
end Go.Proofs.Qxb6628953a
