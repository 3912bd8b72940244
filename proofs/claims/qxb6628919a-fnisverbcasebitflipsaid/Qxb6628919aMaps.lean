/-
  THE WALKS of verbCutLetters (6), verbFlipBit5 (10), verbFlipLower (11): a text mapped byte by byte into a row of the call's own.
-/
import Derived.Test.Qxb6628919aKit
namespace Go.Proofs.Qxb6628919a
open Go.RowKit

/-- The loops' relation. -/
def MapRel (f : UInt8 → UInt8) (B : Nat) (s : ByteArray) (w : World) (i : Value) (wr : World) : Prop :=
  ∃ k : Nat, k ≤ s.size ∧ i = .int .i64 k ∧ wr.ownsRow B 5 1 (.slice (some ⟨B, 0, none⟩) s.size s.size) s.size (half f s.data.toList k) ∧ Below B w wr

theorem letters_val (c : UInt8) : (65 + (c.toNat : Int) % 26 : Int) = ((Plain.up c).toNat : Int) := by
  rw [Plain.up_toNat]
  omega

set_option maxRecDepth 100000 in
set_option maxHeartbeats 400000 in
theorem letters_any (s : ByteArray) (w : World) (hs : s.size ≤ 1000000000) :
    Calls Try.prog 6 #[.string s] w fun e w' => e = .returned (.string ⟨(s.data.toList.map Plain.up).toArray⟩) ∧ Below w.heap.size w w' := by
  obtain ⟨i0, hi, hz0, hz1, hz2⟩ := info_parts Try.info5
  have hsl : s.data.toList.length = s.size := by simp
  go_enter Try.func6, Try.ntmps6
  go_wp2_with (at_make; refine wpList_make_full _ rfl _ _ 26 rfl w.heap.size 5 i0 (.int .u8 0) 1 Try.underlying26 hi hz0 hz1 .i64 .i64 _ _ s.size rfl rfl rfl rfl ?b1 ?b2 ?b3 ?_)
  case b1 => rw [hz2]; omega
  case b2 => unfold maxLen; omega
  case b3 => exact Nat.le_refl _
  intro w1 hown hgrow
  have h0 : MapRel Plain.up w.heap.size s w (.int .i64 0) w1 := by
    refine ⟨0, Nat.zero_le _, rfl, ?_, (Below.refl _ _).grown hgrow (Nat.le_refl _) (by simp)⟩
    rw [half_zero, hsl]
    simpa using hown
  have HSL := mkHid hsl
  clear hown hgrow hsl
  go_wp2
  go_loopw [4] (fun i wr => MapRel Plain.up w.heap.size s w i wr) (fun i _ => s.size - (intOf i).toNat)
  case atStart => exact h0
  case round =>
    obtain ⟨k, hk, rfl, ho, hb⟩ := hrel
    clear h0
    by_cases hlt : k < s.size
    · have hlt' : k < s.data.toList.length := by rw [HSL.out]; exact hlt
      have hc2 : wr.cell? ⟨w.heap.size, k, none⟩ = some (.int .u8 0) := (ho.cellAt k (by omega)).trans (half_at _ _ k hlt')
      have hc3 : wr.frozen? ⟨w.heap.size, k, none⟩ = false := ho.frozenAt k
      have hst := (ho.stored k (.int .u8 ((Plain.up s[k]).toNat : Int))).1
      have hse : (half Plain.up s.data.toList k).set k (.int .u8 ((Plain.up s[k]).toNat : Int)) = half Plain.up s.data.toList (k + 1) := half_set Plain.up s.data.toList k hlt'
      rw [hse, ← letters_val] at hst
      have hR : MapRel Plain.up w.heap.size s w (.int .i64 ((k + 1 : Nat) : Int)) (wr.setCell ⟨w.heap.size, k, none⟩ (.int .u8 (65 + (s[k].toNat : Int) % 26))) := ⟨k + 1, by omega, rfl, hst, hb.setCell (Nat.le_refl _) _⟩
      rw [show ((k + 1 : Nat) : Int) = (k : Int) + 1 from by omega] at hR
      have hcb := s[k].toNat_lt
      clear hst ho hb hse
      go_wp2
      go_roundw
      case rel => exact hR
      case measure => simp [intOf]; omega
    · have hks : k = s.size := by omega
      have hh : half Plain.up s.data.toList k = cs (s.data.toList.map Plain.up) := by rw [hks, ← HSL.out, half_end]
      rw [hh] at ho
      have hstr := run_own wr w.heap.size w.heap.size s.size s.size (s.data.toList.map Plain.up) (by simp) ho
      clear ho hh hks
      go_wp2
      go_ret
      exact ⟨rfl, hb⟩

theorem lower_val (c : UInt8) : (97 + (c.toNat : Int) % 26 : Int) = ((Plain.low c).toNat : Int) := by
  rw [Plain.low_toNat]
  omega

set_option maxRecDepth 100000 in
set_option maxHeartbeats 400000 in
theorem lower_any (s : ByteArray) (w : World) (hs : s.size ≤ 1000000000) :
    Calls Try.prog 11 #[.string s] w fun e w' => e = .returned (.string ⟨(s.data.toList.map Plain.low).toArray⟩) ∧ Below w.heap.size w w' := by
  obtain ⟨i0, hi, hz0, hz1, hz2⟩ := info_parts Try.info5
  have hsl : s.data.toList.length = s.size := by simp
  go_enter Try.func11, Try.ntmps11
  go_wp2_with (at_make; refine wpList_make_full _ rfl _ _ 26 rfl w.heap.size 5 i0 (.int .u8 0) 1 Try.underlying26 hi hz0 hz1 .i64 .i64 _ _ s.size rfl rfl rfl rfl ?b1 ?b2 ?b3 ?_)
  case b1 => rw [hz2]; omega
  case b2 => unfold maxLen; omega
  case b3 => exact Nat.le_refl _
  intro w1 hown hgrow
  have h0 : MapRel Plain.low w.heap.size s w (.int .i64 0) w1 := by
    refine ⟨0, Nat.zero_le _, rfl, ?_, (Below.refl _ _).grown hgrow (Nat.le_refl _) (by simp)⟩
    rw [half_zero, hsl]
    simpa using hown
  have HSL := mkHid hsl
  clear hown hgrow hsl
  go_wp2
  go_loopw [4] (fun i wr => MapRel Plain.low w.heap.size s w i wr) (fun i _ => s.size - (intOf i).toNat)
  case atStart => exact h0
  case round =>
    obtain ⟨k, hk, rfl, ho, hb⟩ := hrel
    clear h0
    by_cases hlt : k < s.size
    · have hlt' : k < s.data.toList.length := by rw [HSL.out]; exact hlt
      have hc2 : wr.cell? ⟨w.heap.size, k, none⟩ = some (.int .u8 0) := (ho.cellAt k (by omega)).trans (half_at _ _ k hlt')
      have hc3 : wr.frozen? ⟨w.heap.size, k, none⟩ = false := ho.frozenAt k
      have hst := (ho.stored k (.int .u8 ((Plain.low s[k]).toNat : Int))).1
      have hse : (half Plain.low s.data.toList k).set k (.int .u8 ((Plain.low s[k]).toNat : Int)) = half Plain.low s.data.toList (k + 1) := half_set Plain.low s.data.toList k hlt'
      rw [hse, ← lower_val] at hst
      have hR : MapRel Plain.low w.heap.size s w (.int .i64 ((k + 1 : Nat) : Int)) (wr.setCell ⟨w.heap.size, k, none⟩ (.int .u8 (97 + (s[k].toNat : Int) % 26))) := ⟨k + 1, by omega, rfl, hst, hb.setCell (Nat.le_refl _) _⟩
      rw [show ((k + 1 : Nat) : Int) = (k : Int) + 1 from by omega] at hR
      have hcb := s[k].toNat_lt
      clear hst ho hb hse
      go_wp2
      go_roundw
      case rel => exact hR
      case measure => simp [intOf]; omega
    · have hks : k = s.size := by omega
      have hh : half Plain.low s.data.toList k = cs (s.data.toList.map Plain.low) := by rw [hks, ← HSL.out, half_end]
      rw [hh] at ho
      have hstr := run_own wr w.heap.size w.heap.size s.size s.size (s.data.toList.map Plain.low) (by simp) ho
      clear ho hh hks
      go_wp2
      go_ret
      exact ⟨rfl, hb⟩

theorem flip_val (c : UInt8) : (bits .xor .u8 (c.toNat : Int) 32 : Int) = ((Plain.flip c).toNat : Int) := by
  rw [Plain.flip_toNat]
  exact u8_xor_nat c.toNat 32 c.toNat_lt (by omega)

set_option maxRecDepth 100000 in
set_option maxHeartbeats 400000 in
theorem flip_any (s : ByteArray) (w : World) (hs : s.size ≤ 1000000000) :
    Calls Try.prog 10 #[.string s] w fun e w' => e = .returned (.string ⟨(s.data.toList.map Plain.flip).toArray⟩) ∧ Below w.heap.size w w' := by
  obtain ⟨i0, hi, hz0, hz1, hz2⟩ := info_parts Try.info5
  have hsl : s.data.toList.length = s.size := by simp
  go_enter Try.func10, Try.ntmps10
  go_wp2_with (at_make; refine wpList_make_full _ rfl _ _ 26 rfl w.heap.size 5 i0 (.int .u8 0) 1 Try.underlying26 hi hz0 hz1 .i64 .i64 _ _ s.size rfl rfl rfl rfl ?b1 ?b2 ?b3 ?_)
  case b1 => rw [hz2]; omega
  case b2 => unfold maxLen; omega
  case b3 => exact Nat.le_refl _
  intro w1 hown hgrow
  have h0 : MapRel Plain.flip w.heap.size s w (.int .i64 0) w1 := by
    refine ⟨0, Nat.zero_le _, rfl, ?_, (Below.refl _ _).grown hgrow (Nat.le_refl _) (by simp)⟩
    rw [half_zero, hsl]
    simpa using hown
  have HSL := mkHid hsl
  clear hown hgrow hsl
  go_wp2
  go_loopw [4] (fun i wr => MapRel Plain.flip w.heap.size s w i wr) (fun i _ => s.size - (intOf i).toNat)
  case atStart => exact h0
  case round =>
    obtain ⟨k, hk, rfl, ho, hb⟩ := hrel
    clear h0
    by_cases hlt : k < s.size
    · have hlt' : k < s.data.toList.length := by rw [HSL.out]; exact hlt
      have hc2 : wr.cell? ⟨w.heap.size, k, none⟩ = some (.int .u8 0) := (ho.cellAt k (by omega)).trans (half_at _ _ k hlt')
      have hc3 : wr.frozen? ⟨w.heap.size, k, none⟩ = false := ho.frozenAt k
      have hst := (ho.stored k (.int .u8 ((Plain.flip s[k]).toNat : Int))).1
      have hse : (half Plain.flip s.data.toList k).set k (.int .u8 ((Plain.flip s[k]).toNat : Int)) = half Plain.flip s.data.toList (k + 1) := half_set Plain.flip s.data.toList k hlt'
      rw [hse, ← flip_val] at hst
      have hR : MapRel Plain.flip w.heap.size s w (.int .i64 ((k + 1 : Nat) : Int)) (wr.setCell ⟨w.heap.size, k, none⟩ (.int .u8 (bits .xor .u8 (s[k].toNat : Int) 32))) := ⟨k + 1, by omega, rfl, hst, hb.setCell (Nat.le_refl _) _⟩
      rw [show ((k + 1 : Nat) : Int) = (k : Int) + 1 from by omega] at hR
      have hcb := s[k].toNat_lt
      clear hst ho hb hse
      go_wp2
      go_roundw
      case rel => exact hR
      case measure => simp [intOf]; omega
    · have hks : k = s.size := by omega
      have hh : half Plain.flip s.data.toList k = cs (s.data.toList.map Plain.flip) := by rw [hks, ← HSL.out, half_end]
      rw [hh] at ho
      have hstr := run_own wr w.heap.size w.heap.size s.size s.size (s.data.toList.map Plain.flip) (by simp) ho
      clear ho hh hks
      go_wp2
      go_ret
      exact ⟨rfl, hb⟩

end Go.Proofs.Qxb6628919a
