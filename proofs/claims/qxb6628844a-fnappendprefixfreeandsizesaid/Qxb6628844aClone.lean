/-
  THE WALK of zzClone (function 7).
-/
import Derived.Test.Qxb6628844aUv
import Derived.WalkSpells
import Derived.Lib.SliceRun
namespace Go.Proofs.Qxb6628844a
open Go.RowKit

/-- k cells have been copied, the rest are zero. -/
def half (zs : List Int) (k : Nat) : List Value := (zs.take k ++ List.replicate (zs.length - k) 0).map (Value.int .u8)

theorem half_zero (zs : List Int) : half zs 0 = (madeCells #[Value.int .u8 0] zs.length).toList := by
  rw [toList_madeCells_one]
  simp [half]

theorem half_end (zs : List Int) : half zs zs.length = zs.map (Value.int .u8) := by simp [half]

theorem half_set (zs : List Int) (k : Nat) (h : k < zs.length) : (half zs k).set k (Value.int .u8 (zs.getD k 0)) = half zs (k + 1) := by
  apply List.ext_getElem?
  intro j
  have hg : zs.getD k 0 = zs[k] := by simp [List.getD, h]
  rw [hg, List.getElem?_set]
  simp only [half, List.getElem?_map, List.getElem?_append, List.length_map, List.length_append, List.length_take, List.length_replicate, List.getElem?_take, List.getElem?_replicate]
  rw [show min k zs.length = k from by omega, show min (k + 1) zs.length = k + 1 from by omega, show k + (zs.length - k) = zs.length from by omega]
  by_cases e : k = j
  · subst e
    rw [if_pos rfl, if_pos h, if_pos (by omega), if_pos (by omega), List.getElem?_eq_getElem h]
    rfl
  · rw [if_neg e]
    by_cases hlt : j < k
    · rw [if_pos (by omega), if_pos (by omega), if_pos (by omega), if_pos (by omega)]
    · rw [if_neg (show ¬ j < k from hlt), if_neg (show ¬ j < k + 1 from by omega)]
      by_cases hj : j < zs.length
      · rw [if_pos (by omega), if_pos (by omega)]
      · rw [if_neg (by omega), if_neg (by omega)]

theorem half_at (zs : List Int) (k : Nat) (h : k < zs.length) : (half zs k)[k]? = some (Value.int .u8 0) := by
  simp only [half, List.getElem?_map, List.getElem?_append, List.length_take, List.getElem?_replicate]
  rw [if_neg (by omega), if_pos (by omega)]
  rfl

/-- The loop's relation. -/
def CloneRel (B : Nat) (zs : List Int) (w : World) (i : Value) (wr : World) : Prop :=
  ∃ k : Nat, k ≤ zs.length ∧ i = .int .i64 k ∧ wr.ownsRow B 5 1 (.slice (some ⟨B, 0, none⟩) zs.length zs.length) zs.length (half zs k) ∧ Below B w wr

set_option maxRecDepth 100000 in
set_option maxHeartbeats 400000 in
theorem clone_any (ao : Option Addr) (len cap : Nat) (zs : List Int) (w : World) (h : Bs w none ao len cap zs) (hbd : len ≤ 1000000000) :
    Calls Try.prog 7 #[.slice ao len cap] w fun e w' => ∃ v, e = .returned v ∧ w'.ownsRow w.heap.size 5 1 v zs.length (zs.map (Value.int .u8)) ∧ Below w.heap.size w w' := by
  obtain ⟨i0, hi, hz0, hz1, hz2⟩ := info_parts Try.info5
  have q22 : ∀ (w : World) (a : Option Addr) (n c n' c' : Nat), (binOp .eql 22 (.slice a n c) (.slice none n' c')).run Try.prog w = .ok (.bool a.isNone) w := fun w a n c n' c' => Lib.run_eql_slice_nil w _ _ a n c n' c' Try.underlying22
  have hl := h.hlen
  subst hl
  cases ao with
  | none =>
    have h0 := h.nil rfl
    have hzs : zs = [] := List.eq_nil_of_length_eq_zero h0.1
    subst hzs
    clear h h0
    go_enter Try.func7, Try.ntmps7
    go_wp2
    go_ret
    exact ⟨_, rfl, World.ownsRow_nil _ _ _ _, Below.refl _ _⟩
  | some a =>
    have hcell : ∀ k, k < zs.length → ∃ b off, a = ⟨b, off, none⟩ ∧ b < w.heap.size ∧ w.cell? ⟨b, off + k, none⟩ = some (.int .u8 (zs.getD k 0)) := by
      intro k hk
      obtain ⟨b, off, he, _, hc⟩ := h.cells (by omega)
      exact ⟨b, off, Option.some.inj he, World.block_lt_of_cell? w _ (hc k hk), hc k hk⟩
    have HC : Hid (∀ k, k < zs.length → ∃ b off, a = ⟨b, off, none⟩ ∧ b < w.heap.size ∧ w.cell? ⟨b, off + k, none⟩ = some (.int .u8 (zs.getD k 0))) := hcell
    clear hcell
    go_enter Try.func7, Try.ntmps7
    go_wp2_with (at_make; refine wpList_make_full _ rfl _ _ 22 rfl w.heap.size 5 i0 (.int .u8 0) 1 Try.underlying22 hi hz0 hz1 .i64 .i64 _ _ zs.length rfl rfl rfl rfl ?b1 ?b2 ?b3 ?_)
    case b1 => rw [hz2]; omega
    case b2 => unfold maxLen; omega
    case b3 => exact Nat.le_refl _
    intro w1 hown hgrow
    have h0 : CloneRel w.heap.size zs w (.int .i64 0) w1 := ⟨0, Nat.zero_le _, rfl, by rw [half_zero]; exact hown, (Below.refl _ _).grown hgrow (Nat.le_refl _) (by simp)⟩
    clear hown hgrow
    go_wp2
    go_loopw [4] (fun i wr => CloneRel w.heap.size zs w i wr) (fun i _ => zs.length - (intOf i).toNat)
    case atStart => exact h0
    case round =>
      obtain ⟨k, hk, rfl, ho, hb⟩ := hrel
      clear h0
      by_cases hlt : k < zs.length
      · obtain ⟨b, off, rfl, hbw, hc⟩ := HC.out k hlt
        have hc1 : wr.cell? ⟨b, off + k, none⟩ = some (.int .u8 (zs.getD k 0)) := (hb.cell (by exact hbw)).trans hc
        have hc2 : wr.cell? ⟨w.heap.size, k, none⟩ = some (.int .u8 0) := (ho.cellAt k (by omega)).trans (half_at zs k hlt)
        have hc3 : wr.frozen? ⟨w.heap.size, k, none⟩ = false := ho.frozenAt k
        have hst := ho.stored k (.int .u8 (zs.getD k 0))
        rw [half_set zs k hlt] at hst
        obtain ⟨z, hz⟩ : ∃ z, z = zs.getD k 0 := ⟨_, rfl⟩
        rw [← hz] at hc1 hst
        have hR : CloneRel w.heap.size zs w (.int .i64 ((k + 1 : Nat) : Int)) (wr.setCell ⟨w.heap.size, k, none⟩ (.int .u8 z)) := ⟨k + 1, by omega, rfl, hst.1, hb.setCell (Nat.le_refl _) _⟩
        rw [show ((k + 1 : Nat) : Int) = (k : Int) + 1 from by omega] at hR
        clear hst ho hb hc hz
        go_wp2
        go_roundw
        case rel => exact hR
        case measure => simp [intOf]; omega
      · obtain rfl : k = zs.length := by omega
        rw [half_end] at ho
        go_wp2
        go_ret
        exact ⟨_, rfl, ho, hb⟩
end Go.Proofs.Qxb6628844a
