/-
  THE WALK of FnKindInsertByte (3).
-/
import Derived.Test.Qxb6628953aKit
namespace Go.Proofs.Qxb6628953a
open Go.RowKit

/-- The grown row in block G lies there; the copied value in block B reads zs; nothing below B has turned. -/
structure Lie (w wr : World) (B G : Nat) (zs : List Int) : Prop where
  row : ∃ xs, wr.ownsRow G 5 1 (.slice (some ⟨G, 0, none⟩) (zs.length + 1) (zs.length + 1)) (zs.length + 1) xs
  val : ∀ t, t < zs.length → wr.cell? ⟨B, t, none⟩ = some (.int .u8 (zs.getD t 0))
  below : Below B w wr

theorem Lie.cell {w wr : World} {B G : Nat} {zs : List Int} (h : Lie w wr B G zs) (j : Nat) (hj : j < zs.length + 1) : ∃ v, wr.cell? ⟨G, j, none⟩ = some v := by
  obtain ⟨xs, hx⟩ := h.row
  have hl := hx.1
  exact ⟨_, (hx.cellAt j (by omega)).trans (List.getElem?_eq_getElem (by omega))⟩

theorem Lie.free {w wr : World} {B G : Nat} {zs : List Int} (h : Lie w wr B G zs) (j : Nat) : wr.frozen? ⟨G, j, none⟩ = false := by
  obtain ⟨xs, hx⟩ := h.row
  exact hx.frozenAt j

theorem Lie.set {w wr : World} {B G : Nat} {zs : List Int} (h : Lie w wr B G zs) (hBG : B < G) (j : Nat) (v : Value) : Lie w (wr.setCell ⟨G, j, none⟩ v) B G zs := by
  obtain ⟨xs, hx⟩ := h.row
  refine ⟨⟨_, (hx.stored j v).1⟩, fun t ht => ?_, h.below.setCell (Nat.le_of_lt hBG) _⟩
  rw [World.cell?_setCell_other _ _ _ _ (by intro e; have := congrArg Addr.block e; simp at this; omega)]
  exact h.val t ht

theorem cell_other {w : World} {b o o' : Nat} {x : Value} (h : o ≠ o') : (w.setCell ⟨b, o, none⟩ x).cell? ⟨b, o', none⟩ = w.cell? ⟨b, o', none⟩ :=
  World.cell?_setCell_other _ _ _ _ (by intro e; exact h (congrArg Addr.off e))
theorem cell_same {w : World} {a : Addr} {x u : Value} (h : w.cell? a = some u) : (w.setCell a x).cell? a = some x := World.cell?_setCell_same _ _ _ h

def In1 (w : World) (B G i : Nat) (zs : List Int) (jv : Value) (wr : World) : Prop :=
  ∃ j : Nat, j ≤ i ∧ jv = .int .i64 j ∧ Lie w wr B G zs ∧ (0 < j → wr.cell? ⟨G, 0, none⟩ = some (.int .u8 (zs.getD 0 0)))

/-- behind 'w[i] = c' and while the rest is copied. -/
def In2 (w : World) (B G i : Nat) (c h0 : Int) (zs : List Int) (jv : Value) (wr : World) : Prop :=
  ∃ j : Nat, i ≤ j ∧ j ≤ zs.length ∧ jv = .int .i64 j ∧ Lie w wr B G zs ∧ wr.cell? ⟨G, 0, none⟩ = some (.int .u8 h0) ∧ wr.cell? ⟨G, i, none⟩ = some (.int .u8 c)

set_option maxRecDepth 100000 in
set_option maxHeartbeats 1000000 in
theorem ins_walk (ao : Option Addr) (len cap : Nat) (zs : List Int) (k c : Int) (w : World) (hb : Bs w ao len cap zs) :
    Calls Try.prog 3 #[.slice ao len cap, .int .i64 k, .int .u8 c] w fun e w' => e = .returned (.bool true) ∧ Below w.heap.size w w' := by
  obtain ⟨i0, hi, hz0, hz1, hz2⟩ := info_parts Try.info5
  have q22 : ∀ (w : World) (a : Option Addr) (n c n' c' : Nat), (binOp .neq 22 (.slice a n c) (.slice none n' c')).run Try.prog w = .ok (.bool (!a.isNone)) w := fun w a n c n' c' => run_neq_slice_nil_any w _ _ a n c n' c' Try.underlying22
  have hl := hb.hlen
  subst hl
  go_enter Try.func3, Try.ntmps3
  go_wp2_with fail
  refine (bytes5_any ao _ cap k c w (Nat.le_trans hb.le hb.top)).mono ?_
  rintro e w ⟨⟨r, rfl, hr⟩, rfl⟩
  cases r with
  | false =>
    go_wp2
    go_ret
    exact ⟨rfl, Below.refl _ _⟩
  | true =>
    have hsz := hr rfl
    clear hr
    by_cases hk0 : k < 0
    · go_wp2
      go_ret
      exact ⟨rfl, Below.refl _ _⟩
    · by_cases hkn : k ≤ zs.length
      · obtain ⟨i, rfl⟩ : ∃ i : Nat, k = (i : Int) := ⟨k.toNat, by omega⟩
        cases ao with
        | none =>
          have h0 := hb.nil rfl
          obtain rfl : zs = [] := List.eq_nil_of_length_eq_zero h0.1
          obtain rfl : cap = 0 := h0.2
          obtain rfl : i = 0 := by simp at hkn; omega
          clear h0 hb hkn
          go_wp2_with (at_make; refine wpList_make_full _ rfl _ _ 22 rfl w.heap.size 5 i0 (.int .u8 0) 1 Try.underlying22 hi hz0 hz1 .i64 .i64 _ _ 1 rfl rfl rfl rfl ?b1 ?b2 ?b3 ?_)
          case b1 => rw [hz2]; omega
          case b2 => unfold maxLen; omega
          case b3 => exact Nat.le_refl _
          intro w1 hown hgrow
          have bel1 : Below w.heap.size w w1 := (Below.refl _ _).grown hgrow (Nat.le_refl _) (by simp)
          have hc1 : w1.cell? ⟨w.heap.size, 0, none⟩ = some (.int .u8 0) := by
            rw [hown.cellAt 0 (by omega), toList_madeCells_one]
            rfl
          have hf1 : w1.frozen? ⟨w.heap.size, 0, none⟩ = false := hown.frozenAt 0
          have bel3 : Below w.heap.size w (w1.setCell ⟨w.heap.size, 0, none⟩ (.int .u8 c)) := bel1.setCell (Nat.le_refl _) _
          have hc3 : (w1.setCell ⟨w.heap.size, 0, none⟩ (.int .u8 c)).cell? ⟨w.heap.size, 0, none⟩ = some (.int .u8 c) := cell_same hc1
          clear hown hgrow bel1
          go_wp2
          refine wp_loop_rounds 1 ?_
          rw [rounds_succ]
          go_wp2
          refine wp_loop_rounds 1 ?_
          rw [rounds_succ]
          go_wp2_with fail
          generalize w1.setCell ⟨w.heap.size, 0, none⟩ (.int .u8 c) = w4 at *
          refine (kind_any _ _ _ c _ (by omega) (.inr ⟨by omega, w.heap.size, 0, rfl, hc3⟩)).mono ?_
          rintro e w5 ⟨rfl, rfl⟩
          go_wp2_with fail
          refine (kind_any _ _ _ c _ (by omega) (.inr ⟨by omega, w.heap.size, 0, rfl, hc3⟩)).mono ?_
          rintro e w5 ⟨rfl, rfl⟩
          go_wp2
          go_ret
          exact ⟨rfl, bel3⟩
        | some ad =>
          have hi' : i ≤ zs.length := by omega
          go_wp2_with (at_make; refine wpList_make_full _ rfl _ _ 22 rfl w.heap.size 5 i0 (.int .u8 0) 1 Try.underlying22 hi hz0 hz1 .i64 .i64 _ _ zs.length rfl rfl rfl rfl ?d1 ?d2 ?d3 ?_)
          case d1 => rw [hz2]; omega
          case d2 => unfold maxLen; omega
          case d3 => exact Nat.le_refl _
          intro w1 hown hgrow
          obtain ⟨w2, hcp, own2, bel2⟩ := copy_law w w1 ad zs.length cap zs hb 3 (by simpa using hown) ((Below.refl _ _).grown hgrow (Nat.le_refl _) (by simp))
          clear hown hgrow
          have hlt2 := (own2.lt w.heap.size rfl).2
          go_wp2_with (at_make; refine wpList_make_full _ rfl _ _ 22 rfl w2.heap.size 5 i0 (.int .u8 0) 1 Try.underlying22 hi hz0 hz1 .i64 .i64 _ _ (zs.length + 1) rfl rfl (by omega) (by omega) (by rw [hz2]; omega) (by unfold maxLen; omega) (Nat.le_refl _) ?_)
          intro w3 own3 hgrow3
          have hL3 : Lie w w3 w.heap.size w2.heap.size zs := by
            refine ⟨⟨_, own3⟩, fun t ht => ?_, bel2.grown hgrow3 bel2.size (by simp)⟩
            refine hgrow3.cell ?_ (by simp)
            rw [own2.cellAt t (by omega)]
            simp [List.getD, ht]
          have hstart : In1 w w.heap.size w2.heap.size i zs (.int .i64 0) w3 := ⟨0, Nat.zero_le _, rfl, hL3, fun h => absurd h (Nat.lt_irrefl _)⟩
          clear own3 hgrow3 hL3 hcp own2 bel2 hb
          generalize w2.heap.size = G at *
          obtain ⟨B, hB⟩ : ∃ B, B = w.heap.size := ⟨_, rfl⟩
          rw [← hB] at hlt2 hstart ⊢
          have HB := mkHid hB
          clear hB
          go_wp2
          go_loopw [10] (fun jv wr => In1 w B G i zs jv wr) (fun jv _ => i - (intOf jv).toNat)
          case atStart => exact hstart
          case round =>
            obtain ⟨j, hj, rfl, hL, hfirst⟩ := hrel
            clear hstart
            by_cases hji : j < i
            · have hv := hL.val j (by omega)
              obtain ⟨z, hz⟩ : ∃ z, z = zs.getD j 0 := ⟨_, rfl⟩
              rw [← hz] at hv
              obtain ⟨old, hold⟩ := hL.cell j (by omega)
              have hfr := hL.free j
              have hR : In1 w B G i zs (.int .i64 ((j : Int) + 1)) (wr.setCell ⟨G, j, none⟩ (.int .u8 z)) := by
                refine ⟨j + 1, by omega, by go_num, hL.set hlt2 j _, fun _ => ?_⟩
                by_cases h0 : j = 0
                · subst h0
                  rw [← hz]
                  exact cell_same hold
                · rw [cell_other h0]
                  exact hfirst (by omega)
              clear hL hfirst hz
              go_wp2
              go_roundw
              case rel => exact hR
              case measure => simp [intOf]; omega
            · obtain rfl : j = i := by omega
              obtain ⟨old, hold⟩ := hL.cell j (by omega)
              have hfr := hL.free j
              obtain ⟨h0, hh0⟩ : ∃ h0 : Int, (j = 0 ∧ h0 = c) ∨ (0 < j ∧ h0 = zs.getD 0 0) := by
                by_cases h : j = 0
                · exact ⟨c, .inl ⟨h, rfl⟩⟩
                · exact ⟨zs.getD 0 0, .inr ⟨by omega, rfl⟩⟩
              have hst2 : In2 w B G j c h0 zs (.int .i64 j) (wr.setCell ⟨G, j, none⟩ (.int .u8 c)) := by
                refine ⟨j, Nat.le_refl _, hi', rfl, hL.set hlt2 j _, ?_, cell_same hold⟩
                rcases hh0 with ⟨rfl, rfl⟩ | ⟨h1, rfl⟩
                · exact cell_same hold
                · rw [cell_other (by omega)]
                  exact hfirst h1
              have HH := mkHid hh0
              clear hL hfirst hh0
              obtain ⟨wo, rfl⟩ : ∃ wo : World, wo = wr := ⟨_, rfl⟩
              go_wp2
              go_loopw [11] (fun jv wr => In2 w B G j c h0 zs jv wr) (fun jv _ => zs.length - (intOf jv).toNat)
              case atStart => exact hst2
              case round =>
                obtain ⟨q, hq1, hq2, rfl, hL, hc0, hci⟩ := hrel
                clear hst2
                by_cases hqn : q < zs.length
                · have hv := hL.val q hqn
                  obtain ⟨z, hz⟩ : ∃ z, z = zs.getD q 0 := ⟨_, rfl⟩
                  rw [← hz] at hv
                  obtain ⟨old2, hold2⟩ := hL.cell (q + 1) (by omega)
                  have hfr2 := hL.free (q + 1)
                  have hR : In2 w B G j c h0 zs (.int .i64 ((q : Int) + 1)) (wr.setCell ⟨G, q + 1, none⟩ (.int .u8 z)) := by
                    refine ⟨q + 1, by omega, by omega, by go_num, hL.set hlt2 (q + 1) _, ?_, ?_⟩
                    · rw [cell_other (by omega)]; exact hc0
                    · rw [cell_other (by omega)]; exact hci
                  clear hL hz hc0 hci
                  go_wp2
                  go_roundw
                  case rel => exact hR
                  case measure => simp [intOf]; omega
                · have bel := hL.below
                  rw [HB.out] at bel
                  have hval := hL.val
                  have HV := mkHid hval
                  clear hL hval
                  go_wp2_with fail
                  refine (kind_any _ _ _ h0 _ (by omega) (.inr ⟨by omega, G, 0, rfl, hc0⟩)).mono ?_
                  rintro e w6 ⟨rfl, rfl⟩
                  go_wp2_with fail
                  refine (kind_any _ _ _ c _ (by omega) (.inr ⟨by omega, G, j, rfl, hci⟩)).mono ?_
                  rintro e w6 ⟨rfl, rfl⟩
                  rcases HH.out with ⟨hj0, rfl⟩ | ⟨hj0, hh⟩
                  · have hjz : ((j : Int) == 0) = true := by rw [beq_iff_eq]; omega
                    clear hj0
                    go_wp2
                    go_ret
                    exact ⟨rfl, bel⟩
                  · have hjz : ((j : Int) == 0) = false := by rw [beq_eq_false_iff_ne]; omega
                    have hb0 := HV.out 0 (by omega)
                    rw [← hh] at hb0
                    clear hh
                    go_wp2_with fail
                    refine (kind_any _ _ _ h0 _ (by omega) (.inr ⟨by omega, B, 0, rfl, hb0⟩)).mono ?_
                    rintro e w6 ⟨rfl, rfl⟩
                    go_wp2
                    go_ret
                    exact ⟨rfl, bel⟩
      · go_wp2
        go_ret
        exact ⟨rfl, Below.refl _ _⟩
end Go.Proofs.Qxb6628953a
