/-
  THE WALK of zzRecord (function 8).
-/
import Derived.Test.Qxb6628844aVers
import Derived.WalkSpells
import Derived.Lib.SliceRun
import Derived.Deep.RegionHeld3
namespace Go.Proofs.Qxb6628844a
open Go.RowKit

theorem Try.info40 : (Try.prog.info? 40).map (fun i => (i.zero, i.size, i.bytes)) = some (some (.agg #[.slice none 0 0, .bool false, .int .u64 0, .int .u64 0, .int .u64 0]), 5, 56) := by kernel_rfl

/-- The five cells of a version lie at ⟨b, o⟩; its value's slice reads what it read in w. -/
def FiveAt (w : World) (row : Option Nat) (wr : World) (b o : Nat) (v : Plain.Vr) : Prop :=
  (∃ a c, wr.cell? ⟨b, o, none⟩ = some (.slice a v.val.length c) ∧ Bs w row a v.val.length c v.val) ∧ wr.cell? ⟨b, o + 1, none⟩ = some (.bool v.pres) ∧ wr.cell? ⟨b, o + 2, none⟩ = some (.int .u64 v.wa) ∧
    wr.cell? ⟨b, o + 3, none⟩ = some (.int .u64 v.vu) ∧ wr.cell? ⟨b, o + 4, none⟩ = some (.int .u64 v.ep)

/-- The loop's relation. B: the heap's size when the call began; the record's variable is block B, the versions' row block B + 1. -/
def RecRel (B : Nat) (w : World) (row : Option Nat) (vs : List Plain.Vr) (i : Value) (wr : World) : Prop :=
  ∃ (k : Nat) (xs : List Value), k ≤ vs.length ∧ i = .int .i64 k ∧ wr.ownsRow (B + 1) 40 5 (.slice (some ⟨B + 1, 0, none⟩) vs.length vs.length) vs.length xs ∧
    (∀ j (h : j < vs.length), j < k → FiveAt w row wr (B + 1) (j * 5) vs[j]) ∧ Below B w wr ∧ wr.heap[B]? = some (.cells #[.slice none 0 0, .slice none 0 0] 28 (0, 0))

theorem cell_other {w : World} {b o o' : Nat} {x : Value} (h : o ≠ o') : (w.setCell ⟨b, o, none⟩ x).cell? ⟨b, o', none⟩ = w.cell? ⟨b, o', none⟩ := World.cell?_setCell_other _ _ _ _ (ne_off h)
theorem cell_same {w : World} {a : Addr} {x u : Value} (h : w.cell? a = some u) : (w.setCell a x).cell? a = some x := World.cell?_setCell_same _ _ _ h

/-- The five stores of a round. -/
def five (wr : World) (b o : Nat) (x0 x1 x2 x3 x4 : Value) : World :=
  ((((wr.setCell ⟨b, o, none⟩ x0).setCell ⟨b, o + 1, none⟩ x1).setCell ⟨b, o + 2, none⟩ x2).setCell ⟨b, o + 3, none⟩ x3).setCell ⟨b, o + 4, none⟩ x4

theorem five_out (wr : World) (b o o' : Nat) (x0 x1 x2 x3 x4 : Value) (h : o' < o ∨ o + 5 ≤ o') : (five wr b o x0 x1 x2 x3 x4).cell? ⟨b, o', none⟩ = wr.cell? ⟨b, o', none⟩ := by
  unfold five
  rw [cell_other (by omega), cell_other (by omega), cell_other (by omega), cell_other (by omega), cell_other (by omega)]

theorem five_in (wr : World) (b o : Nat) (x0 x1 x2 x3 x4 : Value) (h : ∀ j, j < 5 → ∃ z, wr.cell? ⟨b, o + j, none⟩ = some z) :
    (five wr b o x0 x1 x2 x3 x4).cell? ⟨b, o, none⟩ = some x0 ∧ (five wr b o x0 x1 x2 x3 x4).cell? ⟨b, o + 1, none⟩ = some x1 ∧ (five wr b o x0 x1 x2 x3 x4).cell? ⟨b, o + 2, none⟩ = some x2 ∧
      (five wr b o x0 x1 x2 x3 x4).cell? ⟨b, o + 3, none⟩ = some x3 ∧ (five wr b o x0 x1 x2 x3 x4).cell? ⟨b, o + 4, none⟩ = some x4 := by
  obtain ⟨z0, h0⟩ := h 0 (by omega)
  obtain ⟨z1, h1⟩ := h 1 (by omega)
  obtain ⟨z2, h2⟩ := h 2 (by omega)
  obtain ⟨z3, h3⟩ := h 3 (by omega)
  obtain ⟨z4, h4⟩ := h 4 (by omega)
  rw [Nat.add_zero] at h0
  unfold five
  refine ⟨?_, ?_, ?_, ?_, ?_⟩
  · rw [cell_other (by omega), cell_other (by omega), cell_other (by omega), cell_other (by omega)]
    exact cell_same h0
  · rw [cell_other (by omega), cell_other (by omega), cell_other (by omega)]
    refine cell_same (u := z1) ?_
    rw [cell_other (by omega)]
    exact h1
  · rw [cell_other (by omega), cell_other (by omega)]
    refine cell_same (u := z2) ?_
    rw [cell_other (by omega), cell_other (by omega)]
    exact h2
  · rw [cell_other (by omega)]
    refine cell_same (u := z3) ?_
    rw [cell_other (by omega), cell_other (by omega), cell_other (by omega)]
    exact h3
  · refine cell_same (u := z4) ?_
    rw [cell_other (by omega), cell_other (by omega), cell_other (by omega), cell_other (by omega)]
    exact h4

theorem rec_step (B : Nat) (w : World) (row : Option Nat) (vs : List Plain.Vr) (k : Nat) (xs : List Value) (wr : World) (hlt : k < vs.length)
    (ho : wr.ownsRow (B + 1) 40 5 (.slice (some ⟨B + 1, 0, none⟩) vs.length vs.length) vs.length xs) (hf : ∀ j (h : j < vs.length), j < k → FiveAt w row wr (B + 1) (j * 5) vs[j]) (hb : Below B w wr)
    (hrc : wr.heap[B]? = some (.cells #[.slice none 0 0, .slice none 0 0] 28 (0, 0))) (a0 : Option Addr) (c0 : Nat) (hbs : Bs w row a0 vs[k].val.length c0 vs[k].val) :
    RecRel B w row vs (.int .i64 ((k : Int) + 1)) (five wr (B + 1) (k * 5) (.slice a0 vs[k].val.length c0) (.bool vs[k].pres) (.int .u64 vs[k].wa) (.int .u64 vs[k].vu) (.int .u64 vs[k].ep)).drew := by
  have hxl := ho.1
  have hin := five_in wr (B + 1) (k * 5) (.slice a0 vs[k].val.length c0) (.bool vs[k].pres) (.int .u64 vs[k].wa) (.int .u64 vs[k].vu) (.int .u64 vs[k].ep)
    (fun j hj => ⟨_, (ho.cellAt (k * 5 + j) (by omega)).trans (List.getElem?_eq_getElem (by omega))⟩)
  have hout := fun o' h => five_out wr (B + 1) (k * 5) o' (.slice a0 vs[k].val.length c0) (.bool vs[k].pres) (.int .u64 vs[k].wa) (.int .u64 vs[k].vu) (.int .u64 vs[k].ep) h
  have how : ∃ ys, (five wr (B + 1) (k * 5) (.slice a0 vs[k].val.length c0) (.bool vs[k].pres) (.int .u64 vs[k].wa) (.int .u64 vs[k].vu) (.int .u64 vs[k].ep)).ownsRow (B + 1) 40 5 (.slice (some ⟨B + 1, 0, none⟩) vs.length vs.length) vs.length ys :=
    ⟨_, (((((ho.stored _ _).1.stored _ _).1.stored _ _).1.stored _ _).1.stored _ _).1⟩
  have hbe : Below B w (five wr (B + 1) (k * 5) (.slice a0 vs[k].val.length c0) (.bool vs[k].pres) (.int .u64 vs[k].wa) (.int .u64 vs[k].vu) (.int .u64 vs[k].ep)) :=
    ((((hb.setCell (p := ⟨B + 1, _, none⟩) (Nat.le_succ B) _).setCell (p := ⟨B + 1, _, none⟩) (Nat.le_succ B) _).setCell (p := ⟨B + 1, _, none⟩) (Nat.le_succ B) _).setCell (p := ⟨B + 1, _, none⟩) (Nat.le_succ B) _).setCell (p := ⟨B + 1, _, none⟩) (Nat.le_succ B) _
  have hhp : (five wr (B + 1) (k * 5) (.slice a0 vs[k].val.length c0) (.bool vs[k].pres) (.int .u64 vs[k].wa) (.int .u64 vs[k].vu) (.int .u64 vs[k].ep)).heap[B]? = some (.cells #[.slice none 0 0, .slice none 0 0] 28 (0, 0)) := by
    unfold five
    rw [Below.heap_setCell _ _ _ _ (by simp), Below.heap_setCell _ _ _ _ (by simp), Below.heap_setCell _ _ _ _ (by simp), Below.heap_setCell _ _ _ _ (by simp), Below.heap_setCell _ _ _ _ (by simp)]
    exact hrc
  generalize five wr (B + 1) (k * 5) (.slice a0 vs[k].val.length c0) (.bool vs[k].pres) (.int .u64 vs[k].wa) (.int .u64 vs[k].vu) (.int .u64 vs[k].ep) = W at *
  obtain ⟨ys, how⟩ := how
  refine ⟨k + 1, ys, by omega, by go_num, how.drew, ?_, hbe.drew, hhp⟩
  intro j hj hjk
  unfold FiveAt
  simp only [World.cell?_drew]
  by_cases e : j = k
  · subst e
    exact ⟨⟨a0, c0, hin.1, hbs⟩, hin.2⟩
  · obtain ⟨⟨a, c, f0, fb⟩, f1, f2, f3, f4⟩ := hf j hj (by omega)
    exact ⟨⟨a, c, (hout _ (by omega)).trans f0, fb⟩, (hout _ (by omega)).trans f1, (hout _ (by omega)).trans f2, (hout _ (by omega)).trans f3, (hout _ (by omega)).trans f4⟩

theorem Vs.cells64 {w : World} {row : Option Nat} {ao : Option Addr} {len cap : Nat} {vs : List Plain.Vr} (h : Vs w row ao len cap vs) : ∀ i (h : i < vs.length), vs[i].wa < 18446744073709551616 ∧ vs[i].vu < 18446744073709551616 ∧ vs[i].ep < 18446744073709551616 := by
  intro i hi
  have hl := h.hlen
  obtain ⟨b, off, _, _, hc⟩ := h.cells (by omega)
  exact ⟨(hc i hi).wa64, (hc i hi).vu64, (hc i hi).ep64⟩

theorem rec_end (B : Nat) (w : World) (row : Option Nat) (vs : List Plain.Vr) (xs : List Value) (wr : World) (hB : B = w.heap.size)
    (ho : wr.ownsRow (B + 1) 40 5 (.slice (some ⟨B + 1, 0, none⟩) vs.length vs.length) vs.length xs) (hf : ∀ j (h : j < vs.length), j < vs.length → FiveAt w row wr (B + 1) (j * 5) vs[j]) (hb : Below B w wr)
    (hrow : ∀ k, row = some k → k < w.heap.size) (h64 : ∀ i (h : i < vs.length), vs[i].wa < 18446744073709551616 ∧ vs[i].vu < 18446744073709551616 ∧ vs[i].ep < 18446744073709551616) (x y : Value) :
    Vs ((wr.setCell ⟨B, 0, none⟩ x).setCell ⟨B, 1, none⟩ y) row (some ⟨B + 1, 0, none⟩) vs.length vs.length vs ∧ Below B w ((wr.setCell ⟨B, 0, none⟩ x).setCell ⟨B, 1, none⟩ y) := by
  have hb' : Below B w ((wr.setCell ⟨B, 0, none⟩ x).setCell ⟨B, 1, none⟩ y) := (hb.setCell (p := ⟨B, 0, none⟩) (Nat.le_refl B) _).setCell (p := ⟨B, 1, none⟩) (Nat.le_refl B) _
  refine ⟨⟨rfl, Nat.le_refl _, ?_, fun h => by simp at h, fun h0 => ⟨B + 1, 0, rfl, ?_, fun i hi => ?_⟩⟩, hb'⟩
  · rcases ho.2 with ⟨h, _⟩ | ⟨g, cap, cur, h, _, _, _, hm, _⟩
    · simp at h
    · simp at h
      omega
  · intro e
    have := hrow _ e.symm
    omega
  · obtain ⟨⟨a, c, f0, fb⟩, f1, f2, f3, f4⟩ := hf i hi hi
    rw [Nat.zero_add]
    have out : ∀ o, ((wr.setCell ⟨B, 0, none⟩ x).setCell ⟨B, 1, none⟩ y).cell? ⟨B + 1, o, none⟩ = wr.cell? ⟨B + 1, o, none⟩ := by
      intro o
      rw [World.cell?_setCell_far _ _ _ _ (by simp), World.cell?_setCell_far _ _ _ _ (by simp)]
    subst hB
    exact ⟨⟨a, c, (out _).trans f0, fb.later hb' (.inl rfl)⟩, (out _).trans f1, (out _).trans f2, (out _).trans f3, (out _).trans f4, (h64 i hi).1, (h64 i hi).2.1, (h64 i hi).2.2⟩

set_option maxRecDepth 100000 in
set_option maxHeartbeats 1000000 in
theorem record_any (ka va : Option Addr) (kl kc vl vc : Nat) (vs : List Plain.Vr) (row : Option Nat) (w : World) (hv : Vs w row va vl vc vs) (hbd : vl ≤ 1048576) (hrow : ∀ k, row = some k → k < w.heap.size) :
    Calls Try.prog 8 #[.slice ka kl kc, .slice va vl vc] w fun e w' => ∃ a' c', e = .returned (.agg #[.slice ka kl kc, .slice a' vl c']) ∧ Vs w' row a' vl c' vs ∧ Below w.heap.size w w' := by
  obtain ⟨i0, hi, hz0, hz1, hz2⟩ := info_parts Try.info40
  have q23 : ∀ (w : World) (a : Option Addr) (n c n' c' : Nat), (binOp .neq 23 (.slice a n c) (.slice none n' c')).run Try.prog w = .ok (.bool (!a.isNone)) w := fun w a n c n' c' => run_neq_slice_nil_any w _ _ a n c n' c' Try.underlying23
  have hl := hv.hlen
  subst hl
  cases va with
  | none =>
    have h0 := hv.nil rfl
    have hzs : vs = [] := List.eq_nil_of_length_eq_zero h0.1
    subst hzs
    clear h0
    go_enter Try.func8, Try.ntmps8
    go_wp2
    refine bodyPost_ret (v := .agg #[.slice ka kl kc, .slice none 0 0]) (by simp [results, Try.results8, go_sem]) rfl ⟨none, 0, rfl, ⟨rfl, Nat.le_refl _, Nat.zero_le _, fun _ => ⟨rfl, rfl⟩, fun h => absurd h (Nat.lt_irrefl _)⟩, (Below.refl _ _).alloc (Nat.le_refl _) _⟩
  | some a =>
    go_enter Try.func8, Try.ntmps8
    go_wp2_with (at_make; refine wpList_make_full _ rfl _ _ 26 rfl (w.heap.size + 1) 40 i0 (.agg #[.slice none 0 0, .bool false, .int .u64 0, .int .u64 0, .int .u64 0]) 5 Try.underlying26 hi hz0 hz1 .i64 .i64 _ _ vs.length rfl rfl rfl rfl ?b1 ?b2 ?b3 ?_)
    case b1 => rw [hz2]; omega
    case b2 => unfold maxLen; omega
    case b3 => simp
    intro w1 hown hgrow
    have h0 : RecRel w.heap.size w row vs (.int .i64 0) w1 := by
      refine ⟨0, _, Nat.zero_le _, rfl, hown, fun _ _ h => absurd h (Nat.not_lt_zero _), ?_, ?_⟩
      · exact ((Below.refl _ w).alloc (Nat.le_refl _) _).grown hgrow (by simp) (by simp)
      · rw [hgrow.block _ (by simp) (by simp)]
        exact heap_alloc_new w _
    clear hown hgrow
    go_wp2
    go_loopw [6] (fun i wr => RecRel w.heap.size w row vs i wr) (fun i _ => vs.length - (intOf i).toNat)
    case atStart => exact h0
    case round =>
      obtain ⟨k, xs, hk, rfl, ho, hf, hb, hrc⟩ := hrel
      clear h0
      by_cases hlt : k < vs.length
      · obtain ⟨b, off, he, hnr, hc⟩ := hv.cells (by omega)
        obtain rfl := Option.some.inj he
        have hvk := hc k hlt
        obtain ⟨a0, c0, v0, hbs⟩ := hvk.val
        have hbw : b < w.heap.size := World.block_lt_of_cell? w _ v0
        have c0' : wr.cell? ⟨b, off + k * 5, none⟩ = some (.slice a0 vs[k].val.length c0) := (hb.cell (by exact hbw)).trans v0
        have c1' : wr.cell? ⟨b, off + k * 5 + 1, none⟩ = some (.bool vs[k].pres) := (hb.cell (by exact hbw)).trans hvk.pres
        have c2' : wr.cell? ⟨b, off + k * 5 + 2, none⟩ = some (.int .u64 vs[k].wa) := (hb.cell (by exact hbw)).trans hvk.wa
        have c3' : wr.cell? ⟨b, off + k * 5 + 3, none⟩ = some (.int .u64 vs[k].vu) := (hb.cell (by exact hbw)).trans hvk.vu
        have c4' : wr.cell? ⟨b, off + k * 5 + 4, none⟩ = some (.int .u64 vs[k].ep) := (hb.cell (by exact hbw)).trans hvk.ep
        obtain ⟨y0, hy0⟩ : ∃ y, y = vs[k].val.length := ⟨_, rfl⟩
        obtain ⟨y1, hy1⟩ : ∃ y, y = vs[k].pres := ⟨_, rfl⟩
        obtain ⟨y2, hy2⟩ : ∃ y, y = vs[k].wa := ⟨_, rfl⟩
        obtain ⟨y3, hy3⟩ : ∃ y, y = vs[k].vu := ⟨_, rfl⟩
        obtain ⟨y4, hy4⟩ : ∃ y, y = vs[k].ep := ⟨_, rfl⟩
        rw [← hy0] at c0'
        rw [← hy1] at c1'
        rw [← hy2] at c2'
        rw [← hy3] at c3'
        rw [← hy4] at c4'
        have hxl := ho.1
        have fz : ∀ j, wr.frozen? ⟨w.heap.size + 1, j, none⟩ = false := fun j => ho.frozenAt j
        have d0 : ∃ z, wr.cell? ⟨w.heap.size + 1, k * 5, none⟩ = some z := ⟨_, (ho.cellAt (k * 5) (by omega)).trans (List.getElem?_eq_getElem (by omega))⟩
        have d1 : ∃ z, wr.cell? ⟨w.heap.size + 1, k * 5 + 1, none⟩ = some z := ⟨_, (ho.cellAt (k * 5 + 1) (by omega)).trans (List.getElem?_eq_getElem (by omega))⟩
        have d2 : ∃ z, wr.cell? ⟨w.heap.size + 1, k * 5 + 2, none⟩ = some z := ⟨_, (ho.cellAt (k * 5 + 2) (by omega)).trans (List.getElem?_eq_getElem (by omega))⟩
        have d3 : ∃ z, wr.cell? ⟨w.heap.size + 1, k * 5 + 3, none⟩ = some z := ⟨_, (ho.cellAt (k * 5 + 3) (by omega)).trans (List.getElem?_eq_getElem (by omega))⟩
        have d4 : ∃ z, wr.cell? ⟨w.heap.size + 1, k * 5 + 4, none⟩ = some z := ⟨_, (ho.cellAt (k * 5 + 4) (by omega)).trans (List.getElem?_eq_getElem (by omega))⟩
        obtain ⟨z0, d0⟩ := d0
        obtain ⟨z1, d1⟩ := d1
        obtain ⟨z2, d2⟩ := d2
        obtain ⟨z3, d3⟩ := d3
        obtain ⟨z4, d4⟩ := d4
        have g1 : (0 : Int) ≤ (k : Int) := by omega
        have g2 : (k : Int) < (vs.length : Int) := by omega
        have HB : Hid (w.heap.size + 1 < wr.heap.size) := by
          have := (ho.lt (w.heap.size + 1) rfl).2
          exact this
        have hR := rec_step w.heap.size w row vs k xs wr hlt ho hf hb hrc a0 c0 hbs
        unfold five at hR
        clear hf hc hvk hbs v0
        go_wp2
        go_region
        go_wp2
        go_roundw
        case rel => exact hR
        case measure => simp [intOf]; omega
      · obtain rfl : k = vs.length := by omega
        have e0 : wr.cell? ⟨w.heap.size, 0, none⟩ = some (.slice none 0 0) := by rw [cell_of_row wr w.heap.size 0 _ 28 (0, 0) hrc]; rfl
        have e1 : wr.cell? ⟨w.heap.size, 1, none⟩ = some (.slice none 0 0) := by rw [cell_of_row wr w.heap.size 1 _ 28 (0, 0) hrc]; rfl
        have f0 : ∀ j, wr.frozen? ⟨w.heap.size, j, none⟩ = false := fun j => frozen_of_row wr w.heap.size j _ 28 hrc
        have hfin := rec_end w.heap.size w row vs xs wr rfl ho hf hb hrow hv.cells64 (.slice ka kl kc) (.slice (some ⟨w.heap.size + 1, 0, none⟩) vs.length vs.length)
        clear hf ho hb hrc
        go_wp2
        refine bodyPost_ret (v := .agg #[.slice ka kl kc, .slice (some ⟨w.heap.size + 1, 0, none⟩) vs.length vs.length]) (by simp [results, Try.results8, go_sem, e0, e1]) rfl ⟨_, _, rfl, hfin.1, hfin.2⟩
end Go.Proofs.Qxb6628844a
