/-
  SMALL LAWS ON WORLDS for seat b6628844a: what a call that appends to a slice of its own leaves as it was; a slice of bytes that is read.
-/
import Derived.WalkKit
import Derived.Maps.AppendAt
import Derived.Laws.AppendOwnNone
namespace Go.Proofs.Qxb6628844a
open Go.RowKit

/-- From w to w' nothing has turned but the row of the slice v; the slice that is now v' lies in that row, or in a block that was not there. -/
structure Step (w w' : World) (v v' : Value) : Prop where
  os : w'.os = w.os
  tape : w'.tape = w.tape
  output : w'.output = w.output
  size : w.heap.size ≤ w'.heap.size
  block : ∀ k, k < w.heap.size → some k ≠ v.ownBlock → w'.heap[k]? = w.heap[k]?
  row : v'.ownBlock = v.ownBlock ∨ ∀ k, v'.ownBlock = some k → w.heap.size ≤ k

theorem Step.refl (w : World) (v : Value) : Step w w v v := ⟨rfl, rfl, rfl, Nat.le_refl _, fun _ _ _ => rfl, .inl rfl⟩

theorem Step.ne {w w' : World} {v v' : Value} (h : Step w w' v v') {k : Nat} (hk : k < w.heap.size) (hn : some k ≠ v.ownBlock) : some k ≠ v'.ownBlock := by
  intro e
  rcases h.row with hr | hr
  · exact hn (e.trans hr)
  · have := hr k e.symm
    omega

theorem Step.trans {a b c : World} {u v x : Value} (h : Step a b u v) (k : Step b c v x) : Step a c u x := by
  refine ⟨k.os.trans h.os, k.tape.trans h.tape, k.output.trans h.output, Nat.le_trans h.size k.size, fun i hi hn => ?_, ?_⟩
  · exact (k.block i (Nat.lt_of_lt_of_le hi h.size) (h.ne hi hn)).trans (h.block i hi hn)
  · rcases k.row with hk | hk
    · rcases h.row with hh | hh
      · exact .inl (hk.trans hh)
      · exact .inr fun i hi => hh i (hk.symm.trans hi)
    · exact .inr fun i hi => Nat.le_trans h.size (hk i hi)

theorem Step.alloc (w : World) (o : Obj) (v : Value) : Step w (w.alloc o) v v :=
  ⟨rfl, rfl, rfl, by simp, fun k hk _ => Below.heap_alloc w o k hk, .inl rfl⟩

theorem Step.drew (w : World) (v : Value) : Step w w.drew v v := ⟨rfl, rfl, rfl, Nat.le_refl _, fun _ _ _ => rfl, .inl rfl⟩

theorem Step.grown {w w' : World} {v v' : Value} (hg : w.grownBy w' v.ownBlock) (hat : v'.ownBlock = v.ownBlock ∨ v'.ownBlock = some w.heap.size) : Step w w' v v' := by
  refine ⟨hg.os, hg.tape, hg.output, hg.size, hg.block, ?_⟩
  rcases hat with h | h
  · exact .inl h
  · refine .inr fun k hk => ?_
    rw [h] at hk
    simp at hk
    omega

theorem Step.below {w w' : World} {v v' : Value} (h : Step w w' v v') {B : Nat} (hB : B ≤ w.heap.size) (hv : ∀ k, v.ownBlock = some k → B ≤ k) : Below B w w' :=
  ⟨h.os, h.tape, h.output, h.size, fun k hk => h.block k (by omega) (fun e => by have := hv k e.symm; omega)⟩

theorem ne_off {b o o' : Nat} (h : o ≠ o') : (⟨b, o, none⟩ : Addr) ≠ ⟨b, o', none⟩ := by
  intro e
  exact h (congrArg Addr.off e)

theorem Step.cell {w w' : World} {v v' : Value} (h : Step w w' v v') {a : Addr} {x : Value} (hc : w.cell? a = some x) (hn : some a.block ≠ v.ownBlock) : w'.cell? a = some x :=
  (World.cell?_of_block (h.block a.block (World.block_lt_of_cell? w a hc) hn)).trans hc

/-- A slice of bytes: ao, len, cap, in the world w; it reads zs; it does not lie in the row. -/
structure Bs (w : World) (row : Option Nat) (ao : Option Addr) (len cap : Nat) (zs : List Int) : Prop where
  hlen : zs.length = len
  le : len ≤ cap
  top : cap ≤ maxLen
  nil : ao = none → len = 0 ∧ cap = 0
  cells : 0 < len → ∃ b off, ao = some ⟨b, off, none⟩ ∧ some b ≠ row ∧ ∀ i, i < len → w.cell? ⟨b, off + i, none⟩ = some (.int .u8 (zs.getD i 0))

theorem Bs.step {w w' : World} {v v' : Value} {ao : Option Addr} {len cap : Nat} {zs : List Int} (h : Bs w v.ownBlock ao len cap zs) (s : Step w w' v v') : Bs w' v'.ownBlock ao len cap zs := by
  refine ⟨h.hlen, h.le, h.top, h.nil, fun h0 => ?_⟩
  obtain ⟨b, off, he, hn, hc⟩ := h.cells h0
  have hb : b < w.heap.size := World.block_lt_of_cell? w ⟨b, off + 0, none⟩ (hc 0 h0)
  exact ⟨b, off, he, s.ne hb hn, fun i hi => s.cell (hc i hi) hn⟩

/-- Read in a later world, whatever the row, as long as it is none of the old blocks. -/
theorem Bs.later {w w' : World} {row row' : Option Nat} {ao : Option Addr} {len cap : Nat} {zs : List Int} (h : Bs w row ao len cap zs) (s : Below w.heap.size w w') (hr : row' = row ∨ ∀ k, row' = some k → w.heap.size ≤ k) : Bs w' row' ao len cap zs := by
  refine ⟨h.hlen, h.le, h.top, h.nil, fun h0 => ?_⟩
  obtain ⟨b, off, he, hn, hc⟩ := h.cells h0
  have hb : b < w.heap.size := World.block_lt_of_cell? w ⟨b, off + 0, none⟩ (hc 0 h0)
  refine ⟨b, off, he, ?_, fun i hi => (s.cell (by exact hb)).trans (hc i hi)⟩
  rcases hr with rfl | hr
  · exact hn
  · intro e
    have := hr b e.symm
    omega

end Go.Proofs.Qxb6628844a
