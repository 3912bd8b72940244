/-
  THE LAW's ARGUMENTS OPENED: a slice of bytes; a slice of versions.
-/
import Derived.Test.Qxb6628844aVers
import Derived.ProofKit
import Derived.OpenShut
import Derived.Deep.Slices
namespace Go.Proofs.Qxb6628844a
open Go.ChangeShapes Go.WideShapes Go.ChangeAt Go.RowKit

theorem Try.cells5 : Try.prog.cellsOf 5 = 1 := by kernel_rfl
theorem Try.cells22 : Try.prog.cellsOf 22 = 1 := by kernel_rfl
theorem Try.cells4 : Try.prog.cellsOf 4 = 1 := by kernel_rfl
theorem Try.cells31 : Try.prog.cellsOf 31 = 1 := by kernel_rfl
theorem Try.cells35 : Try.prog.cellsOf 35 = 5 := by kernel_rfl

/-- From 'for every i < n there is a v' to one list. -/
theorem list_of {α : Type} {n : Nat} {p : Nat → α → Prop} (h : ∀ i, i < n → ∃ v, p i v) : ∃ vs : List α, vs.length = n ∧ ∀ i (h : i < vs.length), p i vs[i] := by
  induction n with
  | zero => exact ⟨[], rfl, fun i hi => absurd hi (Nat.not_lt_zero _)⟩
  | succ k ih =>
    obtain ⟨vs, h1, h2⟩ := ih (fun i hi => h i (by omega))
    obtain ⟨v, h3⟩ := h k (by omega)
    refine ⟨vs ++ [v], by simp [h1], fun i hi => ?_⟩
    by_cases e : i < vs.length
    · rw [List.getElem_append_left e]
      exact h2 i e
    · obtain rfl : i = k := by simp at hi; omega
      rw [List.getElem_append_right (by omega)]
      simpa [h1] using h3

section
variable {H : Type} {enc : TypeId × Value → H} {w : World} {fuel : Nat}

theorem open_bs {cs : List Value} {x : DataW H × List MemPlace} (h : DataW.trod enc Try.prog w 0 (fun _ => true) true fuel 22 cs = some x) :
    ∃ ao len cap zs, cs = [.slice ao len cap] ∧ Bs w none ao len cap zs := by
  rcases open_ints Try.underlying22 Try.underlying5 Try.cells5 h with ⟨rfl, _⟩ | ⟨a, len, cap, zs, rfl, _, hl, hm, hz, _, hcell, _⟩
  · exact ⟨none, 0, 0, [], rfl, rfl, Nat.le_refl _, Nat.zero_le _, fun _ => ⟨rfl, rfl⟩, fun h => absurd h (Nat.lt_irrefl _)⟩
  · simp only [if_true] at hz
    refine ⟨some a, len, cap, zs.take len, rfl, by simp; omega, hl, hm, fun h => by simp at h, fun h0 => ?_⟩
    obtain ⟨b, off, rfl, hc⟩ := ints_at hcell (by omega)
    refine ⟨b, off, rfl, by simp, fun i hi => ?_⟩
    rw [hc i (by omega)]
    simp [List.getD, hi]

theorem nat_of_wf {n : Int} (h : (Lit.int .u64 n).wf = true) : ∃ m : Nat, n = (m : Int) ∧ m < 18446744073709551616 := by
  have hb := bounds_u64 h
  obtain ⟨m, rfl⟩ := Int.eq_ofNat_of_zero_le hb.1
  exact ⟨m, rfl, by omega⟩

theorem open_ver {a : Addr} {cs : List Value} {x : DataW H × List MemPlace} (hc : w.cells? 0 a 5 = some cs) (h : DataW.trod enc Try.prog w 0 (fun _ => true) true fuel 35 cs = some x) :
    ∃ b o v, a = ⟨b, o, none⟩ ∧ VerAt w none b o v := by
  obtain ⟨xs, n, _, _, hlen, hxl, hf⟩ := DataW.trod_struct Try.underlying35 h
  rw [Try.cells35] at hlen
  replace hxl : xs.length = 5 := hxl
  obtain ⟨_, _, hcell⟩ := World.cells?_some hc
  match cs, hlen with
  | [c0, c1, c2, c3, c4], _ =>
    have hcell0 := hcell 0 (by omega)
    obtain ⟨b, o, spot⟩ := a
    have hspot : spot = none := by
      have : w.cell? ((⟨b, o, spot⟩ : Addr).add 0) = some c0 := hcell0
      simpa [Addr.add] using World.cell?_spot this
    subst hspot
    have hc' : ∀ i, i < 5 → w.cell? ⟨b, o + i, none⟩ = [c0, c1, c2, c3, c4][i]? := fun i hi => by rw [← Go.WideShapes.add_plain]; exact hcell i hi
    have f0 : DataW.trod enc Try.prog w 0 (fun _ => true) true n 22 (([c0, c1, c2, c3, c4].drop 0).take (Try.prog.cellsOf 22)) = xs[0]? := hf 0 ⟨"Value", 22, 0, false, "", "", 0⟩ rfl
    rw [Try.cells22, List.getElem?_eq_getElem (by omega)] at f0
    replace f0 : DataW.trod enc Try.prog w 0 (fun _ => true) true n 22 [c0] = some xs[0] := f0
    have f1 : DataW.trod enc Try.prog w 0 (fun _ => true) true n 4 (([c0, c1, c2, c3, c4].drop 1).take (Try.prog.cellsOf 4)) = xs[1]? := hf 1 ⟨"Present", 4, 1, false, "", "", 24⟩ rfl
    rw [Try.cells4, List.getElem?_eq_getElem (by omega)] at f1
    replace f1 : DataW.trod enc Try.prog w 0 (fun _ => true) true n 4 [c1] = some xs[1] := f1
    have f2 : DataW.trod enc Try.prog w 0 (fun _ => true) true n 31 (([c0, c1, c2, c3, c4].drop 2).take (Try.prog.cellsOf 31)) = xs[2]? := hf 2 ⟨"WrittenAt", 31, 2, false, "", "", 32⟩ rfl
    rw [Try.cells31, List.getElem?_eq_getElem (by omega)] at f2
    replace f2 : DataW.trod enc Try.prog w 0 (fun _ => true) true n 31 [c2] = some xs[2] := f2
    have f3 : DataW.trod enc Try.prog w 0 (fun _ => true) true n 31 (([c0, c1, c2, c3, c4].drop 3).take (Try.prog.cellsOf 31)) = xs[3]? := hf 3 ⟨"ValidUntil", 31, 3, false, "", "", 40⟩ rfl
    rw [Try.cells31, List.getElem?_eq_getElem (by omega)] at f3
    replace f3 : DataW.trod enc Try.prog w 0 (fun _ => true) true n 31 [c3] = some xs[3] := f3
    have f4 : DataW.trod enc Try.prog w 0 (fun _ => true) true n 31 (([c0, c1, c2, c3, c4].drop 4).take (Try.prog.cellsOf 31)) = xs[4]? := hf 4 ⟨"Epoch", 31, 4, false, "", "", 48⟩ rfl
    rw [Try.cells31, List.getElem?_eq_getElem (by omega)] at f4
    replace f4 : DataW.trod enc Try.prog w 0 (fun _ => true) true n 31 [c4] = some xs[4] := f4
    obtain ⟨ao, len, cap, zs, e0, hbs⟩ := open_bs f0
    obtain ⟨p, e1, _⟩ := DataW.trod_bool Try.underlying4 f1
    obtain ⟨n2, e2, _, w2⟩ := DataW.trod_int Try.underlying31 f2
    obtain ⟨n3, e3, _, w3⟩ := DataW.trod_int Try.underlying31 f3
    obtain ⟨n4, e4, _, w4⟩ := DataW.trod_int Try.underlying31 f4
    simp only [List.cons.injEq, and_true] at e0 e1 e2 e3 e4
    obtain ⟨m2, rfl, h2⟩ := nat_of_wf w2
    obtain ⟨m3, rfl, h3⟩ := nat_of_wf w3
    obtain ⟨m4, rfl, h4⟩ := nat_of_wf w4
    subst e0 e1 e2 e3 e4
    have hl := hbs.hlen
    subst hl
    exact ⟨b, o, ⟨zs, p, m2, m3, m4⟩, rfl, ⟨ao, cap, hc' 0 (by omega), hbs⟩, hc' 1 (by omega), hc' 2 (by omega), hc' 3 (by omega), hc' 4 (by omega), h2, h3, h4⟩

theorem open_vs {cs : List Value} {x : DataW H × List MemPlace} (h : DataW.trod enc Try.prog w 0 (fun _ => true) true fuel 23 cs = some x) :
    ∃ ao len cap vs, cs = [.slice ao len cap] ∧ Vs w none ao len cap vs := by
  rcases Deep.open_slice Try.underlying23 h with ⟨rfl, _⟩ | ⟨a, len, cap, m, n, D, Pl, rfl, _, hl, hm, hmm, _, hx⟩
  · exact ⟨none, 0, 0, [], rfl, rfl, Nat.le_refl _, Nat.zero_le _, fun _ => ⟨rfl, rfl⟩, fun h => absurd h (Nat.lt_irrefl _)⟩
  · simp only [if_true] at hmm
    subst hmm
    rw [Try.cells35] at hx
    have hv : ∀ i, i < len → ∃ v : Plain.Vr, ∃ b o, a.add (i * 5) = ⟨b, o, none⟩ ∧ VerAt w none b o v := by
      intro i hi
      obtain ⟨cs', h1, h2⟩ := hx i (by omega)
      obtain ⟨b, o, v, h3, h4⟩ := open_ver h1 h2
      exact ⟨v, b, o, h3, h4⟩
    obtain ⟨vs, hvl, hvs⟩ := list_of hv
    refine ⟨some a, len, _, vs, rfl, hvl, hl, hm, fun h => by simp at h, fun h0 => ?_⟩
    obtain ⟨b, o, h1, _⟩ := hvs 0 (by omega)
    rw [Nat.zero_mul] at h1
    have ha : a = ⟨b, o, none⟩ := by
      obtain ⟨b', o', spot⟩ := a
      simpa [Addr.add] using h1
    subst ha
    refine ⟨b, o, rfl, by simp, fun i hi => ?_⟩
    obtain ⟨b', o', h2, h3⟩ := hvs i hi
    rw [Addr.add_lit] at h2
    simp only [Addr.mk.injEq, and_true] at h2
    obtain ⟨rfl, rfl⟩ := h2
    exact h3
end
end Go.Proofs.Qxb6628844a
