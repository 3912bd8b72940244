/-
  SMALL LAWS for seat b6628919a: texts as cells; a row that is filled; 'string(buf)'.
-/
import Derived.Test.Qxb6628919aRows
import Derived.Test.Qxb6628919aPlain
import Derived.WalkKit
import Derived.Laws.BytesString
import Derived.Laws.BitsAllLaws
namespace Go.Proofs.Qxb6628919a
open Go.RowKit

theorem Try.info5 : (Try.prog.info? 5).map (fun i => (i.zero, i.size, i.bytes)) = some (some (.int .u8 0), 1, 1) := by kernel_rfl
theorem mkHid {p : Prop} (h : p) : Hid p := h

/-- A text's bytes as cells. -/
def cs (l : List UInt8) : List Value := l.map fun b => Value.int .u8 (b.toNat : Int)
theorem cs_length (l : List UInt8) : (cs l).length = l.length := by simp [cs]
theorem cs_append (a b : List UInt8) : cs (a ++ b) = cs a ++ cs b := by simp [cs]

theorem run_str (w : World) (g o' cap' : Nat) (l : List UInt8) (h : ∀ j, j < l.length → w.cell? ⟨g, o' + j, none⟩ = (cs l)[j]?) :
    (convert 26 9 (.slice (some ⟨g, o', none⟩) l.length cap')).run Try.prog w = .ok (.string ⟨l.toArray⟩) w := by
  rw [run_convert_bytes_string w 26 9 5 _ _ _ Try.underlying26 Try.underlying5 Try.underlying9]
  have h1 : (loadCells ⟨g, o', none⟩ l.length).run Try.prog w = .ok ((l.map fun b => (b.toNat : Int)).map (Value.int .u8)).toArray w := by
    have := run_loadCells_list (P := Try.prog) w ⟨g, o', none⟩ (cs l) (fun j v hj => by
      have hj' : j < l.length := by have := (List.getElem?_eq_some_iff.1 hj).1; rw [cs_length] at this; exact this
      rw [Addr.add_lit, h j hj']
      exact hj)
    rw [cs_length] at this
    rw [this]
    simp [cs, Function.comp_def]
  rw [run_bytesToString w ⟨g, o', none⟩ l.length cap' _ h1]
  congr 2
  rw [List.foldl_map]
  have hf : ∀ (l : List UInt8) (r : ByteArray), l.foldl (fun r b => r.push (UInt8.ofNat (b.toNat : Int).toNat)) r = ⟨r.data ++ l.toArray⟩ := by
    intro l
    induction l with
    | nil => intro r; simp
    | cons c l ih =>
      intro r
      rw [List.foldl_cons, ih]
      congr 1
      simp [ByteArray.push]
  rw [hf]
  simp

/-- 'string(buf)', buf a row of the call's own. -/
theorem run_own (w : World) (base g n cap : Nat) (l : List UInt8) (hn : n = l.length) (h : w.ownsRow base 5 1 (.slice (some ⟨g, 0, none⟩) n cap) n (cs l)) :
    (convert 26 9 (.slice (some ⟨g, 0, none⟩) n cap)).run Try.prog w = .ok (.string ⟨l.toArray⟩) w := by
  subst hn
  refine run_str w g 0 cap l (fun j hj => ?_)
  rw [Nat.zero_add]
  exact h.cellAt j (by omega)

/-- k cells have been filled, the rest are zero. -/
def half (f : UInt8 → UInt8) (l : List UInt8) (k : Nat) : List Value := cs ((l.take k).map f) ++ List.replicate (l.length - k) (Value.int .u8 0)

theorem half_zero (f : UInt8 → UInt8) (l : List UInt8) : half f l 0 = (madeCells #[Value.int .u8 0] l.length).toList := by
  rw [toList_madeCells_one]
  simp [half, cs]

theorem half_end (f : UInt8 → UInt8) (l : List UInt8) : half f l l.length = cs (l.map f) := by simp [half]

theorem half_at (f : UInt8 → UInt8) (l : List UInt8) (k : Nat) (h : k < l.length) : (half f l k)[k]? = some (Value.int .u8 0) := by
  have hl : (cs ((l.take k).map f)).length = k := by rw [cs_length]; simp; omega
  rw [half, List.getElem?_append_right (by omega), hl, List.getElem?_replicate, if_pos (by omega)]

theorem half_set (f : UInt8 → UInt8) (l : List UInt8) (k : Nat) (h : k < l.length) : (half f l k).set k (Value.int .u8 ((f l[k]).toNat : Int)) = half f l (k + 1) := by
  have hl : (cs ((l.take k).map f)).length = k := by rw [cs_length]; simp; omega
  rw [half, List.set_append_right _ _ (by omega), hl, Nat.sub_self]
  obtain ⟨m, hm⟩ : ∃ m, l.length - k = m + 1 := ⟨l.length - k - 1, by omega⟩
  rw [hm, List.replicate_succ, List.set_cons_zero]
  rw [half, Plain.take_snoc l k h, List.map_append, cs_append, List.append_assoc]
  rw [show l.length - (k + 1) = m from by omega]
  rfl

end Go.Proofs.Qxb6628919a
