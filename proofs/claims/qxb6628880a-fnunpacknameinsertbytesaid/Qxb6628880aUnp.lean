/-
  THE WALKS of escapedInDigits (9), appendDigitEscape (10), UnpackName (6).
-/
import Derived.Test.Qxb6628880aRows
import Derived.Test.Qxb6628880aPlain
import Derived.WalkKit
import Derived.Deep.Upon
import Derived.Deep.RegionLaw
import Derived.Lib.ConvBytes
import Derived.Laws.BytesString
namespace Go.Proofs.Qxb6628880a
open Go.RowKit

theorem Try.info5 : (Try.prog.info? 5).map (fun i => (i.zero, i.size, i.bytes)) = some (some (.int .u8 0), 1, 1) := by kernel_rfl

def Z28 : Array Value := Array.replicate 1020 (.int .u8 0)
theorem Z28_size : Z28.size = 1020 := by simp [Z28]
theorem mkHid {p : Prop} (h : p) : Hid p := h
theorem zero28 (w : World) : (zeroValue 28).run Try.prog w = .ok (.agg Z28) w := by kernel_rfl

/-- 'append' as one step of a region that draws its order, onto a slice that is appended to again and again. -/
theorem step_append_upon {P : Program} (w : World) {ops : Array Oper} {o : Oper} {a : Act} {K : Act → World → Prop} {Q : Exit → Act → World → Prop} {E : Prop} (hgd : o.guard = none) (s x : Operand) (t tx : TypeId)
    (ho : o.op = .call { callee := .builtin .append, args := #[s, x], argTypes := #[t, tx] })
    {W : World} {e : TypeId} {size : Nat} {ao : Option Addr} {b off len cap : Nat} {olds : List Value} (hc : Came W size ao b off len cap olds)
    (i : TypeInfo) (z : Value) (bytes : Nat) (ht : P.underlying t = some (.slice e)) (hi : P.info? e = some i) (hz : i.zero = some z) (hsize : i.size = size) (hby : i.bytes = bytes) (hzs : z.cells.size = size)
    {v : Value} {m : Nat} {ks : List Value} {r : Nat} (hv : a.eval s = v) (h : Upon W e size ao b off len cap olds w v m ks r)
    (xv : Value) (n : Nat) (news : List Value) (hx : a.eval x = xv) (hs : Src P size tx xv n news w) (h63 : len + m + n ≤ maxLen) (hbytes : (len + m + n) * bytes ≤ 140737488355328)
    (hK : ∀ v' w', Upon W e size ao b off len cap olds w' v' (m + n) (ks ++ news) (Upon.next len cap size m r n) → K (a.put o.dst v') w') :
    if Region.wanted o (yielded ops a.tmps) = true then Oper.wp P o a w K Q else E := by
  have hw : Region.wanted o (yielded ops a.tmps) = true := by simp [Region.wanted, hgd]
  rw [if_pos hw]
  obtain ⟨v', w', hrun, r'⟩ := run_append_upon (P := P) hc t tx o.type i z bytes ht hi hz hsize hby hzs h xv n news hs h63 hbytes
  unfold Oper.wp
  simp [execOp, ho, resolve, invoke, builtin, hv, hx, hrun, Result.andThen]
  exact hK v' w' r'

/-- A text's bytes as cells. -/
def cs (l : List UInt8) : List Value := l.map fun b => Value.int .u8 (b.toNat : Int)
theorem cs_length (l : List UInt8) : (cs l).length = l.length := by simp [cs]
theorem cs_append (a b : List UInt8) : cs (a ++ b) = cs a ++ cs b := by simp [cs]
theorem cs_bytes (s : ByteArray) : byteCells s = cs s.data.toList := rfl
theorem ext_take (s : ByteArray) (k : Nat) : byteCells (s.extract 0 k) = cs (s.data.toList.take k) := by
  rw [cs_bytes]
  simp
theorem ext_drop (s : ByteArray) (k : Nat) : (s.extract k s.size).data.toList = s.data.toList.drop k := by
  simp
  rw [List.take_of_length_le (by simp)]
theorem cs_at (l : List UInt8) (j : Nat) (h : j < l.length) : (cs l)[j]? = some (Value.int .u8 (l[j].toNat : Int)) := by simp [cs, h]
theorem cs_one (l : List UInt8) : ∀ u ∈ cs l, u.oneCell' = true := by
  intro u hu
  obtain ⟨_, _, rfl⟩ := List.mem_map.1 hu
  rfl

theorem came (w : World) : Came (w.alloc (.cells Z28 28)) 1 (some ⟨w.heap.size, 0, none⟩) w.heap.size 0 0 1020 [] := by
  refine ⟨by omega, fun _ => rfl, fun _ => by simp, rfl, fun j u h => by simp at h, fun j hj => ?_⟩
  have h1 : (w.alloc (.cells Z28 28)).cell? ⟨w.heap.size, 0 + 0 * 1 + j, none⟩ = Z28[0 + 0 * 1 + j]? := World.cell?_alloc_new w Z28 28 _
  refine ⟨?_, World.frozen?_alloc_new w Z28 28 _⟩
  rw [h1]
  have := Z28_size
  simp
  omega

/-- What is known of the text's slice when the range begins: it is the call's own, in block b, and holds the bytes o. -/
structure Rdy (w : World) (b cap : Nat) (o : List UInt8) : Prop where
  le : o.length ≤ cap
  top : cap ≤ maxLen
  lt : b < w.heap.size
  holds : ∀ j, j < o.length → w.cell? ⟨b, j, none⟩ = (cs o)[j]?
  there : ∀ j, j < cap → (w.cell? ⟨b, j, none⟩).isSome = true ∧ w.frozen? ⟨b, j, none⟩ = false

/-- Behind the first append. -/
theorem rdy_of (w w5 : World) (v : Value) (o : List UInt8) (m : Nat) (r : Nat) (hm : m = o.length) (h : Upon (w.alloc (.cells Z28 28)) 5 1 (some ⟨w.heap.size, 0, none⟩) w.heap.size 0 0 1020 [] w5 v m (cs o) r) :
    ∃ b cap, v = .slice (some ⟨b, 0, none⟩) o.length cap ∧ w.heap.size ≤ b ∧ Rdy w5 b cap o ∧ w.keptBut w5 (fun _ => False) := by
  have hc := came w
  have hsz : (w.alloc (.cells Z28 28)).heap.size = w.heap.size + 1 := by simp
  have hk : w.keptBut w5 (fun _ => False) := by
    refine (World.keptBut_alloc w (.cells Z28 28) (fun _ => False)).congr h.kept.1 h.kept.2.1 (fun i hi => ?_)
    refine h.kept.block (by omega) ?_
    rintro p ⟨j, _, rfl⟩
    show w.heap.size ≠ i
    omega
  have hs5 : w.heap.size + 1 ≤ w5.heap.size := by have := h.kept.size; omega
  subst hm
  rcases h.val with ⟨hle, hv, hr⟩ | ⟨_, g, c', hv, ho⟩
  · refine ⟨w.heap.size, 1020, by rw [hv]; simp, Nat.le_refl _, ⟨by omega, by unfold maxLen; omega, by omega, fun j hj => ?_, fun j hj => ?_⟩, hk⟩
    · have := h.inArray hc (by omega) hr j (by simpa using hj)
      simpa using this
    · have hsp := hc.spare j (by omega)
      simp only [Nat.zero_mul, Nat.zero_add] at hsp
      refine ⟨?_, (h.frozen _ (by simp)).trans hsp.2⟩
      by_cases hj2 : j < r
      · have h1 := h.written j hj2
        simp only [Nat.zero_mul, Nat.zero_add] at h1
        rw [h1, List.getElem?_eq_getElem (by omega)]
        rfl
      · rw [h.old (by simp) (fun j' h1 h2 => by omega)]
        exact hsp.1
  · have h0 : 0 < c' := by have := ho.le; omega
    have hg : g < w5.heap.size := World.block_lt_of_cell? _ _ (Option.isSome_iff_exists.1 (ho.there 0 (by omega)).1).choose_spec
    refine ⟨g, c', by rw [hv]; simp, by have := ho.new; omega, ⟨by have := ho.le; omega, ho.max, hg, fun j hj => ?_, fun j hj => ho.there j (by omega)⟩, hk⟩
    have := ho.holds j (by simpa using hj)
    simpa using this

theorem Rdy.came {w : World} {b cap : Nat} {o : List UInt8} (h : Rdy w b cap o) : Came w 1 (some ⟨b, 0, none⟩) b 0 o.length cap (cs o) := by
  refine ⟨h.le, fun _ => rfl, fun _ => h.lt, by rw [cs_length]; omega, fun j u hu => ?_, fun j hj => ?_⟩
  · have hj : j < o.length := by have := (List.getElem?_eq_some_iff.1 hu).1; rw [cs_length] at this; exact this
    rw [Nat.zero_add, h.holds j hj]
    exact hu
  · rw [Nat.zero_add, Nat.mul_one]
    exact h.there _ (by omega)

/-- Behind '[]byte(..)', which lays a row of its own. -/
theorem Rdy.bytes {w : World} {b cap : Nat} {o : List UInt8} (h : Rdy w b cap o) (e : TypeId) (s : ByteArray) : Rdy (Lib.bytesWorld w e s) b cap o := by
  have hb : (Lib.bytesWorld w e s).heap[b]? = w.heap[b]? := Lib.bytesWorld_at_old w e s b h.lt
  refine ⟨h.le, h.top, by rw [Lib.bytesWorld_size]; have := h.lt; omega, fun j hj => (World.cell?_of_block (a := ⟨b, j, none⟩) hb).trans (h.holds j hj), fun j hj => ?_⟩
  rw [World.cell?_of_block (a := ⟨b, j, none⟩) hb, World.frozen?_of_block (a := ⟨b, j, none⟩) hb]
  exact h.there j hj

/-- The text while the range goes: behind the bytes o, which it began with in the world W, the bytes l. -/
def Txt (W : World) (b cap : Nat) (o : List UInt8) (w : World) (v : Value) (l : List UInt8) : Prop :=
  ∃ r, Upon W 5 1 (some ⟨b, 0, none⟩) b 0 o.length cap (cs o) w v l.length (cs l) r

theorem run_str (w : World) (g o' cap' : Nat) (l : List UInt8) (h : ∀ j, j < l.length → w.cell? ⟨g, o' + j, none⟩ = (cs l)[j]?) :
    (convert 24 9 (.slice (some ⟨g, o', none⟩) l.length cap')).run Try.prog w = .ok (.string ⟨l.toArray⟩) w := by
  rw [run_convert_bytes_string w 24 9 5 _ _ _ Try.underlying24 Try.underlying5 Try.underlying9]
  have h1 : (loadCells ⟨g, o', none⟩ l.length).run Try.prog w = .ok ((l.map fun b => (b.toNat : Int)).map (Value.int .u8)).toArray w := by
    have := run_loadCells_list (P := Try.prog) w ⟨g, o', none⟩ (cs l) (fun j v hj => by
      have hj' : j < l.length := by have := (List.getElem?_eq_some_iff.1 hj).1; rw [cs_length] at this; exact this
      rw [Addr.add_lit, h j hj']
      exact hj)
    rw [cs_length] at this
    rw [this]
    simp [cs, Function.comp_def]
  rw [run_bytesToString w ⟨g, o', none⟩ l.length cap' _ h1]
  congr 2
  rw [List.foldl_map]
  have hf : ∀ (l : List UInt8) (r : ByteArray), l.foldl (fun r b => r.push (UInt8.ofNat (b.toNat : Int).toNat)) r = ⟨r.data ++ l.toArray⟩ := by
    intro l
    induction l with
    | nil => intro r; simp
    | cons c l ih =>
      intro r
      rw [List.foldl_cons, ih]
      congr 1
      simp [ByteArray.push]
  rw [hf]
  simp

/-- A literal's row, just laid, as what is appended. -/
theorem src_new (w : World) (news : List Value) (h1 : ∀ u ∈ news, u.oneCell' = true) : Src Try.prog 1 24 (.slice (some ⟨w.heap.size, 0, none⟩) news.length news.length) news.length news (w.alloc (.cells news.toArray 5)) := by
  refine Src.ofSlice _ Try.underlying24 ⟨w.heap.size, 0, none⟩ _ _ news (by omega) (fun j u hj => ?_) h1
  rw [Addr.add_lit, World.cell?_alloc_new]
  simpa using hj

theorem cs_digits (c : UInt8) (z : Int) (hz : z = (c.toNat : Int)) : cs [92, Plain.d1 c, Plain.d2 c, Plain.d3 c] = [.int .u8 92, .int .u8 (48 + z / 100), .int .u8 (48 + z / 10 % 10), .int .u8 (48 + z % 10)] := by
  subst hz
  simp only [cs, List.map_cons, List.map_nil, Plain.d1_toNat, Plain.d2_toNat, Plain.d3_toNat]
  have h1 : ((48 + c.toNat / 100 : Nat) : Int) = 48 + (c.toNat : Int) / 100 := by omega
  have h2 : ((48 + c.toNat / 10 % 10 : Nat) : Int) = 48 + (c.toNat : Int) / 10 % 10 := by omega
  have h3 : ((48 + c.toNat % 10 : Nat) : Int) = 48 + (c.toNat : Int) % 10 := by omega
  rw [h1, h2, h3]
  rfl

set_option maxRecDepth 100000 in
set_option maxHeartbeats 400000 in
theorem escape_any (W : World) (b cap : Nat) (o l : List UInt8) (c : UInt8) (w : World) (v : Value) (hr : Rdy W b cap o) (ht : Txt W b cap o w v l) (hbd : o.length + l.length ≤ 1000000000) (z : Int) (hz : Hid (z = (c.toNat : Int))) :
    Calls Try.prog 10 #[v, .int .u8 z] w fun e w' => ∃ v', e = .returned v' ∧ Txt W b cap o w' v' (l ++ [92, Plain.d1 c, Plain.d2 c, Plain.d3 c]) := by
  obtain ⟨i0, hi, hz0, hz1, hz2⟩ := info_parts Try.info5
  have hz3 : 0 ≤ z ∧ z ≤ 255 := by have := c.toNat_lt; have := hz.out; omega
  obtain ⟨r, hup⟩ := ht
  have hc := hr.came
  go_enter Try.func10, Try.ntmps10
  go_wp2_with (at_builtin; refine wpList_append_upon _ rfl (.tmp 5) (.tmp 16) 24 24 rfl hc i0 (.int .u8 0) 1 Try.underlying24 hi hz0 hz1 hz2 rfl rfl (hup.alloc hc _) (.slice (some ⟨w.heap.size, 0, none⟩) 4 4) 4 [.int .u8 92, .int .u8 (48 + z / 100), .int .u8 (48 + z / 10 % 10), .int .u8 (48 + z % 10)] rfl ?c1 ?c2 ?c3 ?_)
  case c1 => exact src_new w [.int .u8 92, .int .u8 (48 + z / 100), .int .u8 (48 + z / 10 % 10), .int .u8 (48 + z % 10)] (by simp [Value.oneCell'])
  case c2 => unfold maxLen; omega
  case c3 => omega
  intro v' w1 hup'
  have ht' : Txt W b cap o w1 v' (l ++ [92, Plain.d1 c, Plain.d2 c, Plain.d3 c]) := by
    refine ⟨Upon.next o.length cap 1 l.length r 4, ?_⟩
    rw [cs_append, cs_digits c z hz.out, List.length_append]
    exact hup'
  clear hup' hup
  go_wp2
  go_ret
  exact ⟨v', rfl, ht'⟩

theorem esc_any (z : Int) (w : World) (b : Bool) (h : (b = true ∧ (z ≤ 32 ∨ 127 ≤ z)) ∨ (b = false ∧ 32 < z ∧ z < 127)) :
    Calls Try.prog 9 #[.int .u8 z] w fun e w' => e = .returned (.bool b) ∧ w' = w := by
  rcases h with ⟨rfl, h | h⟩ | ⟨rfl, h1, h2⟩
  · go_enter Try.func9, Try.ntmps9
    go_wp2
    go_ret
    exact ⟨rfl, rfl⟩
  · by_cases h' : z ≤ 32
    · omega
    · go_enter Try.func9, Try.ntmps9
      go_wp2
      go_ret
      exact ⟨rfl, rfl⟩
  · have e1 : decide (z ≤ 32) = false := by simpa using h1
    have e2 : decide (127 ≤ z) = false := by simpa using h2
    go_enter Try.func9, Try.ntmps9
    go_wp2
    go_ret
    exact ⟨rfl, rfl⟩

theorem esc_calls (c : UInt8) (w : World) (b : Bool) (h : Hid (Plain.esc c = b)) :
    Calls Try.prog 9 #[.int .u8 (c.toNat : Int)] w fun e w' => e = .returned (.bool b) ∧ w' = w := by
  refine esc_any _ _ _ ?_
  cases b with
  | true => have := Plain.esc_of_true h.out; exact .inl ⟨rfl, by omega⟩
  | false => have := Plain.esc_of_false h.out; exact .inr ⟨rfl, by omega⟩

/-- The relation of the range. -/
def LpRel (W : World) (b cap : Nat) (o rest : List UInt8) (t i : Value) (wx : World) : Prop :=
  ∃ kk : Nat, kk ≤ rest.length ∧ i = .int .i64 kk ∧ Txt W b cap o wx t (Plain.unp (rest.take kk))

def ScRel (s : ByteArray) (w : World) (i : Value) (wr : World) : Prop :=
  ∃ k : Nat, k ≤ s.size ∧ i = .int .i64 k ∧ (∀ j (h : j < s.size), j < k → Plain.esc s[j] = false) ∧ wr = w

set_option maxRecDepth 100000 in
set_option maxHeartbeats 400000 in
theorem unp_any (s : ByteArray) (w : World) (hs : s.size ≤ 100000000) :
    Calls Try.prog 6 #[.string s] w fun e w' => e = .returned (.string ⟨(Plain.unp s.data.toList).toArray⟩) ∧ w.keptBut w' (fun _ => False) := by
  go_enter Try.func6, Try.ntmps6
  go_wp2
  go_loopw [3] (fun i wr => ScRel s w i wr) (fun i _ => s.size - (intOf i).toNat)
  case atStart => exact ⟨0, Nat.zero_le _, rfl, fun _ _ h => absurd h (Nat.not_lt_zero _), rfl⟩
  case round =>
    obtain ⟨k, hk, rfl, hno, hw⟩ := hrel
    have HNO : Hid (∀ j (h : j < s.size), j < k → Plain.esc s[j] = false) := hno
    subst hw
    clear hno
    by_cases hlt : k < s.size
    · cases he : Plain.esc s[k] with
      | false =>
        have HE : Hid (Plain.esc s[k] = false) := he
        clear he
        have hR : ScRel s wr (.int .i64 ((k : Int) + 1)) wr := by
          refine ⟨k + 1, by omega, by go_num, fun j h1 h2 => ?_, rfl⟩
          by_cases e : j = k
          · subst e; exact HE.out
          · exact HNO.out j h1 (by omega)
        go_wp2_with (go_at_call 9; refine (esc_calls _ _ false HE).mono ?_; rintro e wr ⟨rfl, rfl⟩)
        go_roundw
        case rel => exact hR
        case measure => simp [intOf]; omega
      | true =>
        have HE : Hid (Plain.esc s[k] = true) := he
        clear he
        have hz := zero28
        have hkz : ((k : Int) == (s.size : Int)) = false := by rw [beq_eq_false_iff_ne]; omega
        go_wp2_with (go_at_call 9; refine (esc_calls _ _ true HE).mono ?_; rintro e wr ⟨rfl, rfl⟩)
        obtain ⟨i0, hi, hz0, hz1, hz2⟩ := info_parts Try.info5
        have hup0 : Upon (wr.alloc (.cells Z28 28)) 5 1 (some ⟨wr.heap.size, 0, none⟩) wr.heap.size 0 0 1020 [] (wr.alloc (.cells Z28 28)).drew (.slice (some ⟨wr.heap.size, 0, none⟩) 0 1020) 0 [] 0 := (Upon.start (came wr)).drew (came wr)
        have hex : (s.extract 0 k).size = k := by simp; omega
        have HEX : Hid ((s.extract 0 k).size = k) := hex
        have hb1 : 0 + 0 + (s.extract 0 k).size ≤ maxLen := by rw [hex]; unfold maxLen; omega
        have hb2 : (0 + 0 + (s.extract 0 k).size) * 1 ≤ 140737488355328 := by rw [hex]; omega
        have HB1 := mkHid hb1
        have HB2 := mkHid hb2
        clear hb1 hb2 hex hz
        go_region_law ((refine step_append_upon _ (by rfl) (.tmp 26) (.tmp 29) 24 9 (by rfl) (came wr) i0 (.int .u8 0) 1 Try.underlying24 hi hz0 hz1 hz2 rfl (by simp [Act.eval, Act.put]) hup0 (.string (s.extract 0 k)) (s.extract 0 k).size (byteCells (s.extract 0 k)) (by simp [Act.eval, Act.put]) (Src.ofString _ Try.underlying9 (s.extract 0 k)) HB1.out HB2.out ?_; intro v5 w5 up5))
        have hup5 : ∃ r, Upon (wr.alloc (.cells Z28 28)) 5 1 (some ⟨wr.heap.size, 0, none⟩) wr.heap.size 0 0 1020 [] w5 v5 k (cs (s.data.toList.take k)) r := by
          rw [HEX.out, ext_take s k] at up5
          exact ⟨_, by simpa using up5⟩
        obtain ⟨r5, hup5⟩ := hup5
        have hol : (s.data.toList.take k).length = k := by simp; omega
        obtain ⟨b, cap, hv5, hB, hrd, hkp⟩ := rdy_of wr w5 v5 (s.data.toList.take k) _ _ hol.symm hup5
        rw [hol] at hv5
        rw [hv5]
        clear up5 hup0 HB1 HB2 hv5 hup5
        have hcv := fun (w : World) (t : ByteArray) => Lib.run_convert_string_bytes (P := Try.prog) w 9 24 5 t Try.underlying9 Try.underlying24 Try.underlying5
        have hrd6 := hrd.bytes 5 (s.extract k s.size)
        have hrow : ∀ j (h : j < (s.data.toList.drop k).length), (Lib.bytesWorld w5 5 (s.extract k s.size)).cell? ⟨w5.heap.size, j, none⟩ = some (.int .u8 ((s.data.toList.drop k)[j].toNat : Int)) := by
          intro j hj
          have hj' : j < s.size - k := by simpa using hj
          rw [Lib.bytesWorld_cell w5 5 (s.extract k s.size) j (by simp; omega), ext_drop s k]
          simp [List.getD, hj']
        have hR6 : w5.heap.size < (Lib.bytesWorld w5 5 (s.extract k s.size)).heap.size := by rw [Lib.bytesWorld_size]; omega
        have hkp6 : ∀ w', (∀ i, i < w5.heap.size → i ≠ b → w'.heap[i]? = (Lib.bytesWorld w5 5 (s.extract k s.size)).heap[i]?) → w'.os = (Lib.bytesWorld w5 5 (s.extract k s.size)).os → w'.output = (Lib.bytesWorld w5 5 (s.extract k s.size)).output → wr.keptBut w' (fun _ => False) := by
          intro w' h1 h2 h3
          refine hkp.congr h2 h3 (fun i hi => ?_)
          have := hkp.size
          exact (h1 i (by omega) (by omega)).trans (Lib.bytesWorld_at_old w5 5 _ i (by omega))
        have HKP := mkHid hkp6
        have HROW := mkHid hrow
        have hbR : b < w5.heap.size := hrd.lt
        have hrl : (s.data.toList.drop k).length = s.size - k := by simp
        have HFULL : Hid (Plain.unp s.data.toList = s.data.toList.take k ++ Plain.unp (s.data.toList.drop k)) := by
          show _ = _
          have h1 : Plain.unp (s.data.toList.take k) = s.data.toList.take k := by
            apply Plain.unp_plain
            intro c hc
            obtain ⟨j, hj, rfl⟩ := List.getElem_of_mem hc
            rw [List.getElem_take]
            exact HNO.out j (by simp at hj; omega) (by simp at hj; omega)
          rw [← List.take_append_drop k s.data.toList, Plain.unp_append, List.take_append_drop, h1]
        clear hkp6 hrow hkp hrd HNO HE HEX
        go_wp2
        generalize Lib.bytesWorld w5 5 (s.extract k s.size) = W at *
        generalize s.data.toList.take k = o at *
        obtain ⟨rest, hrest⟩ : ∃ rest, rest = s.data.toList.drop k := ⟨_, rfl⟩
        rw [← hrest] at HROW HFULL hrl
        have hst : LpRel W b cap o rest (.slice (some ⟨b, 0, none⟩) k cap) (.int .i64 0) W := by
          rw [← hol]
          exact ⟨0, Nat.zero_le _, rfl, 0, Upon.start hrd6.came⟩
        have HOL := mkHid hol
        have HRL := mkHid hrl
        have hob : o.length ≤ 100000000 := by omega
        have hreb : rest.length ≤ 100000000 := by omega
        clear hrest hol hrl
        obtain ⟨wo, rfl⟩ : ∃ wo : World, wo = wr := ⟨_, rfl⟩
        go_loopw [5, 36] (fun t i wx => LpRel W b cap o rest t i wx) (fun _ i _ => s.size - k - (intOf i).toNat)
        case atStart => exact hst
        case round =>
          clear hst
          obtain ⟨kk, hkk, rfl, ht⟩ := hrel
          have hub : (Plain.unp (rest.take kk)).length ≤ 400000000 := by
            have h1 := Plain.unp_length (rest.take kk)
            have h2 := Plain.escs_le (rest.take kk)
            have h3 : (rest.take kk).length ≤ rest.length := by simp; omega
            omega
          by_cases hlt3 : kk < s.size - k
          · have hlt2 : kk < rest.length := by rw [HRL.out]; exact hlt3
            obtain ⟨r, hup⟩ := ht
            have hcell : wr.cell? ⟨w5.heap.size, kk, none⟩ = some (.int .u8 (rest[kk].toNat : Int)) := (hup.old hR6 (fun j _ h => by omega)).trans (HROW.out kk hlt2)
            have hun : Plain.unp (rest.take (kk + 1)) = Plain.unp (rest.take kk) ++ Plain.pres rest[kk] := by rw [Plain.take_snoc rest kk hlt2, Plain.unp_append, Plain.unp_one]
            obtain ⟨c, hcc⟩ : ∃ c, c = rest[kk] := ⟨_, rfl⟩
            rw [← hcc] at hcell hun
            have HUN := mkHid hun
            clear hcc hun
            have hcb := c.toNat_lt
            cases hesc : Plain.esc c with
            | true =>
              have HES := mkHid hesc
              have HPR := mkHid (Plain.pres_yes hesc)
              clear hesc
              go_wp2_with (go_at_call 9; refine (esc_calls _ _ true HES).mono ?_; rintro e wr ⟨rfl, rfl⟩)
              refine (escape_any W b cap o _ c _ _ hrd6 ⟨r, hup⟩ (by omega) _ (show Hid ((c.toNat : Int) = (c.toNat : Int)) from rfl)).mono ?_
              rintro e w7 ⟨v7, rfl, ht7⟩
              have hR : LpRel W b cap o rest v7 (.int .i64 ((kk : Int) + 1)) w7 := by
                refine ⟨kk + 1, by omega, by go_num, ?_⟩
                rw [HUN.out, HPR.out]
                exact ht7
              clear ht7 hup
              go_wp2
              go_roundw
              case rel => exact hR
              case measure => simp [intOf]; omega
            | false =>
              have HES := mkHid hesc
              have HPR := mkHid (Plain.pres_no hesc)
              clear hesc
              go_wp2_with (first | (go_at_call 9; refine (esc_calls _ _ false HES).mono ?_; rintro e wr ⟨rfl, rfl⟩) | (at_builtin; refine wpList_append_upon _ rfl (.tmp 45) (.tmp 47) 24 24 rfl hrd6.came i0 (.int .u8 0) 1 Try.underlying24 hi hz0 hz1 hz2 rfl rfl (hup.alloc hrd6.came _) (.slice (some ⟨wr.heap.size, 0, none⟩) 1 1) 1 [.int .u8 (c.toNat : Int)] rfl (src_new wr [.int .u8 (c.toNat : Int)] (by simp [Value.oneCell'])) (by unfold maxLen; omega) (by omega) ?_))
              intro v7 w7 hup7
              have hR : LpRel W b cap o rest v7 (.int .i64 ((kk : Int) + 1)) w7 := by
                refine ⟨kk + 1, by omega, by go_num, Upon.next o.length cap 1 (Plain.unp (rest.take kk)).length r 1, ?_⟩
                rw [HUN.out, HPR.out, cs_append, List.length_append]
                exact hup7
              clear hup7 hup
              go_wp2
              go_roundw
              case rel => exact hR
              case measure => simp [intOf]; omega
          · obtain ⟨r, hup⟩ := ht
            rw [List.take_of_length_le (by rw [HRL.out]; omega)] at hup
            have hkept : wo.keptBut wr (fun _ => False) := by
              refine HKP.out wr (fun i hi hne => hup.kept.block (by omega) ?_) hup.kept.1 hup.kept.2.1
              rintro p ⟨j, _, rfl⟩
              exact fun e => hne e.symm
            have hpos : 0 < cap ∨ 0 < (Plain.unp rest).length := by
              right
              have h1 := Plain.unp_length rest
              have := HRL.out
              omega
            obtain ⟨g, o', cap', hv, _, _, hcells⟩ := hup.value hrd6.came hrd6.top hpos
            have hstr := run_str wr g o' cap' (o ++ Plain.unp rest) (fun j hj => by rw [cs_append]; exact hcells j (by simpa using hj))
            rw [List.length_append] at hstr
            rw [← HFULL.out] at hstr
            rw [hv]
            clear hcells hup hv
            go_wp2
            go_ret
            exact ⟨rfl, hkept⟩
    · go_wp2
      go_ret
      refine ⟨?_, World.keptBut_refl _ _⟩
      have hun : Plain.unp s.data.toList = s.data.toList := by
        apply Plain.unp_plain
        intro c hc
        obtain ⟨j, hj, rfl⟩ := List.getElem_of_mem hc
        have hj' : j < s.size := by simpa using hj
        exact HNO.out j hj' (by omega)
      rw [hun]
      rfl
end Go.Proofs.Qxb6628880a
