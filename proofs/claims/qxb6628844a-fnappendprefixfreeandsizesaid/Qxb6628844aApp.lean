/-
  THE WALK of (wire.Record).Append (function 9).
-/
import Derived.Test.Qxb6628844aVers
namespace Go.Proofs.Qxb6628844a
open Go.RowKit

/-- The slice v is the call's own and holds the bytes cur. -/
def Own (base : Nat) (w : World) (v : Value) (cur : List Int) : Prop := w.ownsRow base 5 1 v cur.length (cur.map (Value.int .u8))

theorem Own.ne {base : Nat} {w : World} {v : Value} {cur : List Int} (h : Own base w v cur) : some w.heap.size ≠ v.ownBlock := by
  intro e
  have := (World.ownsRow.lt h w.heap.size e.symm).2
  omega

/-- 'append(b, src...)', b the call's own, src a slice of bytes that lies elsewhere. -/
theorem wpList_append_bs {w : World} {ops : Array Oper} {rest : List Oper} {o : Oper} {a : Act} {Q : Exit → Act → World → Prop} (hgd : o.guard = none) (s x : Operand)
    (ho : o.op = .call { callee := .builtin .append, args := #[s, x], argTypes := #[22, 22] }) (base : Nat) (v : Value) (cur zs : List Int) (hs : a.eval s = v) (hown : Own base w v cur)
    (ao : Option Addr) (m c : Nat) (hx : a.eval x = .slice ao m c) (hb : Bs w v.ownBlock ao m c zs) (hbd : cur.length + zs.length ≤ 1000000000) (hbase : base ≤ w.heap.size)
    (h : ∀ v' w', Own base w' v' (cur ++ zs) → Step w w' v v' → wpList Try.prog ops Q rest (a.put o.dst v') w') : wpList Try.prog ops Q (o :: rest) a w := by
  obtain ⟨i0, hi, hz0, hz1, hz2⟩ := info_parts Try.info5
  have hl := hb.hlen
  subst hl
  cases ao with
  | none =>
    obtain ⟨h0, rfl⟩ := hb.nil rfl
    have hzs : zs = [] := List.eq_nil_of_length_eq_zero h0
    subst hzs
    refine wpList_append_own_none hgd s x 22 ho base 5 i0 1 Try.underlying22 hi v _ _ hs hown hx ?_
    have := h v w (by simpa using hown) (Step.refl _ _)
    exact this
  | some ad =>
    refine wpList_append_own_at _ hgd s x 22 ho base 5 i0 (.int .u8 0) 1 1 Try.underlying22 hi hz0 hz1 hz2 rfl (by decide) v _ _ hs hown ad zs.length c (zs.map (Value.int .u8)) hx (by simp) ?_ (ints_oneCell _ _) (by unfold maxLen; omega) (by omega) hbase ?_
    · intro j u hj
      have hj' : j < zs.length := by
        have := (List.getElem?_eq_some_iff.1 hj).1
        simpa using this
      obtain ⟨b, off, he, _, hc⟩ := hb.cells (by omega)
      obtain rfl := Option.some.inj he
      rw [Addr.add_lit, hc j hj']
      simp [hj'] at hj
      simp [List.getD, hj', hj]
    · intro v' w' hown' hgrow _ hat
      refine h v' w' ?_ (Step.grown hgrow hat)
      unfold Own
      rw [List.length_append, List.map_append]
      exact hown'

/-- 'append(b, z)': one byte. -/
theorem wpList_append_byte {w : World} {ops : Array Oper} {rest : List Oper} {o : Oper} {a : Act} {Q : Exit → Act → World → Prop} (hgd : o.guard = none) (s x : Operand)
    (ho : o.op = .call { callee := .builtin .append, args := #[s, x], argTypes := #[22, 22] }) (base : Nat) (v : Value) (cur : List Int) (z : Int) (hs : a.eval s = v) (hown : Own base w v cur)
    (H : Nat) (hH : w.heap.size = H) (hx : a.eval x = .slice (some ⟨H, 0, none⟩) 1 1) (hbd : cur.length ≤ 1000000000) (hbase : base ≤ w.heap.size)
    (h : ∀ v' w', Own base w' v' (cur ++ [z]) → Step w w' v v' → wpList Try.prog ops Q rest (a.put o.dst v') w') : wpList Try.prog ops Q (o :: rest) a (w.alloc (.cells #[.int .u8 z] 5)) := by
  obtain ⟨i0, hi, hz0, hz1, hz2⟩ := info_parts Try.info5
  subst hH
  refine wpList_append_own_at _ hgd s x 22 ho base 5 i0 (.int .u8 0) 1 1 Try.underlying22 hi hz0 hz1 hz2 rfl (by decide) v _ _ hs (World.ownsRow.alloc hown _) ⟨w.heap.size, 0, none⟩ 1 1 [.int .u8 z] hx rfl (cell_one_new _ _ _) (by simp [Value.oneCell']) (by unfold maxLen; omega) (by omega) (by simp; omega) ?_
  intro v' w' hown' hgrow _ hat
  refine h v' w' ?_ ((Step.alloc w _ v).trans (Step.grown hgrow hat))
  unfold Own
  rw [List.length_append, List.map_append]
  exact hown'

theorem box2 {w : World} {g : Nat} {x y : Value} {e : TypeId} (h : w.heap[g]? = some (.cells #[x, y] e (0, 0))) : w.cell? ⟨g, 0, none⟩ = some x ∧ w.cell? ⟨g, 1, none⟩ = some y := by
  rw [cell_of_row w g 0 _ e (0, 0) h, cell_of_row w g 1 _ e (0, 0) h]
  exact ⟨rfl, rfl⟩

theorem box5 {w : World} {g : Nat} {x0 x1 x2 x3 x4 : Value} {e : TypeId} (h : w.heap[g]? = some (.cells #[x0, x1, x2, x3, x4] e (0, 0))) :
    w.cell? ⟨g, 0, none⟩ = some x0 ∧ w.cell? ⟨g, 1, none⟩ = some x1 ∧ w.cell? ⟨g, 2, none⟩ = some x2 ∧ w.cell? ⟨g, 3, none⟩ = some x3 ∧ w.cell? ⟨g, 4, none⟩ = some x4 := by
  rw [cell_of_row w g 0 _ e (0, 0) h, cell_of_row w g 1 _ e (0, 0) h, cell_of_row w g 2 _ e (0, 0) h, cell_of_row w g 3 _ e (0, 0) h, cell_of_row w g 4 _ e (0, 0) h]
  exact ⟨rfl, rfl, rfl, rfl, rfl⟩

/-- The loop's relation. -/
def AppRel (base : Nat) (head : List Int) (vs : List Plain.Vr) (w : World) (v : Value) (b i : Value) (wr : World) : Prop :=
  ∃ k : Nat, k ≤ vs.length ∧ i = .int .i64 k ∧ Own base wr b (head ++ Plain.encVers (vs.take k)) ∧ Step w wr v b

theorem uv_calls (base : Nat) (v : Value) (pre : List Int) (x : Nat) (w : World) (hx : x < 18446744073709551616) (hown : Own base w v pre) (hbase : base ≤ w.heap.size) (hbd : pre.length ≤ 1000000000) :
    Calls Try.prog 14 #[v, .int .u64 x] w fun e w' => ∃ v', e = .returned v' ∧ Own base w' v' (pre ++ Plain.uv x) ∧ Step w w' v v' :=
  appendUvarint_any base v pre x w hx hown hbase hbd

set_option maxRecDepth 100000 in
set_option maxHeartbeats 1000000 in
theorem append_any (base : Nat) (v : Value) (pre key : List Int) (vs : List Plain.Vr) (ka va : Option Addr) (kl kc vl vc : Nat) (w : World) (hown : Own base w v pre) (hbase : base ≤ w.heap.size)
    (hk : Bs w v.ownBlock ka kl kc key) (hv : Vs w v.ownBlock va vl vc vs) (hbd : pre.length + (20 + key.length + 41 * vs.length + Plain.vals vs) ≤ 100000000) :
    Calls Try.prog 9 #[.agg #[.slice ka kl kc, .slice va vl vc], v] w fun e w' => ∃ v', e = .returned v' ∧ Own base w' v' (pre ++ Plain.encRec key vs) ∧ Step w w' v v' := by
  have hl1 := hk.hlen
  have hl2 := hv.hlen
  subst hl1 hl2
  have hkb : key.length ≤ 100000000 := by omega
  have hvb : vs.length ≤ 100000000 := by omega
  have hpb : pre.length ≤ 100000000 := by omega
  have hN := hown.ne
  go_enter Try.func9, Try.ntmps9
  go_wp2_with fail
  have s0 : Step w (w.alloc (.cells #[.slice ka key.length kc, .slice va vs.length vc] 28)) v v := Step.alloc w _ v
  have b0 : (w.alloc (.cells #[.slice ka key.length kc, .slice va vs.length vc] 28)).heap[w.heap.size]? = some (.cells #[.slice ka key.length kc, .slice va vs.length vc] 28 (0, 0)) := heap_alloc_new w _
  have o0 : Own base (w.alloc (.cells #[.slice ka key.length kc, .slice va vs.length vc] 28)) v pre := World.ownsRow.alloc hown _
  generalize w.alloc (.cells #[.slice ka key.length kc, .slice va vs.length vc] 28) = W at *
  obtain ⟨c0, d0⟩ := box2 b0
  have hkW := hk.step s0
  have hvW := hv.step s0
  have BW : base ≤ W.heap.size := by have := s0.size; omega
  have L1 := Plain.uv_len key.length
  have L2 := Plain.uv_len vs.length
  clear b0 hk hv hown
  refine (uv_calls base v pre key.length _ (by omega) o0 BW (by omega)).mono ?_
  rintro e w1 ⟨v1, rfl, o1, s1⟩
  have c1 := s1.cell c0 hN
  have B1 : base ≤ w1.heap.size := by have := s1.size; omega
  go_wp2_with (at_builtin; refine wpList_append_bs rfl (.tmp 14) (.tmp 16) rfl base v1 _ key rfl o1 ka key.length kc rfl (hkW.step s1) (by simp; omega) B1 ?_)
  intro v2 w2 o2 s2
  have t2 : Step W w2 v v2 := s1.trans s2
  clear c1 s1 s2 o1 B1
  have d2 := t2.cell d0 hN
  have B2 : base ≤ w2.heap.size := by have := t2.size; omega
  go_wp2_with fail
  refine (uv_calls base v2 _ vs.length _ (by omega) o2 B2 (by simp; omega)).mono ?_
  rintro e w3 ⟨v3, rfl, o3, s3⟩
  have t3 : Step W w3 v v3 := t2.trans s3
  clear d2 t2 s3 o2 B2
  have d3 := t3.cell d0 hN
  obtain ⟨head, hhead⟩ : ∃ head, head = pre ++ Plain.uv key.length ++ key ++ Plain.uv vs.length := ⟨_, rfl⟩
  have o3' : Own base w3 v3 head := by rw [hhead]; simpa using o3
  have HH : Hid (head = pre ++ Plain.uv key.length ++ key ++ Plain.uv vs.length) := hhead
  have hhl : head.length ≤ pre.length + key.length + 20 := by rw [hhead]; simp; omega
  clear hhead
  have h0 : AppRel base head vs W v v3 (.int .i64 0) w3 := ⟨0, Nat.zero_le _, rfl, by simpa [Plain.encVers] using o3', t3⟩
  clear t3 o3 o3'
  go_wp2
  go_loopw [1, 27] (fun b i wr => AppRel base head vs W v b i wr) (fun _ i _ => vs.length - (intOf i).toNat)
  case atStart => exact h0
  case round =>
    obtain ⟨k, hk, rfl, ow, tw⟩ := hrel
    clear h0 d3
    by_cases hlt : k < vs.length
    · obtain ⟨vb, vo, rfl, hnr, hc⟩ := hvW.cells (by omega)
      have hvr := (hc k hlt).step hnr tw
      obtain ⟨x, hx⟩ : ∃ x, x = vs[k] := ⟨_, rfl⟩
      have hxv : x.val.length ≤ Plain.vals vs := by
        have h1 := Plain.vals_take_succ vs k hlt
        have h2 := Plain.vals_take_le vs (k + 1)
        rw [hx]
        omega
      rw [← hx] at hvr
      have HX : Hid (x = vs[k]) := hx
      clear hx hc
      obtain ⟨a0, c0', q0, hbs⟩ := hvr.val
      have q1 := hvr.pres
      have q2 := hvr.wa
      have q3 := hvr.vu
      have q4 := hvr.ep
      have hx64 : x.wa < 18446744073709551616 ∧ x.vu < 18446744073709551616 ∧ x.ep < 18446744073709551616 := ⟨hvr.wa64, hvr.vu64, hvr.ep64⟩
      clear hvr
      have hNr := Own.ne ow
      obtain ⟨cur, hcur⟩ : ∃ cur, cur = head ++ Plain.encVers (vs.take k) := ⟨_, rfl⟩
      rw [← hcur] at ow
      have hcl : cur.length ≤ pre.length + key.length + 20 + 41 * vs.length + Plain.vals vs := by
        have h1 := Plain.encVers_len (vs.take k)
        have h2 := Plain.vals_take_le vs k
        have h3 : (vs.take k).length ≤ vs.length := by simp; omega
        rw [hcur, List.length_append]
        omega
      have HC : Hid (cur = head ++ Plain.encVers (vs.take k)) := hcur
      clear hcur
      have M1 := Plain.uv_len x.wa
      have M2 := Plain.uv_len x.vu
      have M3 := Plain.uv_len x.ep
      have M4 := Plain.uv_len x.val.length
      have hxb : x.val.length ≤ 100000000 := by omega
      cases hp : x.pres with
      | true =>
        rw [hp] at q1
        have HP : Hid (x.pres = true) := hp
        clear hp
        go_wp2_with (at_builtin; refine wpList_append_byte rfl (.tmp 33) (.tmp 35) rfl base u1 cur 1 rfl (World.ownsRow.alloc ow _) (wr.heap.size + 1) (by simp) rfl (by omega) (by have := tw.size; simp; omega) ?_)
        intro v5 w5 o5 s5
        have b5 := heap_alloc_new wr (.cells #[.slice a0 x.val.length c0', .bool true, .int .u64 x.wa, .int .u64 x.vu, .int .u64 x.ep] 40)
        have sb : Step wr (wr.alloc (.cells #[.slice a0 x.val.length c0', .bool true, .int .u64 x.wa, .int .u64 x.vu, .int .u64 x.ep] 40)) u1 u1 := Step.alloc wr _ u1
        obtain ⟨Wb, hWb⟩ : ∃ Wb, Wb = wr.alloc (.cells #[.slice a0 x.val.length c0', .bool true, .int .u64 x.wa, .int .u64 x.vu, .int .u64 x.ep] 40) := ⟨_, rfl⟩
        rw [← hWb] at s5 b5 sb
        clear hWb
        obtain ⟨e0, e1, e2, e3, e4⟩ := box5 b5
        have BB : base ≤ Wb.heap.size := by have := sb.size; have := tw.size; omega
        have hbb := hbs.step sb
        clear b5
        have f5 := s5.cell e2 hNr
        have B5 : base ≤ w5.heap.size := by have := s5.size; omega
        go_wp2_with fail
        refine (uv_calls base v5 _ x.wa _ hx64.1 o5 B5 (by simp; omega)).mono ?_
        rintro e w6 ⟨v6, rfl, o6, s6⟩
        have t6 : Step Wb w6 u1 v6 := s5.trans s6
        clear f5 s5 s6 o5 B5
        have f6 := t6.cell e3 hNr
        have B6 : base ≤ w6.heap.size := by have := t6.size; omega
        go_wp2_with fail
        refine (uv_calls base v6 _ x.vu _ hx64.2.1 o6 B6 (by simp; omega)).mono ?_
        rintro e w7 ⟨v7, rfl, o7, s7⟩
        have t7 : Step Wb w7 u1 v7 := t6.trans s7
        clear f6 t6 s7 o6 B6
        have f7 := t7.cell e4 hNr
        have B7 : base ≤ w7.heap.size := by have := t7.size; omega
        go_wp2_with fail
        refine (uv_calls base v7 _ x.ep _ hx64.2.2 o7 B7 (by simp; omega)).mono ?_
        rintro e w8 ⟨v8, rfl, o8, s8⟩
        have t8 : Step Wb w8 u1 v8 := t7.trans s8
        clear f7 t7 s8 o7 B7
        have f8 := t8.cell e1 hNr
        have g8 := t8.cell e0 hNr
        have B8 : base ≤ w8.heap.size := by have := t8.size; omega
        go_wp2_with fail
        refine (uv_calls base v8 _ x.val.length _ (by omega) o8 B8 (by simp; omega)).mono ?_
        rintro e w9 ⟨v9, rfl, o9, s9⟩
        have t9 : Step Wb w9 u1 v9 := t8.trans s9
        clear f8 g8 t8 s9 o8 B8
        have g9 := t9.cell e0 hNr
        have B9 : base ≤ w9.heap.size := by have := t9.size; omega
        go_wp2_with (at_builtin; refine wpList_append_bs rfl (.tmp 59) (.tmp 61) rfl base v9 _ x.val rfl o9 a0 x.val.length c0' rfl (hbb.step t9) (by simp; omega) B9 ?_)
        intro v10 w10 o10 s10
        have hR : AppRel base head vs W v v10 (.int .i64 ((k : Int) + 1)) w10 := by
          refine ⟨k + 1, by omega, by go_num, ?_, (tw.trans sb).trans (t9.trans s10)⟩
          rw [Plain.encVers_take_succ vs k hlt, ← HX.out]
          have hev : Plain.encVer x = 1 :: (Plain.uv x.wa ++ (Plain.uv x.vu ++ (Plain.uv x.ep ++ (Plain.uv x.val.length ++ x.val)))) := by simp [Plain.encVer, Plain.tail, Plain.flag, HP.out]
          rw [hev]
          have := o10
          rw [HC.out] at this
          simpa using this
        clear g9 t9 o9 s10 o10 B9
        go_wp2
        go_roundw
        case rel => exact hR
        case measure => simp [intOf]; omega
      | false =>
        rw [hp] at q1
        have HP : Hid (x.pres = false) := hp
        clear hp
        go_wp2_with (at_builtin; refine wpList_append_byte rfl (.tmp 33) (.tmp 35) rfl base u1 cur 0 rfl (World.ownsRow.alloc ow _) (wr.heap.size + 1) (by simp) rfl (by omega) (by have := tw.size; simp; omega) ?_)
        intro v5 w5 o5 s5
        have b5 := heap_alloc_new wr (.cells #[.slice a0 x.val.length c0', .bool false, .int .u64 x.wa, .int .u64 x.vu, .int .u64 x.ep] 40)
        have sb : Step wr (wr.alloc (.cells #[.slice a0 x.val.length c0', .bool false, .int .u64 x.wa, .int .u64 x.vu, .int .u64 x.ep] 40)) u1 u1 := Step.alloc wr _ u1
        obtain ⟨Wb, hWb⟩ : ∃ Wb, Wb = wr.alloc (.cells #[.slice a0 x.val.length c0', .bool false, .int .u64 x.wa, .int .u64 x.vu, .int .u64 x.ep] 40) := ⟨_, rfl⟩
        rw [← hWb] at s5 b5 sb
        clear hWb
        obtain ⟨e0, e1, e2, e3, e4⟩ := box5 b5
        have BB : base ≤ Wb.heap.size := by have := sb.size; have := tw.size; omega
        have hbb := hbs.step sb
        clear b5
        have f5 := s5.cell e2 hNr
        have B5 : base ≤ w5.heap.size := by have := s5.size; omega
        go_wp2_with fail
        refine (uv_calls base v5 _ x.wa _ hx64.1 o5 B5 (by simp; omega)).mono ?_
        rintro e w6 ⟨v6, rfl, o6, s6⟩
        have t6 : Step Wb w6 u1 v6 := s5.trans s6
        clear f5 s5 s6 o5 B5
        have f6 := t6.cell e3 hNr
        have B6 : base ≤ w6.heap.size := by have := t6.size; omega
        go_wp2_with fail
        refine (uv_calls base v6 _ x.vu _ hx64.2.1 o6 B6 (by simp; omega)).mono ?_
        rintro e w7 ⟨v7, rfl, o7, s7⟩
        have t7 : Step Wb w7 u1 v7 := t6.trans s7
        clear f6 t6 s7 o6 B6
        have f7 := t7.cell e4 hNr
        have B7 : base ≤ w7.heap.size := by have := t7.size; omega
        go_wp2_with fail
        refine (uv_calls base v7 _ x.ep _ hx64.2.2 o7 B7 (by simp; omega)).mono ?_
        rintro e w8 ⟨v8, rfl, o8, s8⟩
        have t8 : Step Wb w8 u1 v8 := t7.trans s8
        clear f7 t7 s8 o7 B7
        have f8 := t8.cell e1 hNr
        have hR : AppRel base head vs W v v8 (.int .i64 ((k : Int) + 1)) w8 := by
          refine ⟨k + 1, by omega, by go_num, ?_, (tw.trans sb).trans t8⟩
          rw [Plain.encVers_take_succ vs k hlt, ← HX.out]
          have hev : Plain.encVer x = 0 :: (Plain.uv x.wa ++ (Plain.uv x.vu ++ Plain.uv x.ep)) := by simp [Plain.encVer, Plain.tail, Plain.flag, HP.out]
          rw [hev]
          have := o8
          rw [HC.out] at this
          simpa using this
        clear t8 o8
        go_wp2
        go_roundw
        case rel => exact hR
        case measure => simp [intOf]; omega
    · go_wp2
      go_ret
      have hR : Own base wr u1 (pre ++ Plain.encRec key vs) := by
        rw [List.take_of_length_le (by omega), HH.out] at ow
        simpa [Plain.encRec] using ow
      exact ⟨u1, rfl, hR, s0.trans tw⟩
end Go.Proofs.Qxb6628844a
