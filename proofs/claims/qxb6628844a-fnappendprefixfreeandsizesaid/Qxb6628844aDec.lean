/-
  THE WALK of FnAppendDecodesToRecord (function 3).
-/
import Derived.Test.Qxb6628844aClone
import Derived.Test.Qxb6628844aAt
import Derived.Test.Qxb6628844aRead
import Derived.Test.Qxb6628844aRec
import Derived.Test.Qxb6628844aApp
namespace Go.Proofs.Qxb6628844a
open Go.RowKit

/-- All that the law's arguments and the answer read as, in the world w'; w0: the world in which the call began. -/
structure Inv (w0 w' : World) (g cap : Nat) (L : List Int) (ba ka va : Option Addr) (bc kc vc : Nat) (bz key : List Int) (vs : List Plain.Vr) : Prop where
  out : Bs w' none (some ⟨g, 0, none⟩) L.length cap L
  b : Bs w' none ba bz.length bc bz
  key : Bs w' none ka key.length kc key
  vs : Vs w' none va vs.length vc vs
  below : Below w0.heap.size w0 w'

theorem Inv.later {w0 w' w'' : World} {g cap : Nat} {L : List Int} {ba ka va : Option Addr} {bc kc vc : Nat} {bz key : List Int} {vs : List Plain.Vr} (h : Inv w0 w' g cap L ba ka va bc kc vc bz key vs) (s : Below w'.heap.size w' w'') : Inv w0 w'' g cap L ba ka va bc kc vc bz key vs :=
  ⟨h.out.later s (.inl rfl), h.b.later s (.inl rfl), h.key.later s (.inl rfl), h.vs.later s (.inl rfl), h.below.trans (s.mono h.below.size)⟩

theorem mkHid {p : Prop} (h : p) : Hid p := h

theorem below_drewN (B : Nat) (w : World) (d : Nat) : Below B w (w.drewN d) := by
  induction d with
  | zero => exact Below.refl _ _
  | succ d ih => exact ih.drew

theorem bytesAt_calls (pa qa : Option Addr) (pl pc ql qc i : Nat) (z : Int) (L q rest : List Int) (w : World) (hz : z = (i : Int)) (hp : Bs w none pa pl pc L) (hq : Bs w none qa ql qc q) (hbd : pl ≤ 1000000000)
    (hd : Hid (L.drop i = q ++ rest)) (hi : i ≤ L.length) :
    Calls Try.prog 10 #[.slice pa pl pc, .int .i64 z, .slice qa ql qc] w fun e w' => e = .returned (.bool true) ∧ Below w.heap.size w w' := by
  subst hz
  refine (bytesAt_any pa qa pl pc ql qc i L q rest w hp hq hbd hd.out hi).mono ?_
  rintro e w' ⟨he, d, rfl⟩
  exact ⟨he, below_drewN _ _ _⟩

theorem uvarint_calls (pa : Option Addr) (pl pc i x q : Nat) (z : Int) (L rest : List Int) (w : World) (hz : z = (i : Int)) (hp : Bs w none pa pl pc L) (hbd : pl ≤ 1000000000) (hx : x < 18446744073709551616)
    (hd : Hid (L.drop i = Plain.uv x ++ rest)) (hi : i ≤ L.length) (hq : Hid (q = i + (Plain.uv x).length)) :
    Calls Try.prog 11 #[.slice pa pl pc, .int .i64 z] w fun e w' => e = .returned (.tuple #[.int .u64 x, .int .i64 (q : Int), .bool true]) ∧ w' = w := by
  subst hz
  rw [hq.out]
  exact uvarint_any pa pl pc i x L rest w hp hbd hx hd.out hi

/-- What the answer of Append looks like. -/
theorem out_form {base : Nat} {w : World} {v : Value} {L : List Int} (h : Own base w v L) (h0 : 0 < L.length) (hbd : L.length ≤ 1000000000) : ∃ g cap, v = .slice (some ⟨g, 0, none⟩) L.length cap ∧ Bs w none (some ⟨g, 0, none⟩) L.length cap L := by
  rcases h.2 with ⟨_, h1⟩ | ⟨g, cap, cur, hv, _, hg, hnc, hcm, _, _⟩
  · omega
  · refine ⟨g, cap, hv, rfl, hnc, hcm, fun h => by simp at h, fun _ => ⟨g, 0, rfl, by simp, fun i hi => ?_⟩⟩
    subst hv
    have := World.ownsRow.cellAt h i (by omega)
    rw [Nat.zero_add, this]
    simp [List.getD, hi]

theorem Own.later {base : Nat} {w w' : World} {v : Value} {L : List Int} (h : Own base w v L) (s : Below w.heap.size w w') : Own base w' v L :=
  World.ownsRow.kept h (row := none) ⟨s.os, s.tape, s.output, s.size, fun k hk _ => s.block k hk⟩ (by cases v.ownBlock <;> simp)

/-- The loop's relation. -/
def DecRel (w0 : World) (g cap : Nat) (L : List Int) (ba ka va : Option Addr) (bc kc vc : Nat) (bz key : List Int) (vs : List Plain.Vr) (i j : Value) (wr : World) : Prop :=
  ∃ k p : Nat, k ≤ vs.length ∧ j = .int .i64 k ∧ i = .int .i64 p ∧ p ≤ L.length ∧ L.drop p = Plain.encVers (vs.drop k) ∧ Inv w0 wr g cap L ba ka va bc kc vc bz key vs

set_option maxRecDepth 100000 in
set_option maxHeartbeats 2000000 in
theorem dec_walk (ba ka va : Option Addr) (bl bc kl kc vl vc : Nat) (bz key : List Int) (vs : List Plain.Vr) (w : World) (hb : Bs w none ba bl bc bz) (hk : Bs w none ka kl kc key) (hv : Vs w none va vl vc vs) :
    Calls Try.prog 3 #[.slice ba bl bc, .slice ka kl kc, .slice va vl vc] w fun e w' => e = .returned (.bool true) ∧ Below w.heap.size w w' := by
  have hl1 := hb.hlen
  have hl2 := hk.hlen
  have hl3 := hv.hlen
  subst hl1 hl2 hl3
  go_enter Try.func3, Try.ntmps3
  go_wp2_with fail
  refine (bytes5_any ba ka va _ bc _ kc _ vc vs w (Nat.le_trans hb.le hb.top) (Nat.le_trans hk.le hk.top) hv).mono ?_
  rintro e w ⟨⟨r, rfl, hr⟩, rfl⟩
  cases r with
  | false =>
    go_wp2
    go_ret
    exact ⟨rfl, Below.refl _ _⟩
  | true =>
    have hsz := hr rfl
    clear hr
    go_wp2_with fail
    refine (sizeOK_any ba ka va _ bc _ kc _ vc vs _ hv hsz).mono ?_
    rintro e w ⟨⟨r, rfl, hr⟩, rfl⟩
    cases r with
    | false =>
      go_wp2
      go_ret
      exact ⟨rfl, Below.refl _ _⟩
    | true =>
      have hsz' := hr rfl
      clear hr hsz
      go_wp2_with fail
      refine (clone_any ba _ bc bz _ hb (by omega)).mono ?_
      rintro e w1 ⟨v, rfl, hown, hbel⟩
      have hlt := fun k hk => World.ownsRow.lt hown k hk
      have own1 : Own w.heap.size w1 v bz := hown
      have hv1 := hv.later hbel (.inr (fun k hk => (hlt k hk).1))
      clear hown
      go_wp2_with fail
      refine (record_any ka va _ kc _ vc vs v.ownBlock w1 hv1 (by omega) (fun k hk => (hlt k hk).2)).mono ?_
      rintro e w2 ⟨a', c', rfl, hv2, hbel2⟩
      have own2 := own1.later hbel2
      have bel2 : Below w.heap.size w w2 := hbel.trans (hbel2.mono hbel.size)
      clear hv1 own1 hbel2
      go_wp2_with fail
      have s0 : Step w2 (w2.alloc (.cells #[.slice ka key.length kc, .slice a' vs.length c'] 28)) v v := Step.alloc w2 _ v
      have own3 : Own w.heap.size (w2.alloc (.cells #[.slice ka key.length kc, .slice a' vs.length c'] 28)) v bz := World.ownsRow.alloc own2 _
      have bel3 : Below w.heap.size w (w2.alloc (.cells #[.slice ka key.length kc, .slice a' vs.length c'] 28)) := bel2.alloc bel2.size _
      generalize w2.alloc (.cells #[.slice ka key.length kc, .slice a' vs.length c'] 28) = W at *
      have hkW : Bs W v.ownBlock ka key.length kc key := hk.later bel3 (.inr (fun k hk => (hlt k hk).1))
      have hvW := hv2.step s0
      refine (append_any w.heap.size v bz key vs ka a' _ kc _ c' W own3 bel3.size hkW hvW (by omega)).mono ?_
      rintro e w4 ⟨v4, rfl, o4, s4⟩
      have bel4 : Below w.heap.size w w4 := bel3.trans (s4.below bel3.size (fun k hk => (hlt k hk).1))
      obtain ⟨L, hL⟩ : ∃ L, L = bz ++ Plain.encRec key vs := ⟨_, rfl⟩
      rw [← hL] at o4
      have hLl : L.length ≤ 1000000000 := by
        have := Plain.encRec_len key vs
        rw [hL, List.length_append]
        omega
      have hL0 : 0 < L.length := by
        have := Plain.uv_len key.length
        rw [hL, List.length_append]
        simp only [Plain.encRec, List.length_append]
        omega
      obtain ⟨g, cap, hv4, hout⟩ := out_form o4 hL0 hLl
      rw [hv4]
      have inv : Inv w w4 g cap L ba ka va bc kc vc bz key vs := ⟨hout, hb.later bel4 (.inl rfl), hk.later bel4 (.inl rfl), hv.later bel4 (.inl rfl), bel4⟩
      have HD0 : Hid (L.drop 0 = bz ++ Plain.encRec key vs) := hL
      clear hL o4 hv4 hout hkW hvW own3 s0 own2 hv2 bel2 bel3 hlt bel4 s4
      have hkb : key.length ≤ 1048576 := by omega
      have hvb : vs.length ≤ 1048576 := by omega
      have hbb : bz.length ≤ 1048576 := by omega
      go_wp2_with fail
      refine (bytesAt_calls _ _ _ _ _ _ 0 0 L bz _ _ rfl inv.out inv.b hLl HD0 (Nat.zero_le _)).mono ?_
      rintro e w5 ⟨rfl, bel5⟩
      have inv5 := inv.later bel5
      clear inv bel5
      have HD1 : Hid (L.drop bz.length = Plain.uv key.length ++ (key ++ (Plain.uv vs.length ++ Plain.encVers vs))) := by
        have := Plain.drop_more HD0.out
        rw [Nat.zero_add] at this
        exact this
      have l0 : bz.length ≤ L.length := by have := Plain.drop_le HD0.out (Nat.zero_le _); omega
      have l1 := Plain.drop_le HD1.out l0
      obtain ⟨q1, hq1⟩ : ∃ q, q = bz.length + (Plain.uv key.length).length := ⟨_, rfl⟩
      rw [← hq1] at l1
      have HD2 : Hid (L.drop q1 = key ++ (Plain.uv vs.length ++ Plain.encVers vs)) := by
        have := Plain.drop_more HD1.out
        rw [← hq1] at this
        exact this
      have HQ1 : Hid (q1 = bz.length + (Plain.uv key.length).length) := hq1
      clear hq1 HD0
      go_wp2_with fail
      refine (uvarint_calls _ _ _ bz.length key.length q1 _ L _ _ rfl inv5.out hLl (by omega) HD1 l0 HQ1).mono ?_
      rintro e w6 ⟨rfl, rfl⟩
      have l2 := Plain.drop_le HD2.out l1
      clear HD1 HQ1
      go_wp2_with fail
      refine (bytesAt_calls _ _ _ _ _ _ q1 _ L key _ _ rfl inv5.out inv5.key hLl HD2 l1).mono ?_
      rintro e w7 ⟨rfl, bel7⟩
      have inv7 := inv5.later bel7
      clear inv5 bel7
      have HD3 : Hid (L.drop (q1 + key.length) = Plain.uv vs.length ++ Plain.encVers vs) := Plain.drop_more HD2.out
      have l3 := Plain.drop_le HD3.out l2
      obtain ⟨q3, hq3⟩ : ∃ q, q = q1 + key.length + (Plain.uv vs.length).length := ⟨_, rfl⟩
      rw [← hq3] at l3
      have hd4 : L.drop q3 = Plain.encVers vs := by
        have := Plain.drop_more HD3.out
        rw [← hq3] at this
        exact this
      have HQ3 : Hid (q3 = q1 + key.length + (Plain.uv vs.length).length) := hq3
      have h0 : DecRel w g cap L ba ka va bc kc vc bz key vs (.int .i64 q3) (.int .i64 0) w7 := ⟨0, q3, Nat.zero_le _, rfl, rfl, l3, by simpa using hd4, inv7⟩
      clear hq3 HD2 hd4
      go_wp2_with fail
      refine (uvarint_calls _ _ _ (q1 + key.length) vs.length q3 _ L _ _ (by omega) inv7.out hLl (by omega) HD3 l2 HQ3).mono ?_
      rintro e w8 ⟨rfl, rfl⟩
      clear HD3 HQ3 inv7
      go_wp2
      go_loopw [10, 17] (fun i j wr => DecRel w g cap L ba ka va bc kc vc bz key vs i j wr) (fun _ j _ => vs.length - (intOf j).toNat)
      case atStart => exact h0
      case round =>
        obtain ⟨k, p, hk, rfl, rfl, hp, hd, inv⟩ := hrel
        clear h0
        by_cases hlt : k < vs.length
        · obtain ⟨vb, vo, rfl, _, hc⟩ := inv.vs.cells (by omega)
          have hvr := hc k hlt
          obtain ⟨x, hx⟩ : ∃ x, x = vs[k] := ⟨_, rfl⟩
          rw [← hx] at hvr
          have HX : Hid (x = vs[k]) := hx
          clear hx hc
          obtain ⟨a0, c0, r0, hbs⟩ := hvr.val
          have r1 := hvr.pres
          have r2 := hvr.wa
          have r3 := hvr.vu
          have r4 := hvr.ep
          have hx64 : Hid (x.wa < 18446744073709551616 ∧ x.vu < 18446744073709551616 ∧ x.ep < 18446744073709551616) := ⟨hvr.wa64, hvr.vu64, hvr.ep64⟩
          clear hvr
          have hgl : g < wr.heap.size := by
            obtain ⟨b', o', he, _, hc⟩ := inv.out.cells hL0
            simp at he
            have := World.block_lt_of_cell? wr _ (hc 0 hL0)
            simp at this
            omega
          have hout : ∀ i, i < L.length → wr.cell? ⟨g, i, none⟩ = some (.int .u8 (L.getD i 0)) := by
            obtain ⟨b', o', he, _, hc⟩ := inv.out.cells hL0
            simp at he
            obtain ⟨rfl, rfl⟩ := he
            intro i hi
            have := hc i hi
            rw [Nat.zero_add] at this
            exact this
          cases hpr : x.pres with
          | true =>
            rw [hpr] at r1
            have hd0 : L.drop p = [(1 : Int)] ++ (Plain.uv x.wa ++ (Plain.uv x.vu ++ (Plain.uv x.ep ++ (Plain.uv x.val.length ++ (x.val ++ Plain.encVers (vs.drop (k + 1))))))) := by
              rw [hd, Plain.encVers_drop vs k hlt, ← HX.out]
              simp [Plain.encVer, Plain.tail, Plain.flag, hpr]
            have hfl : wr.cell? ⟨g, p, none⟩ = some (.int .u8 1) := by
              have h1 := Plain.drop_at hd0 0 (by simp)
              have h2 := hout p (by have := Plain.drop_le hd0 hp; simp at this; omega)
              rw [Nat.add_zero] at h1
              rw [h1] at h2
              exact h2
            have hfl' : ∀ o, (wr.alloc o).cell? ⟨g, p, none⟩ = some (.int .u8 1) := fun o => by rw [World.cell?_alloc_lt _ _ _ (by exact hgl)]; exact hfl
            have m0 := Plain.drop_le hd0 hp
            have HD1 : Hid (L.drop (p + 1) = Plain.uv x.wa ++ (Plain.uv x.vu ++ (Plain.uv x.ep ++ (Plain.uv x.val.length ++ (x.val ++ Plain.encVers (vs.drop (k + 1))))))) := Plain.drop_more hd0
            clear hd hd0 hpr
            simp only [List.length_cons, List.length_nil, Nat.zero_add] at m0
            have m1 := Plain.drop_le HD1.out m0
            obtain ⟨q1, hq1⟩ : ∃ q, q = p + 1 + (Plain.uv x.wa).length := ⟨_, rfl⟩
            rw [← hq1] at m1
            have HD2 : Hid (L.drop q1 = Plain.uv x.vu ++ (Plain.uv x.ep ++ (Plain.uv x.val.length ++ (x.val ++ Plain.encVers (vs.drop (k + 1)))))) := by
              have := Plain.drop_more HD1.out
              rw [← hq1] at this
              exact this
            have HQ1 : Hid (q1 = p + 1 + (Plain.uv x.wa).length) := hq1
            clear hq1
            have m2 := Plain.drop_le HD2.out m1
            obtain ⟨q2, hq2⟩ : ∃ q, q = q1 + (Plain.uv x.vu).length := ⟨_, rfl⟩
            rw [← hq2] at m2
            have HD3 : Hid (L.drop q2 = Plain.uv x.ep ++ (Plain.uv x.val.length ++ (x.val ++ Plain.encVers (vs.drop (k + 1))))) := by
              have := Plain.drop_more HD2.out
              rw [← hq2] at this
              exact this
            have HQ2 : Hid (q2 = q1 + (Plain.uv x.vu).length) := hq2
            clear hq2
            have m3 := Plain.drop_le HD3.out m2
            obtain ⟨q3, hq3⟩ : ∃ q, q = q2 + (Plain.uv x.ep).length := ⟨_, rfl⟩
            rw [← hq3] at m3
            have HD4 : Hid (L.drop q3 = Plain.uv x.val.length ++ (x.val ++ Plain.encVers (vs.drop (k + 1)))) := by
              have := Plain.drop_more HD3.out
              rw [← hq3] at this
              exact this
            have HQ3 : Hid (q3 = q2 + (Plain.uv x.ep).length) := hq3
            clear hq3
            have hpl : (p : Int) < (L.length : Int) := by omega
            go_wp2_with fail
            refine (uvarint_calls _ _ _ (p + 1) x.wa q1 _ L _ _ (by omega) (inv.later ((Below.refl _ wr).alloc (Nat.le_refl _) _)).out hLl hx64.out.1 HD1 m0 HQ1).mono ?_
            rintro e w9 ⟨rfl, rfl⟩
            clear HD1 HQ1
            go_wp2_with fail
            refine (uvarint_calls _ _ _ q1 x.vu q2 _ L _ _ rfl (inv.later ((Below.refl _ wr).alloc (Nat.le_refl _) _)).out hLl hx64.out.2.1 HD2 m1 HQ2).mono ?_
            rintro e w10 ⟨rfl, rfl⟩
            clear HD2 HQ2
            go_wp2_with fail
            refine (uvarint_calls _ _ _ q2 x.ep q3 _ L _ _ rfl (inv.later ((Below.refl _ wr).alloc (Nat.le_refl _) _)).out hLl hx64.out.2.2 HD3 m2 HQ3).mono ?_
            rintro e w11 ⟨rfl, rfl⟩
            clear HD3 HQ3
            have m4 := Plain.drop_le HD4.out m3
            obtain ⟨q4, hq4⟩ : ∃ q, q = q3 + (Plain.uv x.val.length).length := ⟨_, rfl⟩
            rw [← hq4] at m4
            have HD5 : Hid (L.drop q4 = x.val ++ Plain.encVers (vs.drop (k + 1))) := by
              have := Plain.drop_more HD4.out
              rw [← hq4] at this
              exact this
            have HQ4 : Hid (q4 = q3 + (Plain.uv x.val.length).length) := hq4
            clear hq4
            have m5 := Plain.drop_le HD5.out m4
            have hxb : x.val.length ≤ 1000000000 := by omega
            go_wp2_with fail
            refine (uvarint_calls _ _ _ q3 x.val.length q4 _ L _ _ rfl (inv.later ((Below.refl _ wr).alloc (Nat.le_refl _) _)).out hLl (by omega) HD4 m3 HQ4).mono ?_
            rintro e w12 ⟨rfl, rfl⟩
            clear HD4 HQ4
            have hR : ∀ w', Below (wr.alloc (.cells #[.slice a0 x.val.length c0, .bool true, .int .u64 x.wa, .int .u64 x.vu, .int .u64 x.ep] 35)).heap.size (wr.alloc (.cells #[.slice a0 x.val.length c0, .bool true, .int .u64 x.wa, .int .u64 x.vu, .int .u64 x.ep] 35)) w' →
                DecRel w g cap L ba ka (some ⟨vb, vo, none⟩) bc kc vc bz key vs (.int .i64 ((q4 : Int) + (x.val.length : Int))) (.int .i64 ((k : Int) + 1)) w' := fun w' hw' =>
              ⟨k + 1, q4 + x.val.length, by omega, by go_num, by go_num, m5, Plain.drop_more HD5.out, (inv.later ((Below.refl _ wr).alloc (Nat.le_refl _) _)).later hw'⟩
            have e5 : ∀ w', Below (wr.alloc (.cells #[.slice a0 x.val.length c0, .bool true, .int .u64 x.wa, .int .u64 x.vu, .int .u64 x.ep] 35)).heap.size (wr.alloc (.cells #[.slice a0 x.val.length c0, .bool true, .int .u64 x.wa, .int .u64 x.vu, .int .u64 x.ep] 35)) w' →
                w'.cell? ⟨wr.heap.size, 0, none⟩ = some (.slice a0 x.val.length c0) := fun w' hw' => by
              rw [hw'.cell (by simp), (box5 (heap_alloc_new wr _)).1]
            have HR := mkHid hR
            have HE5 := mkHid e5
            clear hR e5
            go_wp2_with fail
            refine (bytesAt_calls _ _ _ _ _ _ q4 _ L x.val _ _ rfl (inv.later ((Below.refl _ wr).alloc (Nat.le_refl _) _)).out (hbs.later ((Below.refl _ wr).alloc (Nat.le_refl _) _) (.inl rfl)) hLl HD5 m4).mono ?_
            rintro e w13 ⟨rfl, bel13⟩
            have e13 := HE5.out w13 bel13
            have hR := HR.out w13 bel13
            clear HR HE5 HD5 bel13
            go_wp2
            go_roundw
            case rel => exact hR
            case measure => simp [intOf]; omega
          | false =>
            rw [hpr] at r1
            have hd0 : L.drop p = [(0 : Int)] ++ (Plain.uv x.wa ++ (Plain.uv x.vu ++ (Plain.uv x.ep ++ (Plain.encVers (vs.drop (k + 1)))))) := by
              rw [hd, Plain.encVers_drop vs k hlt, ← HX.out]
              simp [Plain.encVer, Plain.tail, Plain.flag, hpr]
            have hfl : wr.cell? ⟨g, p, none⟩ = some (.int .u8 0) := by
              have h1 := Plain.drop_at hd0 0 (by simp)
              have h2 := hout p (by have := Plain.drop_le hd0 hp; simp at this; omega)
              rw [Nat.add_zero] at h1
              rw [h1] at h2
              exact h2
            have hfl' : ∀ o, (wr.alloc o).cell? ⟨g, p, none⟩ = some (.int .u8 0) := fun o => by rw [World.cell?_alloc_lt _ _ _ (by exact hgl)]; exact hfl
            have m0 := Plain.drop_le hd0 hp
            have HD1 : Hid (L.drop (p + 1) = Plain.uv x.wa ++ (Plain.uv x.vu ++ (Plain.uv x.ep ++ (Plain.encVers (vs.drop (k + 1)))))) := Plain.drop_more hd0
            clear hd hd0 hpr
            simp only [List.length_cons, List.length_nil, Nat.zero_add] at m0
            have m1 := Plain.drop_le HD1.out m0
            obtain ⟨q1, hq1⟩ : ∃ q, q = p + 1 + (Plain.uv x.wa).length := ⟨_, rfl⟩
            rw [← hq1] at m1
            have HD2 : Hid (L.drop q1 = Plain.uv x.vu ++ (Plain.uv x.ep ++ (Plain.encVers (vs.drop (k + 1))))) := by
              have := Plain.drop_more HD1.out
              rw [← hq1] at this
              exact this
            have HQ1 : Hid (q1 = p + 1 + (Plain.uv x.wa).length) := hq1
            clear hq1
            have m2 := Plain.drop_le HD2.out m1
            obtain ⟨q2, hq2⟩ : ∃ q, q = q1 + (Plain.uv x.vu).length := ⟨_, rfl⟩
            rw [← hq2] at m2
            have HD3 : Hid (L.drop q2 = Plain.uv x.ep ++ (Plain.encVers (vs.drop (k + 1)))) := by
              have := Plain.drop_more HD2.out
              rw [← hq2] at this
              exact this
            have HQ2 : Hid (q2 = q1 + (Plain.uv x.vu).length) := hq2
            clear hq2
            have m3 := Plain.drop_le HD3.out m2
            obtain ⟨q3, hq3⟩ : ∃ q, q = q2 + (Plain.uv x.ep).length := ⟨_, rfl⟩
            rw [← hq3] at m3
            have HD4 : Hid (L.drop q3 = Plain.encVers (vs.drop (k + 1))) := by
              have := Plain.drop_more HD3.out
              rw [← hq3] at this
              exact this
            have HQ3 : Hid (q3 = q2 + (Plain.uv x.ep).length) := hq3
            clear hq3
            have hpl : (p : Int) < (L.length : Int) := by omega
            go_wp2_with fail
            refine (uvarint_calls _ _ _ (p + 1) x.wa q1 _ L _ _ (by omega) (inv.later ((Below.refl _ wr).alloc (Nat.le_refl _) _)).out hLl hx64.out.1 HD1 m0 HQ1).mono ?_
            rintro e w9 ⟨rfl, rfl⟩
            clear HD1 HQ1
            go_wp2_with fail
            refine (uvarint_calls _ _ _ q1 x.vu q2 _ L _ _ rfl (inv.later ((Below.refl _ wr).alloc (Nat.le_refl _) _)).out hLl hx64.out.2.1 HD2 m1 HQ2).mono ?_
            rintro e w10 ⟨rfl, rfl⟩
            clear HD2 HQ2
            go_wp2_with fail
            refine (uvarint_calls _ _ _ q2 x.ep q3 _ L _ _ rfl (inv.later ((Below.refl _ wr).alloc (Nat.le_refl _) _)).out hLl hx64.out.2.2 HD3 m2 HQ3).mono ?_
            rintro e w11 ⟨rfl, rfl⟩
            clear HD3 HQ3
            have hR : DecRel w g cap L ba ka (some ⟨vb, vo, none⟩) bc kc vc bz key vs (.int .i64 (q3 : Int)) (.int .i64 ((k : Int) + 1)) (wr.alloc (.cells #[.slice a0 x.val.length c0, .bool false, .int .u64 x.wa, .int .u64 x.vu, .int .u64 x.ep] 35)) :=
              ⟨k + 1, q3, by omega, by go_num, rfl, m3, HD4.out, inv.later ((Below.refl _ wr).alloc (Nat.le_refl _) _)⟩
            clear HD4
            go_wp2
            go_roundw
            case rel => exact hR
            case measure => simp [intOf]; omega
        · have hfin : p = L.length := by
            rw [List.drop_eq_nil_of_le (by omega : vs.length ≤ k)] at hd
            have := congrArg List.length hd
            simp [Plain.encVers] at this
            omega
          subst hfin
          have bel := inv.below
          clear inv hd
          go_wp2
          go_ret
          exact ⟨rfl, bel⟩
end Go.Proofs.Qxb6628844a
