/-
  THE WALK of FnAppendPrefixFreeAndSize (function 4).
-/
import Derived.Test.Qxb6628844aClone
import Derived.Test.Qxb6628844aAt
import Derived.Test.Qxb6628844aRec
import Derived.Test.Qxb6628844aApp
import Derived.Test.Qxb6628844aEnc
import Derived.Test.Qxb6628844aDec
import Derived.Deep.RegionWith
namespace Go.Proofs.Qxb6628844a
open Go.RowKit

/-- All that the law's arguments, the record and its box (block N) read as, in the world w'. -/
structure Inv4 (w' : World) (N : Nat) (ba ka va ra : Option Addr) (bc kc vc rc : Nat) (bz key : List Int) (vs : List Plain.Vr) : Prop where
  ib : Bs w' none ba bz.length bc bz
  ik : Bs w' none ka key.length kc key
  iv : Vs w' none va vs.length vc vs
  ir : Vs w' none ra vs.length rc vs
  c0 : w'.cell? ⟨N, 0, none⟩ = some (.slice ka key.length kc)
  c1 : w'.cell? ⟨N, 1, none⟩ = some (.slice ra vs.length rc)

theorem Inv4.later {w' w'' : World} {N : Nat} {ba ka va ra : Option Addr} {bc kc vc rc : Nat} {bz key : List Int} {vs : List Plain.Vr} (h : Inv4 w' N ba ka va ra bc kc vc rc bz key vs) (s : Below w'.heap.size w' w'') : Inv4 w'' N ba ka va ra bc kc vc rc bz key vs :=
  ⟨h.ib.later s (.inl rfl), h.ik.later s (.inl rfl), h.iv.later s (.inl rfl), h.ir.later s (.inl rfl),
    (s.cell (World.block_lt_of_cell? w' _ h.c0)).trans h.c0, (s.cell (World.block_lt_of_cell? w' _ h.c1)).trans h.c1⟩

theorem encodedLen_calls (ka va : Option Addr) (kl kc vl vc m : Nat) (vs : List Plain.Vr) (w : World) (hv : Vs w none va vl vc vs) (hbd : 20 + kl + 41 * vs.length + Plain.vals vs ≤ 100000000)
    (hm : Hid (m = (Plain.uv kl).length + kl + (Plain.uv vs.length).length + (Plain.encVers vs).length)) :
    Calls Try.prog 13 #[.slice ka kl kc, .slice va vl vc] w fun e w' => e = .returned (.int .i64 (m : Int)) ∧ Below w.heap.size w w' := by
  refine (encodedLen_any ka va kl kc vl vc vs w hv hbd).mono ?_
  rintro e w' ⟨rfl, d, rfl⟩
  exact ⟨by rw [hm.out], below_drewN _ _ _⟩

/-- Append onto a slice v that was made since the world X: what comes back, and that nothing of X has turned. -/
theorem append_out (X w3 : World) (v : Value) (ka ra : Option Addr) (kc rc : Nat) (pre key L : List Int) (vs : List Plain.Vr) (hk : Bs X none ka key.length kc key) (hr : Vs X none ra vs.length rc vs)
    (own : w3.ownsRow X.heap.size 5 1 v pre.length (pre.map (Value.int .u8))) (bel : Below X.heap.size X w3) (hbd : pre.length + (20 + key.length + 41 * vs.length + Plain.vals vs) ≤ 100000000) (hL : Hid (L = pre ++ Plain.encRec key vs)) :
    Calls Try.prog 9 #[.agg #[.slice ka key.length kc, .slice ra vs.length rc], v] w3 fun e w4 => ∃ g cap, e = .returned (.slice (some ⟨g, 0, none⟩) L.length cap) ∧ Bs w4 none (some ⟨g, 0, none⟩) L.length cap L ∧ Below X.heap.size X w4 := by
  have hlt := fun k hk => (World.ownsRow.lt own k hk).1
  refine (append_any X.heap.size v pre key vs ka ra _ kc _ rc w3 own bel.size (hk.later bel (.inr hlt)) (hr.later bel (.inr hlt)) hbd).mono ?_
  rintro e w4 ⟨v4, rfl, o4, s4⟩
  rw [← hL.out] at o4
  have hLl : L.length ≤ 1000000000 := by
    have := Plain.encRec_len key vs
    rw [hL.out, List.length_append]
    omega
  have hL0 : 0 < L.length := by
    have := Plain.uv_len key.length
    rw [hL.out, List.length_append]
    simp only [Plain.encRec, List.length_append]
    omega
  obtain ⟨g, cap, hv4, hout⟩ := out_form o4 hL0 hLl
  exact ⟨g, cap, by rw [hv4], hout, bel.trans (s4.below bel.size hlt)⟩

set_option maxRecDepth 100000 in
set_option maxHeartbeats 2000000 in
theorem pre_walk (ba ka va : Option Addr) (bl bc kl kc vl vc : Nat) (bz key : List Int) (vs : List Plain.Vr) (w : World) (hb : Bs w none ba bl bc bz) (hk : Bs w none ka kl kc key) (hv : Vs w none va vl vc vs) :
    Calls Try.prog 4 #[.slice ba bl bc, .slice ka kl kc, .slice va vl vc] w fun e w' => e = .returned (.bool true) ∧ Below w.heap.size w w' := by
  have hl1 := hb.hlen
  have hl2 := hk.hlen
  have hl3 := hv.hlen
  subst hl1 hl2 hl3
  go_enter Try.func4, Try.ntmps4
  go_wp2_with fail
  refine (bytes12_any ba ka va _ bc _ kc _ vc vs w (Nat.le_trans hb.le hb.top) (Nat.le_trans hk.le hk.top) hv).mono ?_
  rintro e w ⟨⟨r, rfl, hr⟩, rfl⟩
  cases r with
  | false =>
    go_wp2
    go_ret
    exact ⟨rfl, Below.refl _ _⟩
  | true =>
    have hsz := hr rfl
    clear hr
    go_wp2_with fail
    refine (sizeOK_any ba ka va _ bc _ kc _ vc vs _ hv hsz).mono ?_
    rintro e w ⟨⟨r, rfl, hr⟩, rfl⟩
    cases r with
    | false =>
      go_wp2
      go_ret
      exact ⟨rfl, Below.refl _ _⟩
    | true =>
      have hsz' := hr rfl
      clear hr hsz
      go_wp2_with fail
      refine (record_any ka va _ kc _ vc vs none w hv (by omega) (fun k hk => by simp at hk)).mono ?_
      rintro e w1 ⟨ra, rc, rfl, hv1, bel1⟩
      go_wp2_with fail
      obtain ⟨W, hW⟩ : ∃ W, W = (w1.alloc (.cells #[.slice ka key.length kc, .slice ra vs.length rc] 28)) := ⟨_, rfl⟩
      have belA : Below w1.heap.size w1 W := by rw [hW]; exact (Below.refl _ _).alloc (Nat.le_refl _) _
      have hbox : W.heap[w1.heap.size]? = some (.cells #[.slice ka key.length kc, .slice ra vs.length rc] 28 (0, 0)) := by rw [hW]; exact heap_alloc_new w1 _
      rw [← hW]
      have belW : Below w.heap.size w W := bel1.trans (belA.mono bel1.size)
      have inv : Inv4 W w1.heap.size ba ka va ra bc kc vc rc bz key vs :=
        ⟨hb.later belW (.inl rfl), hk.later belW (.inl rfl), hv.later belW (.inl rfl), hv1.later belA (.inl rfl), (box2 hbox).1, (box2 hbox).2⟩
      clear hW hbox belA hv1 bel1
      have hbb : bz.length ≤ 1048576 := by omega
      have hkb : key.length ≤ 1048576 := by omega
      have hvb : vs.length ≤ 1048576 := by omega
      have hcW := inv.c0
      have hdW := inv.c1
      have hbD : Bs W.drew none ba bz.length bc bz := inv.ib.later ((Below.refl _ _).drew) (.inl rfl)
      obtain ⟨L, hL⟩ : ∃ L, L = bz ++ Plain.encRec key vs := ⟨_, rfl⟩
      have HL : Hid (L = bz ++ Plain.encRec key vs) := hL
      obtain ⟨M, hM⟩ : ∃ M, M = Plain.encRec key vs := ⟨_, rfl⟩
      have HM : Hid (M = [] ++ Plain.encRec key vs) := by rw [List.nil_append]; exact hM
      have hll : L.length = bz.length + M.length := by rw [hL, hM, List.length_append]
      have HLL : Hid (L.length = bz.length + M.length) := hll
      have hMl : M.length ≤ 100000000 := by
        have := Plain.encRec_len key vs
        rw [hM]
        omega
      have HE : Hid (M.length = (Plain.uv key.length).length + key.length + (Plain.uv vs.length).length + (Plain.encVers vs).length) := by
        show M.length = _
        rw [hM]
        simp only [Plain.encRec, List.length_append]
        omega
      have HD0 : Hid (L.drop 0 = bz ++ M) := by show L.drop 0 = bz ++ M; rw [hL, hM]; rfl
      have HD1 : Hid (L.drop bz.length = M ++ []) := by show L.drop bz.length = M ++ []; rw [hL, hM, List.append_nil, List.drop_left]
      have hLl : L.length ≤ 1000000000 := by omega
      clear hL hM hll
      have hkD : Bs W.drew none ka key.length kc key := inv.ik.later ((Below.refl _ _).drew) (.inl rfl)
      have hrD : Vs W.drew none ra vs.length rc vs := inv.ir.later ((Below.refl _ _).drew) (.inl rfl)
      go_region_with (first
        | (go_at_call 7; refine (clone_any ba _ bc bz _ (by exact hbD) (by omega)).mono ?_; rintro e w3 ⟨v, rfl, own3, bel3⟩; have c3 := (inv.later (Below.trans (Below.refl _ W).drew bel3)).c0; have d3 := (inv.later (Below.trans (Below.refl _ W).drew bel3)).c1)
        | (go_at_call 9; refine (append_out W.drew w3 v ka ra kc rc bz key L vs hkD hrD own3 bel3 (by omega) HL).mono ?_; rintro e w4 ⟨g, cap, rfl, out4, bel4⟩))
      all_goals
        have inv4 := inv.later (Below.trans (Below.refl _ W).drew bel4)
        have belw4 : Below w.heap.size w w4 := belW.trans ((Below.trans (Below.refl _ W).drew bel4).mono belW.size)
        have c4 := inv4.c0
        have d4 := inv4.c1
        clear c3 d3 bel4 bel3 own3 inv belW hkD hrD hbD hcW hdW
        go_wp2_with fail
        refine (append_out w4 w4 (.slice none 0 0) ka ra kc rc [] key M vs inv4.ik inv4.ir (World.ownsRow_nil _ _ _ _) (Below.refl _ _) (by simp; omega) HM).mono ?_
        rintro e w5 ⟨g5, cap5, rfl, out5, bel5⟩
        have inv5 := inv4.later bel5
        have out4' := out4.later bel5 (.inl rfl)
        have belw5 : Below w.heap.size w w5 := belw4.trans (bel5.mono belw4.size)
        clear c4 d4 inv4 out4 belw4 bel5
        go_wp2_with fail
        refine (encodedLen_calls ka va _ kc _ vc M.length vs _ inv5.iv (by omega) HE).mono ?_
        rintro e w6 ⟨rfl, bel6⟩
        have inv6 := inv5.later bel6
        have out4'' := out4'.later bel6 (.inl rfl)
        have out5'' := out5.later bel6 (.inl rfl)
        have belw6 : Below w.heap.size w w6 := belw5.trans (bel6.mono belw5.size)
        clear inv5 out4' out5 belw5 bel6
        have hne : ((L.length : Int) != (bz.length : Int) + (M.length : Int)) = false := by
          have := HLL.out
          rw [bne_eq_false_iff_eq]
          omega
        have hLb : bz.length ≤ L.length := by have := HLL.out; omega
        go_wp2_with fail
        refine (bytesAt_calls _ _ _ _ _ _ 0 0 L bz _ _ rfl out4'' inv6.ib hLl HD0 (Nat.zero_le _)).mono ?_
        rintro e w7 ⟨rfl, bel7⟩
        have out4''' := out4''.later bel7 (.inl rfl)
        have out5''' := out5''.later bel7 (.inl rfl)
        have belw7 : Below w.heap.size w w7 := belw6.trans (bel7.mono belw6.size)
        clear inv6 out4'' out5'' belw6 bel7
        go_wp2_with fail
        refine (bytesAt_calls _ _ _ _ _ _ bz.length _ L M _ _ rfl out4''' out5''' hLl HD1 hLb).mono ?_
        rintro e w8 ⟨rfl, bel8⟩
        have belw8 : Below w.heap.size w w8 := belw7.trans (bel8.mono belw7.size)
        clear out4''' out5''' belw7 bel8
        go_wp2
        go_ret
        exact ⟨rfl, belw8⟩
end Go.Proofs.Qxb6628844a
