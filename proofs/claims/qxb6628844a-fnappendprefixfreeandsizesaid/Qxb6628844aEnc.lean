/-
  THE WALK of zzEncodedLen (function 13).
-/
import Derived.Test.Qxb6628844aLen
import Derived.Test.Qxb6628844aVers
import Derived.Deep.QuietTactic
import Derived.BigQuiet
import Derived.Deep.RegionWith
namespace Go.Proofs.Qxb6628844a
open Go.RowKit

theorem uvarintLen_calls (x m : Nat) (w : World) (hx : x < 18446744073709551616) (hm : Hid (m = (Plain.uv x).length)) :
    Calls Try.prog 15 #[.int .u64 x] w fun e w' => e = .returned (.int .i64 (m : Int)) ∧ w' = w := by
  rw [hm.out]
  exact uvarintLen_any x w hx

def EncRel (h : Nat) (vs : List Plain.Vr) (w : World) (n i : Value) (wr : World) : Prop :=
  ∃ k t d : Nat, k ≤ vs.length ∧ i = .int .i64 k ∧ n = .int .i64 t ∧ t = h + (Plain.encVers (vs.take k)).length ∧ wr = w.drewN d

set_option maxRecDepth 100000 in
set_option maxHeartbeats 1000000 in
theorem encodedLen_any (ka va : Option Addr) (kl kc vl vc : Nat) (vs : List Plain.Vr) (w : World) (hv : Vs w none va vl vc vs) (hbd : 20 + kl + 41 * vs.length + Plain.vals vs ≤ 100000000) :
    Calls Try.prog 13 #[.slice ka kl kc, .slice va vl vc] w fun e w' => e = .returned (.int .i64 (((Plain.uv kl).length + kl + (Plain.uv vs.length).length + (Plain.encVers vs).length : Nat) : Int)) ∧ ∃ d, w' = w.drewN d := by
  have hl := hv.hlen
  subst hl
  have L1 := Plain.uv_len kl
  have L2 := Plain.uv_len vs.length
  have hkb : kl ≤ 100000000 := by omega
  have hvb : vs.length ≤ 100000000 := by omega
  obtain ⟨n1, hn1⟩ : ∃ n, n = (Plain.uv kl).length := ⟨_, rfl⟩
  obtain ⟨n2, hn2⟩ : ∃ n, n = (Plain.uv vs.length).length := ⟨_, rfl⟩
  rw [← hn1] at L1
  rw [← hn2] at L2
  have HN1 : Hid (n1 = (Plain.uv kl).length) := hn1
  have HN2 : Hid (n2 = (Plain.uv vs.length).length) := hn2
  clear hn1 hn2
  go_enter Try.func13, Try.ntmps13
  go_wp2_with fail
  refine (uvarintLen_calls kl n1 _ (by omega) HN1).mono ?_
  rintro e w1 ⟨rfl, rfl⟩
  go_wp2_with fail
  refine (uvarintLen_calls vs.length n2 _ (by omega) HN2).mono ?_
  rintro e w ⟨rfl, rfl⟩
  go_wp2
  go_loopw [5, 6] (fun n i wr => EncRel (n1 + kl + n2) vs w n i wr) (fun _ i _ => vs.length - (intOf i).toNat)
  case atStart => exact ⟨0, n1 + kl + n2, 0, Nat.zero_le _, rfl, by go_num, by simp [Plain.encVers], rfl⟩
  case round =>
    obtain ⟨k, t, d, hk, rfl, rfl, ht, hwr⟩ := hrel
    have HW : Hid (wr = w.drewN d) := hwr
    have hvw : Vs wr none va vs.length vc vs := hv.later (by rw [hwr]; exact ⟨rfl, rfl, rfl, Nat.le_refl _, fun _ _ => rfl⟩) (.inl rfl)
    clear hwr
    have HT : Hid (t = n1 + kl + n2 + (Plain.encVers (vs.take k)).length) := ht
    have htb : t ≤ 100000000 := by
      have h1 := Plain.encVers_len (vs.take k)
      have h2 := Plain.vals_take_le vs k
      have h3 : (vs.take k).length ≤ vs.length := by simp; omega
      omega
    clear ht
    by_cases hlt : k < vs.length
    · obtain ⟨vb, vo, rfl, _, hc⟩ := hvw.cells (by omega)
      have hvr := hc k hlt
      obtain ⟨x, hx⟩ : ∃ x, x = vs[k] := ⟨_, rfl⟩
      have hxv : x.val.length ≤ 100000000 := by
        have h1 := Plain.vals_take_succ vs k hlt
        have h2 := Plain.vals_take_le vs (k + 1)
        rw [hx]
        omega
      have hsum := congrArg List.length (Plain.encVers_take_succ vs k hlt)
      rw [List.length_append, ← hx] at hsum
      have HS : Hid ((Plain.encVers (vs.take (k + 1))).length = (Plain.encVers (vs.take k)).length + (Plain.encVer x).length) := hsum
      rw [← hx] at hvr
      clear hx hc hsum
      obtain ⟨a0, c0, r0, hbs⟩ := hvr.val
      have r1 := hvr.pres
      have r2 := hvr.wa
      have r3 := hvr.vu
      have r4 := hvr.ep
      have hx64 : Hid (x.wa < 18446744073709551616 ∧ x.vu < 18446744073709551616 ∧ x.ep < 18446744073709551616) := ⟨hvr.wa64, hvr.vu64, hvr.ep64⟩
      clear hvr hbs hvw
      obtain ⟨m2, hm2⟩ : ∃ n, n = (Plain.uv x.wa).length := ⟨_, rfl⟩
      obtain ⟨m3, hm3⟩ : ∃ n, n = (Plain.uv x.vu).length := ⟨_, rfl⟩
      obtain ⟨m4, hm4⟩ : ∃ n, n = (Plain.uv x.ep).length := ⟨_, rfl⟩
      obtain ⟨m5, hm5⟩ : ∃ n, n = (Plain.uv x.val.length).length := ⟨_, rfl⟩
      have M2 := Plain.uv_len x.wa
      have M3 := Plain.uv_len x.vu
      have M4 := Plain.uv_len x.ep
      have M5 := Plain.uv_len x.val.length
      rw [← hm2] at M2
      rw [← hm3] at M3
      rw [← hm4] at M4
      rw [← hm5] at M5
      have HM2 : Hid (m2 = (Plain.uv x.wa).length) := hm2
      have HM3 : Hid (m3 = (Plain.uv x.vu).length) := hm3
      have HM4 : Hid (m4 = (Plain.uv x.ep).length) := hm4
      have HM5 : Hid (m5 = (Plain.uv x.val.length).length) := hm5
      clear hm2 hm3 hm4 hm5
      have G1 : IntKind.i64.wrap (1 + (m2 : Int)) = 1 + (m2 : Int) := by rw [IntKind.wrap_i64]; omega
      have G2 : IntKind.i64.wrap (1 + (m2 : Int) + (m3 : Int)) = 1 + (m2 : Int) + (m3 : Int) := by rw [IntKind.wrap_i64]; omega
      have G3 : IntKind.i64.wrap (1 + (m2 : Int) + (m3 : Int) + (m4 : Int)) = 1 + (m2 : Int) + (m3 : Int) + (m4 : Int) := by rw [IntKind.wrap_i64]; omega
      have G4 : IntKind.i64.wrap ((t : Int) + (1 + (m2 : Int) + (m3 : Int) + (m4 : Int))) = (t : Int) + (1 + (m2 : Int) + (m3 : Int) + (m4 : Int)) := by rw [IntKind.wrap_i64]; omega
      have g1 : (0 : Int) ≤ (k : Int) := by omega
      have g2 : (k : Int) < (vs.length : Int) := by omega
      cases hpr : x.pres with
      | true =>
        rw [hpr] at r1
        go_wp2_with fail
        go_quiet (first | (go_at_call_of 15 (x.wa); exact Calls.quiet_of_same (uvarintLen_calls x.wa m2 _ hx64.out.1 HM2)) | (go_at_call_of 15 (x.vu); exact Calls.quiet_of_same (uvarintLen_calls x.vu m3 _ hx64.out.2.1 HM3)) | (go_at_call_of 15 (x.ep); exact Calls.quiet_of_same (uvarintLen_calls x.ep m4 _ hx64.out.2.2 HM4)))
        go_wp2_with fail
        have r0' : (wr.drewN nq).cell? ⟨vb, vo + k * 5, none⟩ = some (.slice a0 x.val.length c0) := by simpa using r0
        obtain ⟨d7, HW7⟩ : ∃ d7, Hid (wr.drewN nq = w.drewN d7) := ⟨d + nq, show wr.drewN nq = w.drewN (d + nq) from by rw [HW.out, World.drewN_drewN]⟩
        generalize wr.drewN nq = w7 at *
        have G5 : IntKind.u64.wrap (x.val.length : Int) = (x.val.length : Int) := by rw [IntKind.wrap_u64]; omega
        have G6 : IntKind.i64.wrap ((m5 : Int) + (x.val.length : Int)) = (m5 : Int) + (x.val.length : Int) := by rw [IntKind.wrap_i64]; omega
        have G7 : IntKind.i64.wrap ((t : Int) + (1 + (m2 : Int) + (m3 : Int) + (m4 : Int)) + ((m5 : Int) + (x.val.length : Int))) = (t : Int) + (1 + (m2 : Int) + (m3 : Int) + (m4 : Int)) + ((m5 : Int) + (x.val.length : Int)) := by rw [IntKind.wrap_i64]; omega
        go_quiet ((go_at_call 15; exact Calls.quiet_of_same (uvarintLen_calls x.val.length m5 _ (by omega) HM5)))
        have hR : ∀ n, EncRel (n1 + kl + n2) vs w (.int .i64 ((t : Int) + (1 + (m2 : Int) + (m3 : Int) + (m4 : Int)) + ((m5 : Int) + (x.val.length : Int)))) (.int .i64 ((k : Int) + 1)) (w7.drewN n) := by
          intro n
          refine ⟨k + 1, t + (1 + m2 + m3 + m4) + (m5 + x.val.length), d7 + n, by omega, by go_num, by go_num, ?_, by rw [HW7.out, World.drewN_drewN]⟩
          have e1 : (Plain.encVer x).length = 1 + (m2 + (m3 + (m4 + (m5 + x.val.length)))) := by
            rw [HM2.out, HM3.out, HM4.out, HM5.out]
            simp [Plain.encVer, Plain.tail, hpr]
            omega
          have e2 := HT.out
          have e3 := HS.out
          omega
        clear HT HS
        go_wp2
        go_roundw
        case rel => exact hR _
        case measure => simp [intOf]; omega
      | false =>
        rw [hpr] at r1
        go_wp2_with fail
        go_quiet (first | (go_at_call_of 15 (x.wa); exact Calls.quiet_of_same (uvarintLen_calls x.wa m2 _ hx64.out.1 HM2)) | (go_at_call_of 15 (x.vu); exact Calls.quiet_of_same (uvarintLen_calls x.vu m3 _ hx64.out.2.1 HM3)) | (go_at_call_of 15 (x.ep); exact Calls.quiet_of_same (uvarintLen_calls x.ep m4 _ hx64.out.2.2 HM4)))
        have hR : ∀ n, EncRel (n1 + kl + n2) vs w (.int .i64 ((t : Int) + (1 + (m2 : Int) + (m3 : Int) + (m4 : Int)))) (.int .i64 ((k : Int) + 1)) (wr.drewN n) := by
          intro n
          refine ⟨k + 1, t + (1 + m2 + m3 + m4), d + n, by omega, by go_num, by go_num, ?_, by rw [HW.out, World.drewN_drewN]⟩
          have e1 : (Plain.encVer x).length = 1 + (m2 + (m3 + m4)) := by
            rw [HM2.out, HM3.out, HM4.out]
            simp [Plain.encVer, Plain.tail, hpr]
            omega
          have e2 := HT.out
          have e3 := HS.out
          omega
        clear HT HS
        go_wp2
        go_roundw
        case rel => exact hR _
        case measure => simp [intOf]; omega
    · have hfin : t = (Plain.uv kl).length + kl + (Plain.uv vs.length).length + (Plain.encVers vs).length := by
        have := HT.out
        rw [List.take_of_length_le (by omega)] at this
        rw [← HN1.out, ← HN2.out]
        exact this
      have HF := (show Hid (t = (Plain.uv kl).length + kl + (Plain.uv vs.length).length + (Plain.encVers vs).length) from hfin)
      clear hfin HT
      go_wp2
      go_ret
      exact ⟨by rw [← HF.out]; rfl, d, HW.out⟩
end Go.Proofs.Qxb6628844a
