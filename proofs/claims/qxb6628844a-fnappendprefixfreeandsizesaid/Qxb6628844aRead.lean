/-
  THE WALK of zzUvarint (function 11).
-/
import Derived.Test.Qxb6628844aUv
import Derived.Laws.Bits64b
namespace Go.Proofs.Qxb6628844a
open Go.RowKit

theorem mask127 (c : Nat) (h : c < 256) : bits .and .u8 (c : Int) 127 = ((c % 128 : Nat) : Int) := by
  have := bits_mask .u8 8 (by decide) wraps_u8 7 (by decide) (c : Int) (by omega) (by omega)
  rw [show (2 : Int) ^ 7 - 1 = 127 from rfl] at this
  rw [this]
  omega

theorem or_shift (X m j x : Nat) (hX : X < 2 ^ j) (h : X + m * 2 ^ j = x) (hx : x < 18446744073709551616) : bits .or .u64 (X : Int) (((m * 2 ^ j : Nat)) : Int) = (x : Int) := by
  rw [bits_or_u64_nat X (m * 2 ^ j) (by omega) (by omega)]
  have h1 := Nat.shiftLeft_add_eq_or_of_lt hX m
  rw [Nat.shiftLeft_eq] at h1
  rw [Nat.or_comm, ← h1]
  omega

theorem wrap_shift (m j : Nat) (h : m * 2 ^ j < 18446744073709551616) : IntKind.u64.wrap ((m : Int) * 2 ^ j) = ((m * 2 ^ j : Nat) : Int) := by
  have e : (m : Int) * 2 ^ j = ((m * 2 ^ j : Nat) : Int) := by rw [Int.natCast_mul, Int.natCast_pow]; rfl
  rw [e]
  exact IntWalk.u64_in _ ⟨by omega, by omega⟩

theorem ret_three {a a' b b' : Int} (h1 : a = a') (h2 : b = b') : Ending.returned (.tuple #[.int .u64 a, .int .i64 b, .bool true]) = .returned (.tuple #[.int .u64 a', .int .i64 b', .bool true]) := by rw [h1, h2]

/-- The loop's relation: k bytes have been read, yy is what is still to come, X what has been gathered. -/
def RdRel (i : Nat) (L rest : List Int) (x : Nat) (xs s kk : Value) : Prop :=
  ∃ (k yy X f : Nat), f + k = 9 ∧ kk = .int .i64 k ∧ s = .int .u64 (7 * k : Nat) ∧ xs = .int .u64 X ∧ X < 2 ^ (7 * k) ∧ X + yy * 2 ^ (7 * k) = x ∧ (0 < k → 0 < yy) ∧
    L.drop (i + k) = Plain.enc f yy ++ rest ∧ i + k ≤ L.length ∧ i + k + (Plain.enc f yy).length = i + (Plain.uv x).length

set_option maxRecDepth 100000 in
set_option maxHeartbeats 400000 in
theorem uvarint_any (pa : Option Addr) (pl pc i x : Nat) (L rest : List Int) (w : World) (hp : Bs w none pa pl pc L) (hbd : pl ≤ 1000000000) (hx : x < 18446744073709551616)
    (hd : L.drop i = Plain.uv x ++ rest) (hi : i ≤ L.length) :
    Calls Try.prog 11 #[.slice pa pl pc, .int .i64 i] w fun e w' => e = .returned (.tuple #[.int .u64 x, .int .i64 ((i + (Plain.uv x).length : Nat) : Int), .bool true]) ∧ w' = w := by
  have h0 : RdRel i L rest x (.int .u64 0) (.int .u64 0) (.int .i64 0) := ⟨0, x, 0, 9, rfl, rfl, rfl, rfl, by simp, by simp, by simp, hd, hi, rfl⟩
  have hl1 := hp.hlen
  subst hl1
  have HX : Hid (x < 18446744073709551616) := hx
  clear hd hx
  go_enter Try.func11, Try.ntmps11
  go_wp2
  go_loop [7, 8, 9] (fun xs s kk => RdRel i L rest x xs s kk) (fun _ _ kk => 10 - (intOf kk).toNat)
  case atStart => exact h0
  case round =>
    obtain ⟨k, yy, X, f, hfk, rfl, rfl, rfl, hX, hxy, hpos, hdr, hile, hlen⟩ := hrel
    have HX1 : Hid (X < 2 ^ (7 * k)) := hX
    have HX2 : Hid (X + yy * 2 ^ (7 * k) = x) := hxy
    have HX3 : Hid (i + k + (Plain.enc f yy).length = i + (Plain.uv x).length) := hlen
    have HD : Hid (L.drop (i + k) = Plain.enc f yy ++ rest) := hdr
    have hn := Plain.enc_len f yy
    have hil := Plain.drop_le hdr hile
    have hk9 : k ≤ 9 := by omega
    have hilt : i + k < L.length := by omega
    obtain ⟨b, off, rfl, _, hc⟩ := hp.cells (by omega)
    have h1 : w.cell? ⟨b, off + (i + k), none⟩ = some (.int .u8 (L.getD (i + k) 0)) := hc (i + k) (by omega)
    have hat := Plain.drop_at hdr 0 (by omega)
    rw [Nat.add_zero] at hat
    rw [hat] at h1
    clear hX hxy hlen hdr hc hat h0
    by_cases hlt : yy < 128
    · rw [Plain.enc_small _ _ hlt] at h1
      simp only [List.getD_cons_zero] at h1
      have hm := mask127 yy (by omega)
      rw [Nat.mod_eq_of_lt hlt] at hm
      have h9 : k ≤ 8 ∨ yy ≤ 1 := by
        by_cases h : k ≤ 8
        · exact .inl h
        · obtain rfl : k = 9 := by omega
          have h1 := HX2.out
          have h2 := HX.out
          rw [show 2 ^ (7 * 9) = 9223372036854775808 from rfl] at h1
          exact .inr (by omega)
      have hfin : k + 1 = (Plain.uv x).length := by
        have := HX3.out
        rw [Plain.enc_small _ _ hlt] at this
        simp at this
        omega
      have HF : Hid (k + 1 = (Plain.uv x).length) := hfin
      clear hfin
      have hbig : yy * 2 ^ (7 * k) < 18446744073709551616 := by have := HX2.out; have := HX.out; omega
      have HV : Hid (bits .or .u64 (X : Int) (IntKind.u64.wrap ((yy : Int) * 2 ^ (7 * k))) = (x : Int)) := by
        show bits .or .u64 (X : Int) (IntKind.u64.wrap ((yy : Int) * 2 ^ (7 * k))) = (x : Int)
        rw [wrap_shift yy (7 * k) hbig]
        exact or_shift X yy (7 * k) x HX1.out HX2.out HX.out
      clear hbig
      by_cases hk : k = 9
      · subst hk
        have HV9 : Hid (bits .or .u64 (X : Int) ((yy : Int) * 9223372036854775808) = (x : Int)) := by
          have := HV.out
          rw [wrap_shift yy (7 * 9) (by have := HX2.out; have := HX.out; omega)] at this
          rw [show ((yy * 2 ^ (7 * 9) : Nat) : Int) = (yy : Int) * 9223372036854775808 from by rw [Int.natCast_mul]; rfl] at this
          exact this
        have h2 : 0 < yy := hpos (by omega)
        clear hpos hn HV
        go_wp2
        go_ret3
        exact ⟨ret_three HV9.out (by have := HF.out; omega), rfl⟩
      · have hk8 : k ≤ 8 := by omega
        by_cases h0 : 0 < k
        · have h2 : 0 < yy := hpos h0
          clear hpos hn
          go_wp2
          go_ret3
          exact ⟨ret_three HV.out (by have := HF.out; omega), rfl⟩
        · clear hpos hn
          go_wp2
          go_ret3
          exact ⟨ret_three HV.out (by have := HF.out; omega), rfl⟩
    · have hk8 : k ≤ 8 := by
        by_cases h : k ≤ 8
        · exact h
        · obtain rfl : k = 9 := by omega
          have h1 := HX2.out
          have h2 := HX.out
          rw [show 2 ^ (7 * 9) = 9223372036854775808 from rfl] at h1
          omega
      obtain ⟨g, rfl⟩ : ∃ g, f = g + 1 := ⟨f - 1, by omega⟩
      rw [Plain.enc_big _ _ hlt] at h1
      simp only [List.getD_cons_zero] at h1
      obtain ⟨c, hc⟩ : ∃ c, c = yy % 128 + 128 := ⟨_, rfl⟩
      obtain ⟨m, hm⟩ : ∃ m, m = yy % 128 := ⟨_, rfl⟩
      rw [← hc] at h1
      have hc1 : c < 256 := by omega
      have hc2 : 128 ≤ c := by omega
      have hm1 : m < 128 := by omega
      have hmk := mask127 c hc1
      rw [show c % 128 = m from by omega] at hmk
      have hpw : 2 ^ (7 * (k + 1)) = 128 * 2 ^ (7 * k) := by rw [show 7 * (k + 1) = 7 * k + 7 from by omega, Nat.pow_add]; omega
      have hsp : X + m * 2 ^ (7 * k) + yy / 128 * 2 ^ (7 * (k + 1)) = x := by
        have h1 := HX2.out
        have h2 : yy = 128 * (yy / 128) + m := by omega
        rw [hpw, ← h1]
        rw [show yy * 2 ^ (7 * k) = (128 * (yy / 128) + m) * 2 ^ (7 * k) from by rw [← h2]]
        rw [Nat.add_mul, Nat.mul_assoc 128, Nat.mul_left_comm 128]
        omega
      have hX1 : X + m * 2 ^ (7 * k) < 2 ^ (7 * (k + 1)) := by
        have h1 := HX1.out
        have h2 : m * 2 ^ (7 * k) ≤ 127 * 2 ^ (7 * k) := Nat.mul_le_mul_right _ (by omega)
        rw [hpw]
        omega
      have hv : bits .or .u64 (X : Int) (IntKind.u64.wrap ((m : Int) * 2 ^ (7 * k))) = ((X + m * 2 ^ (7 * k) : Nat) : Int) := by
        rw [wrap_shift m (7 * k) (by have := HX.out; omega)]
        exact or_shift X m (7 * k) _ HX1.out rfl (by have := HX.out; omega)
      have hR : RdRel i L rest x (.int .u64 (bits .or .u64 (X : Int) (IntKind.u64.wrap ((m : Int) * 2 ^ (7 * k))))) (.int .u64 ((7 * (k + 1) : Nat) : Int)) (.int .i64 ((k + 1 : Nat) : Int)) := by
        refine ⟨k + 1, yy / 128, X + m * 2 ^ (7 * k), g, by omega, rfl, rfl, by rw [hv], hX1, hsp, fun _ => by omega, ?_, by omega, ?_⟩
        · have := HD.out
          rw [Plain.enc_big _ _ hlt] at this
          have := Plain.drop_more (a := [((yy % 128 + 128 : Nat) : Int)]) this
          exact this
        · have := HX3.out
          rw [Plain.enc_big _ _ hlt] at this
          simp only [List.length_cons] at this
          omega
      rw [show ((7 * (k + 1) : Nat) : Int) = 7 * (k : Int) + 7 from by omega, show ((k + 1 : Nat) : Int) = (k : Int) + 1 from by omega] at hR
      clear hpw hsp hX1 hv hc hm HD HX1 HX2 HX3 hn hil hpos
      go_wp2
      go_round
      case rel => exact hR
      case measure => simp [intOf]; omega
end Go.Proofs.Qxb6628844a
