/-
  THE WALK of zzUvarintLen (function 15).
-/
import Derived.Test.Qxb6628844aUv
namespace Go.Proofs.Qxb6628844a
open Go.RowKit

/-- The loop's relation: n - 1 bytes have been passed over, yy is what is still to come; the limit is 2 to the 7n while n ≤ 9. -/
def LenRel (x : Nat) (nn lim : Value) : Prop :=
  ∃ (n f q : Nat), f + n = 10 ∧ 1 ≤ n ∧ nn = .int .i64 n ∧ lim = .int .u64 q ∧ (n ≤ 9 → q = 2 ^ (7 * n)) ∧ n + (Plain.enc f (x / 2 ^ (7 * (n - 1)))).length = 1 + (Plain.uv x).length

theorem pow7 (n : Nat) (h1 : 1 ≤ n) (h9 : n ≤ 9) : 2 ^ (7 * n) ≤ 9223372036854775808 ∧ 128 ≤ 2 ^ (7 * n) := by
  constructor
  · have : 2 ^ (7 * n) ≤ 2 ^ 63 := Nat.pow_le_pow_right (by omega) (by omega)
    omega
  · have : 2 ^ 7 ≤ 2 ^ (7 * n) := Nat.pow_le_pow_right (by omega) (by omega)
    omega

set_option maxRecDepth 100000 in
set_option maxHeartbeats 400000 in
theorem uvarintLen_any (x : Nat) (w : World) (hx : x < 18446744073709551616) :
    Calls Try.prog 15 #[.int .u64 x] w fun e w' => e = .returned (.int .i64 ((Plain.uv x).length : Int)) ∧ w' = w := by
  have h0 : LenRel x (.int .i64 1) (.int .u64 128) := ⟨1, 9, 128, rfl, by omega, rfl, rfl, fun _ => rfl, by simp [Plain.uv]⟩
  have HX : Hid (x < 18446744073709551616) := hx
  clear hx
  go_enter Try.func15, Try.ntmps15
  go_wp2
  go_loop [3, 4] (fun nn lim => LenRel x nn lim) (fun nn _ => 10 - (intOf nn).toNat)
  case atStart => exact h0
  case round =>
    obtain ⟨n, f, q, hfn, hn1, rfl, rfl, hq, hlen⟩ := hrel
    have HQ : Hid (n ≤ 9 → q = 2 ^ (7 * n)) := hq
    have HL : Hid (n + (Plain.enc f (x / 2 ^ (7 * (n - 1)))).length = 1 + (Plain.uv x).length) := hlen
    clear hq hlen h0
    by_cases hn : n < 10
    · have hq := HQ.out (by omega)
      have hp := pow7 n hn1 (by omega)
      rw [← hq] at hp
      have hq63 : q ≤ 9223372036854775808 := hp.1
      have hpw : 2 ^ (7 * n) = 2 ^ (7 * (n - 1)) * 128 := by rw [show 7 * n = 7 * (n - 1) + 7 from by omega, Nat.pow_add]
      have hdd : x / 2 ^ (7 * (n - 1)) / 128 = x / 2 ^ (7 * n) := by rw [hpw, Nat.div_div_eq_div_mul]
      have hlt : x / 2 ^ (7 * (n - 1)) < 128 ↔ x < q := by
        rw [hq, hpw]
        rw [Nat.div_lt_iff_lt_mul (Nat.pow_pos (by omega))]
        rw [Nat.mul_comm]
      by_cases hc : q ≤ x
      · obtain ⟨g, rfl⟩ : ∃ g, f = g + 1 := ⟨f - 1, by omega⟩
        have hR : ∀ q', (n + 1 ≤ 9 → q' = 2 ^ (7 * (n + 1))) → LenRel x (.int .i64 ((n : Int) + 1)) (.int .u64 (q' : Nat)) := by
          intro q' hq'
          refine ⟨n + 1, g, q', by omega, by omega, by go_num, rfl, hq', ?_⟩
          have := HL.out
          rw [Plain.enc_big _ _ (by rw [hlt]; omega), hdd] at this
          simp only [List.length_cons] at this
          rw [show n + 1 - 1 = n from by omega]
          omega
        have HR : Hid (∀ q' : Nat, (n + 1 ≤ 9 → q' = 2 ^ (7 * (n + 1))) → LenRel x (.int .i64 ((n : Int) + 1)) (.int .u64 (q' : Nat))) := hR
        have HQ2 : Hid (q = 2 ^ (7 * n)) := hq
        clear hR hq hpw hdd hlt hp
        have hw : IntKind.u64.wrap ((q : Int) * 128) = ((q * 128 % 18446744073709551616 : Nat) : Int) := by
          rw [IntKind.wrap_u64]
          omega
        have hR : LenRel x (.int .i64 ((n : Int) + 1)) (.int .u64 (IntKind.u64.wrap ((q : Int) * 128))) := by
          rw [hw]
          refine HR.out _ fun h9 => ?_
          have h1 := HQ2.out
          have h2 := (pow7 (n + 1) (by omega) h9).1
          have h3 : 2 ^ (7 * (n + 1)) = q * 128 := by rw [h1, show 7 * (n + 1) = 7 * n + 7 from by omega, Nat.pow_add]
          rw [h3] at h2 ⊢
          omega
        clear hw
        go_wp2
        go_round
        case rel => exact hR
        case measure => simp [intOf]; omega
      · have hfin : n = (Plain.uv x).length := by
          have := HL.out
          rw [Plain.enc_small _ _ (by rw [hlt]; omega)] at this
          simp only [List.length_cons, List.length_nil] at this
          omega
        have HF : Hid (n = (Plain.uv x).length) := hfin
        clear hfin hq hpw hdd hlt hp
        go_wp2
        go_ret
        exact ⟨by rw [← HF.out]; rfl, rfl⟩
    · obtain rfl : n = 10 := by omega
      obtain rfl : f = 0 := by omega
      have hfin : (Plain.uv x).length = 10 := by
        have := HL.out
        simp only [Plain.enc, List.length_cons, List.length_nil] at this
        omega
      have HF : Hid ((Plain.uv x).length = 10) := hfin
      clear hfin
      go_wp2
      go_ret
      exact ⟨by rw [HF.out]; rfl, rfl⟩
end Go.Proofs.Qxb6628844a
