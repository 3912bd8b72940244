/-
  THE WALK of FnKindSplitWalk (4).
-/
import Derived.Test.Qxb6628953aKit
namespace Go.Proofs.Qxb6628953a
open Go.RowKit

set_option maxRecDepth 100000 in
set_option maxHeartbeats 1000000 in
theorem split_walk (ao : Option Addr) (len cap : Nat) (zs : List Int) (k : Int) (w : World) (hb : Bs w ao len cap zs) :
    Calls Try.prog 4 #[.slice ao len cap, .int .i64 k] w fun e w' => e = .returned (.bool true) ∧ Below w.heap.size w w' := by
  obtain ⟨i0, hi, hz0, hz1, hz2⟩ := info_parts Try.info5
  have q22 : ∀ (w : World) (a : Option Addr) (n c n' c' : Nat), (binOp .neq 22 (.slice a n c) (.slice none n' c')).run Try.prog w = .ok (.bool (!a.isNone)) w := fun w a n c n' c' => run_neq_slice_nil_any w _ _ a n c n' c' Try.underlying22
  have hl := hb.hlen
  subst hl
  go_enter Try.func4, Try.ntmps4
  go_wp2_with fail
  refine (bytes7_any ao _ cap k w (Nat.le_trans hb.le hb.top)).mono ?_
  rintro e w ⟨⟨r, rfl, hr⟩, rfl⟩
  cases r with
  | false =>
    go_wp2
    go_ret
    exact ⟨rfl, Below.refl _ _⟩
  | true =>
    have hsz := hr rfl
    clear hr
    by_cases hk0 : k < 0
    · go_wp2
      go_ret
      exact ⟨rfl, Below.refl _ _⟩
    · by_cases hkn : k ≤ zs.length
      · obtain ⟨m, rfl⟩ : ∃ m : Nat, k = (m : Int) := ⟨k.toNat, by omega⟩
        cases ao with
        | none =>
          have h0 := hb.nil rfl
          obtain rfl : zs = [] := List.eq_nil_of_length_eq_zero h0.1
          obtain rfl : cap = 0 := h0.2
          obtain rfl : m = 0 := by simp at hkn; omega
          clear h0 hb hkn
          go_wp2_with fail
          refine (kind_any _ _ _ 0 _ (by omega) (.inl ⟨rfl, rfl⟩)).mono ?_
          rintro e w ⟨rfl, rfl⟩
          go_wp2_with fail
          refine (kind_any _ _ _ 0 _ (by omega) (.inl ⟨rfl, rfl⟩)).mono ?_
          rintro e w ⟨rfl, rfl⟩
          go_wp2_with fail
          refine (kind_any _ _ _ 0 _ (by omega) (.inl ⟨rfl, rfl⟩)).mono ?_
          rintro e w ⟨rfl, rfl⟩
          go_wp2
          go_ret
          exact ⟨rfl, Below.refl _ _⟩
        | some ad =>
          go_wp2_with (at_make; refine wpList_make_full _ rfl _ _ 22 rfl w.heap.size 5 i0 (.int .u8 0) 1 Try.underlying22 hi hz0 hz1 .i64 .i64 _ _ zs.length rfl rfl rfl rfl ?b1 ?b2 ?b3 ?_)
          case b1 => rw [hz2]; omega
          case b2 => unfold maxLen; omega
          case b3 => exact Nat.le_refl _
          intro w1 hown hgrow
          obtain ⟨w2, hcp, own2, bel2⟩ := copy_law w w1 ad zs.length cap zs hb 3 (by simpa using hown) ((Below.refl _ _).grown hgrow (Nat.le_refl _) (by simp))
          clear hown hgrow
          have hcell : ∀ i, i < zs.length → w2.cell? ⟨w.heap.size, i, none⟩ = some (.int .u8 (zs.getD i 0)) := by
            intro i hi
            rw [own2.cellAt i (by omega)]
            simp [List.getD, hi]
          have hm0 : m ≤ zs.length := by omega
          clear hb own2
          by_cases hn0 : zs.length = 0
          · have hn1 : zs.length ≤ 0 := by omega
            have hm1 : m ≤ 0 := by omega
            have heq : ((m : Int) == (zs.length : Int)) = true := by rw [beq_iff_eq]; omega
            clear hcell hn0
            go_wp2_with fail
            refine (kind_any _ _ _ 0 _ (by omega) (.inl ⟨by omega, rfl⟩)).mono ?_
            rintro e w3 ⟨rfl, rfl⟩
            go_wp2_with fail
            refine (kind_any _ _ _ 0 _ (by omega) (.inl ⟨by omega, rfl⟩)).mono ?_
            rintro e w3 ⟨rfl, rfl⟩
            go_wp2_with fail
            refine (kind_any _ _ _ 0 _ (by omega) (.inl ⟨by omega, rfl⟩)).mono ?_
            rintro e w3 ⟨rfl, rfl⟩
            go_wp2
            go_ret
            exact ⟨rfl, bel2⟩
          · have c0 := hcell 0 (by omega)
            obtain ⟨z0, hz0⟩ : ∃ z, z = zs.getD 0 0 := ⟨_, rfl⟩
            rw [← hz0] at c0
            by_cases hm : m = 0
            · subst hm
              clear hz0 hcell
              have hne : ((0 : Int) == (zs.length : Int)) = false := by rw [beq_eq_false_iff_ne]; omega
              go_wp2_with fail
              refine (kind_any _ _ _ 0 _ (by omega) (.inl ⟨by omega, rfl⟩)).mono ?_
              rintro e w3 ⟨rfl, rfl⟩
              go_wp2_with fail
              refine (kind_any _ _ _ z0 _ (by omega) (.inr ⟨by omega, w.heap.size, 0, rfl, c0⟩)).mono ?_
              rintro e w3 ⟨rfl, rfl⟩
              go_wp2_with fail
              refine (kind_any _ _ _ z0 _ (by omega) (.inr ⟨by omega, w.heap.size, 0, rfl, c0⟩)).mono ?_
              rintro e w3 ⟨rfl, rfl⟩
              go_wp2
              go_ret
              exact ⟨rfl, bel2⟩
            · by_cases hmn : m = zs.length
              · clear hz0 hcell
                have heq : ((m : Int) == (zs.length : Int)) = true := by rw [beq_iff_eq]; omega
                have hmp : 0 < m := by omega
                have hcap : zs.length - m = 0 := by omega
                go_wp2_with fail
                refine (kind_any _ _ _ z0 _ (by omega) (.inr ⟨by omega, w.heap.size, 0, rfl, c0⟩)).mono ?_
                rintro e w3 ⟨rfl, rfl⟩
                go_wp2_with fail
                refine (kind_any _ _ _ 0 _ (by omega) (.inl ⟨by omega, rfl⟩)).mono ?_
                rintro e w3 ⟨rfl, rfl⟩
                go_wp2_with fail
                refine (kind_any _ _ _ z0 _ (by omega) (.inr ⟨by omega, w.heap.size, 0, rfl, c0⟩)).mono ?_
                rintro e w3 ⟨rfl, rfl⟩
                go_wp2
                go_ret
                exact ⟨rfl, bel2⟩
              · have cm := hcell m (by omega)
                obtain ⟨zm, hzm⟩ : ∃ z, z = zs.getD m 0 := ⟨_, rfl⟩
                rw [← hzm] at cm
                have hne : ((m : Int) == (zs.length : Int)) = false := by rw [beq_eq_false_iff_ne]; omega
                have hmp : 0 < m := by omega
                have hmq : m < zs.length := by omega
                clear hz0 hzm hcell
                go_wp2_with fail
                refine (kind_any _ _ _ z0 _ (by omega) (.inr ⟨by omega, w.heap.size, 0, rfl, c0⟩)).mono ?_
                rintro e w3 ⟨rfl, rfl⟩
                go_wp2_with fail
                refine (kind_any _ _ _ zm _ (by omega) (.inr ⟨by omega, w.heap.size, m, rfl, cm⟩)).mono ?_
                rintro e w3 ⟨rfl, rfl⟩
                go_wp2_with fail
                refine (kind_any _ _ _ z0 _ (by omega) (.inr ⟨by omega, w.heap.size, 0, rfl, c0⟩)).mono ?_
                rintro e w3 ⟨rfl, rfl⟩
                go_wp2
                go_ret
                exact ⟨rfl, bel2⟩
      · go_wp2
        go_ret
        exact ⟨rfl, Below.refl _ _⟩
end Go.Proofs.Qxb6628953a
