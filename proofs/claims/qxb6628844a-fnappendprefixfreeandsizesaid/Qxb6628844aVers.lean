/-
  SLICES OF VERSIONS in memory (five cells each), and the walks of the two kinds of size tests (functions 5, 12 and 6).
-/
import Derived.Test.Qxb6628844aUv
namespace Go.Proofs.Qxb6628844a
open Go.RowKit

/-- One version lies at ⟨b, o⟩. -/
structure VerAt (w : World) (row : Option Nat) (b o : Nat) (v : Plain.Vr) : Prop where
  val : ∃ a c, w.cell? ⟨b, o, none⟩ = some (.slice a v.val.length c) ∧ Bs w row a v.val.length c v.val
  pres : w.cell? ⟨b, o + 1, none⟩ = some (.bool v.pres)
  wa : w.cell? ⟨b, o + 2, none⟩ = some (.int .u64 v.wa)
  vu : w.cell? ⟨b, o + 3, none⟩ = some (.int .u64 v.vu)
  ep : w.cell? ⟨b, o + 4, none⟩ = some (.int .u64 v.ep)
  wa64 : v.wa < 18446744073709551616
  vu64 : v.vu < 18446744073709551616
  ep64 : v.ep < 18446744073709551616

/-- A slice of versions. -/
structure Vs (w : World) (row : Option Nat) (ao : Option Addr) (len cap : Nat) (vs : List Plain.Vr) : Prop where
  hlen : vs.length = len
  le : len ≤ cap
  top : cap ≤ maxLen
  nil : ao = none → len = 0 ∧ cap = 0
  cells : 0 < len → ∃ b off, ao = some ⟨b, off, none⟩ ∧ some b ≠ row ∧ ∀ i (h : i < vs.length), VerAt w row b (off + i * 5) vs[i]

theorem VerAt.step {w w' : World} {v v' : Value} {b o : Nat} {x : Plain.Vr} (h : VerAt w v.ownBlock b o x) (hn : some b ≠ v.ownBlock) (s : Step w w' v v') : VerAt w' v'.ownBlock b o x := by
  obtain ⟨a, c, h1, h2⟩ := h.val
  exact ⟨⟨a, c, s.cell h1 hn, h2.step s⟩, s.cell h.pres hn, s.cell h.wa hn, s.cell h.vu hn, s.cell h.ep hn, h.wa64, h.vu64, h.ep64⟩

theorem Vs.step {w w' : World} {v v' : Value} {ao : Option Addr} {len cap : Nat} {vs : List Plain.Vr} (h : Vs w v.ownBlock ao len cap vs) (s : Step w w' v v') : Vs w' v'.ownBlock ao len cap vs := by
  refine ⟨h.hlen, h.le, h.top, h.nil, fun h0 => ?_⟩
  obtain ⟨b, off, he, hn, hc⟩ := h.cells h0
  have hl := h.hlen
  have hb : b < w.heap.size := World.block_lt_of_cell? w ⟨b, off + 0 * 5 + 1, none⟩ (hc 0 (by omega)).pres
  exact ⟨b, off, he, s.ne hb hn, fun i hi => (hc i hi).step hn s⟩

theorem VerAt.later {w w' : World} {row row' : Option Nat} {b o : Nat} {x : Plain.Vr} (h : VerAt w row b o x) (s : Below w.heap.size w w') (hr : row' = row ∨ ∀ k, row' = some k → w.heap.size ≤ k) : VerAt w' row' b o x := by
  obtain ⟨a, c, h1, h2⟩ := h.val
  have hb : b < w.heap.size := World.block_lt_of_cell? w _ h1
  exact ⟨⟨a, c, (s.cell (by exact hb)).trans h1, h2.later s hr⟩, (s.cell (by exact hb)).trans h.pres, (s.cell (by exact hb)).trans h.wa, (s.cell (by exact hb)).trans h.vu, (s.cell (by exact hb)).trans h.ep, h.wa64, h.vu64, h.ep64⟩

theorem Vs.later {w w' : World} {row row' : Option Nat} {ao : Option Addr} {len cap : Nat} {vs : List Plain.Vr} (h : Vs w row ao len cap vs) (s : Below w.heap.size w w') (hr : row' = row ∨ ∀ k, row' = some k → w.heap.size ≤ k) : Vs w' row' ao len cap vs := by
  refine ⟨h.hlen, h.le, h.top, h.nil, fun h0 => ?_⟩
  obtain ⟨b, off, he, hn, hc⟩ := h.cells h0
  have hl := h.hlen
  have hb : b < w.heap.size := World.block_lt_of_cell? w ⟨b, off + 0 * 5 + 1, none⟩ (hc 0 (by omega)).pres
  refine ⟨b, off, he, ?_, fun i hi => (hc i hi).later s hr⟩
  rcases hr with rfl | hr
  · exact hn
  · intro e
    have := hr b e.symm
    omega

/-- The call answers a bool; where it says true, P holds. -/
def Ansd (P : Prop) (e : Ending) : Prop := ∃ r : Bool, e = .returned (.bool r) ∧ (r = true → P)

def ByRel (bl kl : Nat) (vs : List Plain.Vr) (t i : Value) : Prop :=
  ∃ k tt : Nat, k ≤ vs.length ∧ i = .int .i64 k ∧ t = .int .i64 tt ∧ tt = bl + kl + vs.length + Plain.vals (vs.take k) ∧ tt ≤ 1048576

set_option maxRecDepth 100000 in
set_option maxHeartbeats 1000000 in
theorem bytes5_any (ba ka va : Option Addr) (bl bc kl kc vl vc : Nat) (vs : List Plain.Vr) (w : World) (hbl : bl ≤ maxLen) (hkl : kl ≤ maxLen) (hv : Vs w none va vl vc vs) :
    Calls Try.prog 5 #[.slice ba bl bc, .slice ka kl kc, .slice va vl vc] w fun e w' => Ansd (bl + kl + vs.length + Plain.vals vs ≤ 1048576) e ∧ w' = w := by
  have hbl' : bl ≤ 9223372036854775807 := by unfold maxLen at hbl; omega
  have hkl' : kl ≤ 9223372036854775807 := by unfold maxLen at hkl; omega
  have hl := hv.hlen
  have hvl' : vl ≤ 9223372036854775807 := by have := hv.top; have := hv.le; unfold maxLen at *; omega
  clear hbl hkl
  subst hl
  by_cases hb1 : bl ≤ 1048576
  · by_cases hb2 : kl ≤ 1048576
    · by_cases hb3 : bl + kl ≤ 1048576
      · by_cases hb4 : vs.length ≤ 1048576
        · by_cases hb5 : bl + kl + vs.length ≤ 1048576
          · go_enter Try.func5, Try.ntmps5
            go_wp2
            go_loop [7, 8] (fun t i => ByRel bl kl vs t i) (fun _ i => vs.length - (intOf i).toNat)
            case atStart => exact ⟨0, bl + kl + vs.length, by omega, rfl, by go_num, by simp [Plain.vals], hb5⟩
            case round =>
              obtain ⟨k, tt, hk, rfl, rfl, htt, htb⟩ := hrel
              have HT : Hid (tt = bl + kl + vs.length + Plain.vals (vs.take k)) := htt
              clear htt
              by_cases hlt : k < vs.length
              · obtain ⟨b, off, rfl, _, hc⟩ := hv.cells (by omega)
                obtain ⟨⟨a, c, h1, hbs⟩, _, _, _, _, _, _, _⟩ := hc k hlt
                have hml : vs[k].val.length ≤ 9223372036854775807 := by have := hbs.le; have := hbs.top; unfold maxLen at this; omega
                obtain ⟨m, hm⟩ : ∃ m, m = vs[k].val.length := ⟨_, rfl⟩
                rw [← hm] at h1 hml
                have hsum := Plain.vals_take_succ vs k hlt
                rw [← hm] at hsum
                have HS : Hid (Plain.vals (vs.take (k + 1)) = Plain.vals (vs.take k) + m) := hsum
                clear hsum hm hbs hc hv
                by_cases hm1 : m ≤ 1048576
                · by_cases hmm : tt + m ≤ 1048576
                  · have hR : ByRel bl kl vs (.int .i64 ((tt : Int) + (m : Int))) (.int .i64 ((k : Int) + 1)) :=
                      ⟨k + 1, tt + m, by omega, by go_num, by go_num, by have := HT.out; have := HS.out; omega, hmm⟩
                    go_wp2
                    go_round
                    case rel => exact hR
                    case measure => simp [intOf]; omega
                  · go_wp2
                    go_ret
                    exact ⟨⟨false, rfl, by simp⟩, rfl⟩
                · go_wp2
                  go_ret
                  exact ⟨⟨false, rfl, by simp⟩, rfl⟩
              · go_wp2
                go_ret
                exact ⟨⟨true, rfl, fun _ => by have := HT.out; rw [List.take_of_length_le (by omega)] at this; omega⟩, rfl⟩
          · go_enter Try.func5, Try.ntmps5
            go_wp2
            go_ret
            exact ⟨⟨false, rfl, by simp⟩, rfl⟩
        · go_enter Try.func5, Try.ntmps5
          go_wp2
          go_ret
          exact ⟨⟨false, rfl, by simp⟩, rfl⟩
      · go_enter Try.func5, Try.ntmps5
        go_wp2
        go_ret
        exact ⟨⟨false, rfl, by simp⟩, rfl⟩
    · go_enter Try.func5, Try.ntmps5
      go_wp2
      go_ret
      exact ⟨⟨false, rfl, by simp⟩, rfl⟩
  · go_enter Try.func5, Try.ntmps5
    go_wp2
    go_ret
    exact ⟨⟨false, rfl, by simp⟩, rfl⟩

set_option maxRecDepth 100000 in
set_option maxHeartbeats 1000000 in
theorem bytes12_any (ba ka va : Option Addr) (bl bc kl kc vl vc : Nat) (vs : List Plain.Vr) (w : World) (hbl : bl ≤ maxLen) (hkl : kl ≤ maxLen) (hv : Vs w none va vl vc vs) :
    Calls Try.prog 12 #[.slice ba bl bc, .slice ka kl kc, .slice va vl vc] w fun e w' => Ansd (bl + kl + vs.length + Plain.vals vs ≤ 1048576) e ∧ w' = w := by
  have hbl' : bl ≤ 9223372036854775807 := by unfold maxLen at hbl; omega
  have hkl' : kl ≤ 9223372036854775807 := by unfold maxLen at hkl; omega
  have hl := hv.hlen
  have hvl' : vl ≤ 9223372036854775807 := by have := hv.top; have := hv.le; unfold maxLen at *; omega
  clear hbl hkl
  subst hl
  by_cases hb1 : bl ≤ 1048576
  · by_cases hb2 : kl ≤ 1048576
    · by_cases hb3 : bl + kl ≤ 1048576
      · by_cases hb4 : vs.length ≤ 1048576
        · by_cases hb5 : bl + kl + vs.length ≤ 1048576
          · go_enter Try.func12, Try.ntmps12
            go_wp2
            go_loop [7, 8] (fun t i => ByRel bl kl vs t i) (fun _ i => vs.length - (intOf i).toNat)
            case atStart => exact ⟨0, bl + kl + vs.length, by omega, rfl, by go_num, by simp [Plain.vals], hb5⟩
            case round =>
              obtain ⟨k, tt, hk, rfl, rfl, htt, htb⟩ := hrel
              have HT : Hid (tt = bl + kl + vs.length + Plain.vals (vs.take k)) := htt
              clear htt
              by_cases hlt : k < vs.length
              · obtain ⟨b, off, rfl, _, hc⟩ := hv.cells (by omega)
                obtain ⟨⟨a, c, h1, hbs⟩, _, _, _, _, _, _, _⟩ := hc k hlt
                have hml : vs[k].val.length ≤ 9223372036854775807 := by have := hbs.le; have := hbs.top; unfold maxLen at this; omega
                obtain ⟨m, hm⟩ : ∃ m, m = vs[k].val.length := ⟨_, rfl⟩
                rw [← hm] at h1 hml
                have hsum := Plain.vals_take_succ vs k hlt
                rw [← hm] at hsum
                have HS : Hid (Plain.vals (vs.take (k + 1)) = Plain.vals (vs.take k) + m) := hsum
                clear hsum hm hbs hc hv
                by_cases hm1 : m ≤ 1048576
                · by_cases hmm : tt + m ≤ 1048576
                  · have hR : ByRel bl kl vs (.int .i64 ((tt : Int) + (m : Int))) (.int .i64 ((k : Int) + 1)) :=
                      ⟨k + 1, tt + m, by omega, by go_num, by go_num, by have := HT.out; have := HS.out; omega, hmm⟩
                    go_wp2
                    go_round
                    case rel => exact hR
                    case measure => simp [intOf]; omega
                  · go_wp2
                    go_ret
                    exact ⟨⟨false, rfl, by simp⟩, rfl⟩
                · go_wp2
                  go_ret
                  exact ⟨⟨false, rfl, by simp⟩, rfl⟩
              · go_wp2
                go_ret
                exact ⟨⟨true, rfl, fun _ => by have := HT.out; rw [List.take_of_length_le (by omega)] at this; omega⟩, rfl⟩
          · go_enter Try.func12, Try.ntmps12
            go_wp2
            go_ret
            exact ⟨⟨false, rfl, by simp⟩, rfl⟩
        · go_enter Try.func12, Try.ntmps12
          go_wp2
          go_ret
          exact ⟨⟨false, rfl, by simp⟩, rfl⟩
      · go_enter Try.func12, Try.ntmps12
        go_wp2
        go_ret
        exact ⟨⟨false, rfl, by simp⟩, rfl⟩
    · go_enter Try.func12, Try.ntmps12
      go_wp2
      go_ret
      exact ⟨⟨false, rfl, by simp⟩, rfl⟩
  · go_enter Try.func12, Try.ntmps12
    go_wp2
    go_ret
    exact ⟨⟨false, rfl, by simp⟩, rfl⟩

def SzRel (bl kl : Nat) (vs : List Plain.Vr) (t i : Value) : Prop :=
  ∃ k tt : Nat, k ≤ vs.length ∧ i = .int .i64 k ∧ t = .int .i64 tt ∧ tt = bl + kl + 48 * vs.length + Plain.vals (vs.take k) ∧ tt ≤ 1048576

set_option maxRecDepth 100000 in
set_option maxHeartbeats 1000000 in
theorem sizeOK_any (ba ka va : Option Addr) (bl bc kl kc vl vc : Nat) (vs : List Plain.Vr) (w : World) (hv : Vs w none va vl vc vs) (hsz : bl + kl + vs.length + Plain.vals vs ≤ 1048576) :
    Calls Try.prog 6 #[.slice ba bl bc, .slice ka kl kc, .slice va vl vc] w fun e w' => Ansd (bl + kl + 48 * vs.length + Plain.vals vs ≤ 1048576) e ∧ w' = w := by
  have hl := hv.hlen
  subst hl
  have hb1 : bl ≤ 1048576 := by omega
  have hb2 : kl ≤ 1048576 := by omega
  have hb0 : vs.length ≤ 1048576 := by omega
  have HSZ : Hid (Plain.vals vs ≤ 1048576) := by show Plain.vals vs ≤ 1048576; omega
  clear hsz
  by_cases hb3 : vs.length ≤ 21845
  · by_cases ht : bl + kl + 48 * vs.length ≤ 1048576
    · go_enter Try.func6, Try.ntmps6
      go_wp2
      go_loop [7, 8] (fun t i => SzRel bl kl vs t i) (fun _ i => vs.length - (intOf i).toNat)
      case atStart => exact ⟨0, bl + kl + 48 * vs.length, by omega, rfl, by go_num, by simp [Plain.vals], ht⟩
      case round =>
        obtain ⟨k, tt, hk, rfl, rfl, htt, htb⟩ := hrel
        have HT : Hid (tt = bl + kl + 48 * vs.length + Plain.vals (vs.take k)) := htt
        clear htt
        by_cases hlt : k < vs.length
        · obtain ⟨b, off, rfl, _, hc⟩ := hv.cells (by omega)
          obtain ⟨⟨a, c, h1, hbs⟩, _, _, _, _, _, _, _⟩ := hc k hlt
          obtain ⟨m, hm⟩ : ∃ m, m = vs[k].val.length := ⟨_, rfl⟩
          rw [← hm] at h1
          have hsum := Plain.vals_take_succ vs k hlt
          rw [← hm] at hsum
          have hm1 : m ≤ 1048576 := by have := Plain.vals_take_le vs (k + 1); have := HSZ.out; omega
          have HS : Hid (Plain.vals (vs.take (k + 1)) = Plain.vals (vs.take k) + m) := hsum
          clear hsum hm hbs hc hv
          by_cases hmm : tt + m ≤ 1048576
          · have hR : SzRel bl kl vs (.int .i64 ((tt : Int) + (m : Int))) (.int .i64 ((k : Int) + 1)) :=
              ⟨k + 1, tt + m, by omega, by go_num, by go_num, by have := HT.out; have := HS.out; omega, hmm⟩
            go_wp2
            go_round
            case rel => exact hR
            case measure => simp [intOf]; omega
          · go_wp2
            go_ret
            exact ⟨⟨false, rfl, by simp⟩, rfl⟩
        · go_wp2
          go_ret
          exact ⟨⟨true, rfl, fun _ => by have := HT.out; rw [List.take_of_length_le (by omega)] at this; omega⟩, rfl⟩
    · go_enter Try.func6, Try.ntmps6
      go_wp2
      go_ret
      exact ⟨⟨false, rfl, by simp⟩, rfl⟩
  · go_enter Try.func6, Try.ntmps6
    go_wp2
    go_ret
    exact ⟨⟨false, rfl, by simp⟩, rfl⟩

end Go.Proofs.Qxb6628844a
