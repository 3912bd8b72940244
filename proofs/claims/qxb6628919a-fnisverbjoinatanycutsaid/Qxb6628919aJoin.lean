/-
  THE WALK of verbCutJoin (7).
-/
import Derived.Test.Qxb6628919aKit
import Derived.Maps.AppendAt
namespace Go.Proofs.Qxb6628919a
open Go.RowKit

/-- The loops' relation: behind pre, the first k bytes of l have been appended. -/
def JRel (B cap : Nat) (pre l : List UInt8) (w : World) (v i : Value) (wr : World) : Prop :=
  ∃ k : Nat, k ≤ l.length ∧ i = .int .i64 k ∧ v = .slice (some ⟨B, 0, none⟩) (pre.length + k) cap ∧
    wr.ownsRow B 5 1 (.slice (some ⟨B, 0, none⟩) (pre.length + k) cap) (pre.length + k) (cs (pre ++ l.take k)) ∧ Below B w wr

theorem cs_snoc (pre l : List UInt8) (k : Nat) (h : k < l.length) : cs (pre ++ l.take k) ++ [Value.int .u8 (l[k].toNat : Int)] = cs (pre ++ l.take (k + 1)) := by
  rw [Plain.take_snoc l k h, ← List.append_assoc, cs_append (pre ++ l.take k)]
  rfl

set_option maxRecDepth 100000 in
set_option maxHeartbeats 1000000 in
theorem join_any (a b : ByteArray) (w : World) (hab : a.size + b.size ≤ 1000000000) :
    Calls Try.prog 7 #[.string a, .string b] w fun e w' => e = .returned (.string ⟨(a.data.toList ++ b.data.toList).toArray⟩) ∧ Below w.heap.size w w' := by
  obtain ⟨i0, hi, hz0, hz1, hz2⟩ := info_parts Try.info5
  have hla : a.data.toList.length = a.size := by simp
  have hlb : b.data.toList.length = b.size := by simp
  have HLA := mkHid hla
  have HLB := mkHid hlb
  go_enter Try.func7, Try.ntmps7
  go_wp2_with (at_make; refine wpList_make_own _ rfl _ _ 26 rfl w.heap.size 5 i0 (.int .u8 0) 1 Try.underlying26 hi hz0 hz1 .i64 .i64 _ (a.size + b.size) rfl rfl (by omega) ?b1 ?b2 ?b3 ?_)
  case b1 => rw [hz2]; omega
  case b2 => unfold maxLen; omega
  case b3 => exact Nat.le_refl _
  intro w1 hown hgrow
  have h0 : JRel w.heap.size (a.size + b.size) [] a.data.toList w (.slice (some ⟨w.heap.size, 0, none⟩) 0 (a.size + b.size)) (.int .i64 0) w1 :=
    ⟨0, Nat.zero_le _, rfl, rfl, by simpa [cs] using hown, (Below.refl _ _).grown hgrow (Nat.le_refl _) (by simp)⟩
  clear hown hgrow hla hlb
  go_wp2
  go_loopw [5, 6] (fun v i wr => JRel w.heap.size (a.size + b.size) [] a.data.toList w v i wr) (fun _ i _ => a.size - (intOf i).toNat)
  case atStart => exact h0
  case round =>
    obtain ⟨k, hk, rfl, rfl, ho, hb⟩ := hrel
    clear h0
    rw [HLA.out] at hk
    by_cases hlt : k < a.size
    · have hlt' : k < a.data.toList.length := by rw [HLA.out]; exact hlt
      have hsn := cs_snoc [] a.data.toList k hlt'
      have HSN : Hid (cs ([] ++ a.data.toList.take k) ++ [Value.int .u8 (a[k].toNat : Int)] = cs ([] ++ a.data.toList.take (k + 1))) := hsn
      simp only [List.length_nil, Nat.zero_add] at ho ⊢
      clear hsn
      go_wp2_with (at_builtin; refine wpList_append_fits _ rfl (.tmp 20) (.tmp 24) 26 rfl w.heap.size 5 i0 1 Try.underlying26 hi hz1 w.heap.size k (a.size + b.size) _ rfl (ho.alloc _) ⟨wr.heap.size, 0, none⟩ 1 1 [.int .u8 (a[k].toNat : Int)] rfl rfl (cell_one_new _ _ _) (by simp [Value.oneCell']) (by omega) ?_)
      intro w2 hown2 hgrow2
      have hR : JRel w.heap.size (a.size + b.size) [] a.data.toList w (.slice (some ⟨w.heap.size, 0, none⟩) (k + 1) (a.size + b.size)) (.int .i64 ((k : Int) + 1)) w2 := by
        refine ⟨k + 1, by omega, by go_num, by simp, ?_, ?_⟩
        · rw [← HSN.out]
          simpa using hown2
        · exact (hb.alloc hb.size _).grown hgrow2 (by have := hb.size; simp; omega) (by simp)
      clear hown2 hgrow2 ho
      go_wp2
      go_roundw
      case rel => exact hR
      case measure => simp [intOf]; omega
    · obtain rfl : k = a.size := by omega
      have h1 : JRel w.heap.size (a.size + b.size) a.data.toList b.data.toList w (.slice (some ⟨w.heap.size, 0, none⟩) a.size (a.size + b.size)) (.int .i64 0) wr := by
        refine ⟨0, Nat.zero_le _, rfl, by rw [HLA.out]; rfl, ?_, hb⟩
        rw [List.take_of_length_le (by rw [HLA.out]; exact Nat.le_refl _)] at ho
        rw [HLA.out]
        simpa using ho
      clear ho
      simp only [List.length_nil, Nat.zero_add]
      obtain ⟨wo, rfl⟩ : ∃ wo : World, wo = wr := ⟨_, rfl⟩
      go_wp2
      go_loopw [5, 7] (fun v i wr => JRel w.heap.size (a.size + b.size) a.data.toList b.data.toList w v i wr) (fun _ i _ => b.size - (intOf i).toNat)
      case atStart => exact h1
      case round =>
        obtain ⟨q, hq, rfl, rfl, ho, hb2⟩ := hrel
        clear h1
        rw [HLB.out] at hq
        by_cases hlt2 : q < b.size
        · have hlt2' : q < b.data.toList.length := by rw [HLB.out]; exact hlt2
          have HSN : Hid (cs (a.data.toList ++ b.data.toList.take q) ++ [Value.int .u8 (b[q].toNat : Int)] = cs (a.data.toList ++ b.data.toList.take (q + 1))) := cs_snoc a.data.toList b.data.toList q hlt2'
          simp only [HLA.out] at ho ⊢
          go_wp2_with (at_builtin; refine wpList_append_fits _ rfl (.tmp 32) (.tmp 36) 26 rfl w.heap.size 5 i0 1 Try.underlying26 hi hz1 w.heap.size (a.size + q) (a.size + b.size) _ rfl (ho.alloc _) ⟨wr.heap.size, 0, none⟩ 1 1 [.int .u8 (b[q].toNat : Int)] rfl rfl (cell_one_new _ _ _) (by simp [Value.oneCell']) (by omega) ?_)
          intro w2 hown2 hgrow2
          have hR : JRel w.heap.size (a.size + b.size) a.data.toList b.data.toList w (.slice (some ⟨w.heap.size, 0, none⟩) (a.size + q + 1) (a.size + b.size)) (.int .i64 ((q : Int) + 1)) w2 := by
            refine ⟨q + 1, by omega, by go_num, by rw [HLA.out]; rfl, ?_, ?_⟩
            · rw [← HSN.out, HLA.out]
              exact hown2
            · exact (hb2.alloc hb2.size _).grown hgrow2 (by have := hb2.size; simp; omega) (by simp)
          clear hown2 hgrow2 ho
          go_wp2
          go_roundw
          case rel => exact hR
          case measure => simp [intOf]; omega
        · obtain rfl : q = b.size := by omega
          rw [List.take_of_length_le (by rw [HLB.out]; exact Nat.le_refl _)] at ho
          have hstr := run_own wr w.heap.size w.heap.size _ (a.size + b.size) (a.data.toList ++ b.data.toList) (by rw [List.length_append, HLB.out]) ho
          simp only [HLA.out] at hstr ⊢
          clear ho
          go_wp2
          go_ret
          exact ⟨rfl, hb2⟩
end Go.Proofs.Qxb6628919a
