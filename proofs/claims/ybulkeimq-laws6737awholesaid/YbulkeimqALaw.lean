import Derived.Test.YbulkeimqAApply
import Derived.Test.YbulkeimqAEq
import Derived.Laws.CopyOwn
namespace Go.Proofs.Ybulkeimq.lawS6737AWhole
open Go.ChangeShapes Go.WideShapes Go.ChangeAt Go.RowKit

/-- A callee that writes nothing old, then a new block, then that block written whole. -/
theorem newBlock {w w1 : World} (B : Nat) (hb : Below w.heap.size w w1) (hB : B ≤ w.heap.size) (Z V : Array Value) (t : TypeId) : ∃ w2, w2 = (w1.alloc (.cells Z t)).setRow w1.heap.size V ∧ Below B w w2 ∧
    (∀ k, k < w.heap.size → w2.heap[k]? = w.heap[k]?) ∧ w2.heap[w1.heap.size]? = some (.cells V t (0, 0)) ∧ w.heap.size ≤ w1.heap.size ∧ w2.heap.size = w1.heap.size + 1 := by
  have hs := hb.size
  refine ⟨_, rfl, below_setRow (((Joins.below_le hb hB)).alloc (by omega) _) (by omega) _, ?_, setRow_heap _ _ Z V t (0, 0) (heap_alloc_new _ _), hs, by simp [World.setRow]⟩
  intro k hk
  rw [setRow_other _ _ _ _ (by omega), ← hb.block k hk]
  show (w1.heap.push _)[k]? = _
  rw [Array.getElem?_push, if_neg (by omega)]

set_option maxHeartbeats 1000000 in
theorem walk (c0 c1 c3 r0 r1 r2 r3 r4 r5 r6 r7 c14 c15 c16 c17 c18 c19 c21 c22 c23 at0 : Int) (c2 c4 c5 c20 c24 : Bool) (w : World) (h2 : 0 ≤ r2 ∧ r2 ≤ 65535) (h7 : 0 ≤ r7 ∧ r7 ≤ 65535) :
    Calls Yba.prog 3 #[.agg #[.int .u64 c0, .int .u64 c1, .bool c2, .int .i64 c3, .bool c4, .bool c5, .int .u16 r0, .int .u16 r1, .int .u16 r2, .int .u16 r3, .int .u16 r4, .int .u16 r5, .int .u16 r6, .int .u16 r7, .int .u64 c14, .int .i64 c15, .int .u16 c16, .int .i64 c17, .int .i64 c18, .int .i64 c19, .bool c20, .int .u16 c21, .int .u64 c22, .int .u64 c23, .bool c24], .int .i64 at0] w fun e w' => e = .returned (.bool true) ∧ Below w.heap.size w w' := by
  obtain ⟨l2, u2⟩ := h2
  obtain ⟨l7, u7⟩ := h7
  go_enter Yba.func3, Yba.ntmps3
  go_wp2_with (refine wpList_load_row rfl 26 (.tmp 2) rfl w.heap.size rfl 26 #[.int .u64 c0, .int .u64 c1, .bool c2, .int .i64 c3, .bool c4, .bool c5, .int .u16 r0, .int .u16 r1, .int .u16 r2, .int .u16 r3, .int .u16 r4, .int .u16 r5, .int .u16 r6, .int .u16 r7, .int .u64 c14, .int .i64 c15, .int .u16 c16, .int .i64 c17, .int .i64 c18, .int .i64 c19, .bool c20, .int .u16 c21, .int .u64 c22, .int .u64 c23, .bool c24] (0, 0) _ (heap_alloc_new _ _) Yba.underlying26 rfl (by kernel_rfl) ?_)
  refine (build_any c0 c1 c3 r0 r1 r2 r3 r4 r5 r6 r7 c14 c15 c16 c17 c18 c19 c21 c22 c23 c2 c4 c5 c20 c24 _).mono ?_
  rintro e w1 ⟨rfl, hb1⟩
  obtain ⟨w2, e2, hb2, ho2, hm2, hs1, hs2⟩ := newBlock w.heap.size hb1 (by simp) #[.int .u64 0, .int .u64 0, .bool false, .int .i64 0, .bool false, .bool false, .int .u16 0, .int .u16 0, .int .u16 0, .int .u16 0, .int .u16 0, .int .u16 0, .int .u16 0, .int .u16 0, .int .u64 0, .int .i64 0, .int .u16 0, .int .i64 0, .int .i64 0, .int .i64 0, .bool false, .int .u16 0, .int .u64 0, .int .u64 0, .bool false] #[.int .u64 c0, .int .u64 c1, .bool c2, .int .i64 c3, .bool c4, .bool c5, .int .u16 r0, .int .u16 r1, .int .u16 r2, .int .u16 r3, .int .u16 r4, .int .u16 r5, .int .u16 r6, .int .u16 r7, .int .u64 c14, .int .i64 c15, .int .u16 c16, .int .i64 c17, .int .i64 c18, .int .i64 c19, .bool c20, .int .u16 c21, .int .u64 c22, .int .u64 c23, .bool c24] 30
  have E2 := hide e2
  have HB1 := hide hb1
  clear e2 hb1
  go_upto_region 2 with (refine wpList_store_row rfl 30 (.tmp 5) (.tmp 12) rfl w1.heap.size #[.int .u64 c0, .int .u64 c1, .bool c2, .int .i64 c3, .bool c4, .bool c5, .int .u16 r0, .int .u16 r1, .int .u16 r2, .int .u16 r3, .int .u16 r4, .int .u16 r5, .int .u16 r6, .int .u16 r7, .int .u64 c14, .int .i64 c15, .int .u16 c16, .int .i64 c17, .int .i64 c18, .int .i64 c19, .bool c20, .int .u16 c21, .int .u64 c22, .int .u64 c23, .bool c24] ?shx ?shy 30 #[.int .u64 0, .int .u64 0, .bool false, .int .i64 0, .bool false, .bool false, .int .u16 0, .int .u16 0, .int .u16 0, .int .u16 0, .int .u16 0, .int .u16 0, .int .u16 0, .int .u16 0, .int .u64 0, .int .i64 0, .int .u16 0, .int .i64 0, .int .i64 0, .int .i64 0, .bool false, .int .u16 0, .int .u64 0, .int .u64 0, .bool false] (heap_alloc_new _ _) ?shi ?shold ?sh1 ?sh; (case shx => kernel_rfl); (case shy => kernel_rfl); (case shi => kernel_rfl); (case shold => kernel_rfl); (case sh1 => kernel_rfl))
  rw [← unhide E2]
  clear E2
  have hn2 : w2.heap[w.heap.size]? = some (.cells #[.int .u64 c0, .int .u64 c1, .bool c2, .int .i64 c3, .bool c4, .bool c5, .int .u16 r0, .int .u16 r1, .int .u16 r2, .int .u16 r3, .int .u16 r4, .int .u16 r5, .int .u16 r6, .int .u16 r7, .int .u64 c14, .int .i64 c15, .int .u16 c16, .int .i64 c17, .int .i64 c18, .int .i64 c19, .bool c20, .int .u16 c21, .int .u64 c22, .int .u64 c23, .bool c24] 26 (0, 0)) := (ho2 _ (by simp)).trans (heap_alloc_new _ _)
  have hsz : w.heap.size < w1.heap.size := by simp at hs1; omega
  have HN2 := hide hn2
  have HM2 := hide hm2
  have HO2 := hide ho2
  have HB2 := hide hb2
  clear hn2 hm2 ho2 hb2 HB1 hs1
  go_wp2_with (refine wpList_load_row rfl 26 (.tmp 2) rfl w.heap.size rfl 26 #[.int .u64 c0, .int .u64 c1, .bool c2, .int .i64 c3, .bool c4, .bool c5, .int .u16 r0, .int .u16 r1, .int .u16 r2, .int .u16 r3, .int .u16 r4, .int .u16 r5, .int .u16 r6, .int .u16 r7, .int .u64 c14, .int .i64 c15, .int .u16 c16, .int .i64 c17, .int .i64 c18, .int .i64 c19, .bool c20, .int .u16 c21, .int .u64 c22, .int .u64 c23, .bool c24] (0, 0) _ (unhide HN2) Yba.underlying26 rfl (by kernel_rfl) ?_)
  refine (build_any c0 c1 c3 r0 r1 r2 r3 r4 r5 r6 r7 c14 c15 c16 c17 c18 c19 c21 c22 c23 c2 c4 c5 c20 c24 _).mono ?_
  rintro e w3 ⟨rfl, hb3⟩
  obtain ⟨w4, e4, hb4, ho4, hm4, hs3, hs4⟩ := newBlock w.heap.size hb3 (by omega) #[.int .u64 0, .int .u64 0, .bool false, .int .i64 0, .bool false, .bool false, .int .u16 0, .int .u16 0, .int .u16 0, .int .u16 0, .int .u16 0, .int .u16 0, .int .u16 0, .int .u16 0, .int .u64 0, .int .i64 0, .int .u16 0, .int .i64 0, .int .i64 0, .int .i64 0, .bool false, .int .u16 0, .int .u64 0, .int .u64 0, .bool false] #[.int .u64 c0, .int .u64 c1, .bool c2, .int .i64 c3, .bool c4, .bool c5, .int .u16 r0, .int .u16 r1, .int .u16 r2, .int .u16 r3, .int .u16 r4, .int .u16 r5, .int .u16 r6, .int .u16 r7, .int .u64 c14, .int .i64 c15, .int .u16 c16, .int .i64 c17, .int .i64 c18, .int .i64 c19, .bool c20, .int .u16 c21, .int .u64 c22, .int .u64 c23, .bool c24] 30
  have E4 := hide e4
  clear e4 hb3
  have hn4 : w4.heap[w.heap.size]? = some (.cells #[.int .u64 c0, .int .u64 c1, .bool c2, .int .i64 c3, .bool c4, .bool c5, .int .u16 r0, .int .u16 r1, .int .u16 r2, .int .u16 r3, .int .u16 r4, .int .u16 r5, .int .u16 r6, .int .u16 r7, .int .u64 c14, .int .i64 c15, .int .u16 c16, .int .i64 c17, .int .i64 c18, .int .i64 c19, .bool c20, .int .u16 c21, .int .u64 c22, .int .u64 c23, .bool c24] 26 (0, 0)) := (ho4 _ (by omega)).trans (unhide HN2)
  have hp4 : w4.heap[w1.heap.size]? = some (.cells #[.int .u64 c0, .int .u64 c1, .bool c2, .int .i64 c3, .bool c4, .bool c5, .int .u16 r0, .int .u16 r1, .int .u16 r2, .int .u16 r3, .int .u16 r4, .int .u16 r5, .int .u16 r6, .int .u16 r7, .int .u64 c14, .int .i64 c15, .int .u16 c16, .int .i64 c17, .int .i64 c18, .int .i64 c19, .bool c20, .int .u16 c21, .int .u64 c22, .int .u64 c23, .bool c24] 30 (0, 0)) := (ho4 _ (by omega)).trans (unhide HM2)
  have hlt : w1.heap.size < w3.heap.size := by omega
  clear HN2 HM2 HO2 ho4
  have HB4 := hide ((Joins.below_alloc1 w _).trans (Below.trans (unhide HB2) hb4))
  clear HB2 hb4
  go_upto_region 3 with (refine wpList_store_row rfl 30 (.tmp 6) (.tmp 14) rfl w3.heap.size #[.int .u64 c0, .int .u64 c1, .bool c2, .int .i64 c3, .bool c4, .bool c5, .int .u16 r0, .int .u16 r1, .int .u16 r2, .int .u16 r3, .int .u16 r4, .int .u16 r5, .int .u16 r6, .int .u16 r7, .int .u64 c14, .int .i64 c15, .int .u16 c16, .int .i64 c17, .int .i64 c18, .int .i64 c19, .bool c20, .int .u16 c21, .int .u64 c22, .int .u64 c23, .bool c24] ?rhx ?rhy 30 #[.int .u64 0, .int .u64 0, .bool false, .int .i64 0, .bool false, .bool false, .int .u16 0, .int .u16 0, .int .u16 0, .int .u16 0, .int .u16 0, .int .u16 0, .int .u16 0, .int .u16 0, .int .u64 0, .int .i64 0, .int .u16 0, .int .i64 0, .int .i64 0, .int .i64 0, .bool false, .int .u16 0, .int .u64 0, .int .u64 0, .bool false] (heap_alloc_new _ _) ?rhi ?rhold ?rh1 ?rh; (case rhx => kernel_rfl); (case rhy => kernel_rfl); (case rhi => kernel_rfl); (case rhold => kernel_rfl); (case rh1 => kernel_rfl))
  rw [← unhide E4]
  clear E4 hs2 hs3 hs4
  generalize w1.heap.size = m at *
  generalize w3.heap.size = q at *
  have k7 : w4.cell? ⟨w.heap.size, 7, none⟩ = some (.int .u16 r1) := cell_of_row w4 _ 7 _ _ _ hn4
  have k8 : w4.cell? ⟨w.heap.size, 8, none⟩ = some (.int .u16 r2) := cell_of_row w4 _ 8 _ _ _ hn4
  have k13 : w4.cell? ⟨w.heap.size, 13, none⟩ = some (.int .u16 r7) := cell_of_row w4 _ 13 _ _ _ hn4
  have q13 : w4.cell? ⟨q, 13, none⟩ = some (.int .u16 r7) := cell_of_row w4 _ 13 _ _ _ hm4
  have q16 : w4.cell? ⟨q, 16, none⟩ = some (.int .u16 c16) := cell_of_row w4 _ 16 _ _ _ hm4
  have q17 : w4.cell? ⟨q, 17, none⟩ = some (.int .i64 c17) := cell_of_row w4 _ 17 _ _ _ hm4
  have q18 : w4.cell? ⟨q, 18, none⟩ = some (.int .i64 c18) := cell_of_row w4 _ 18 _ _ _ hm4
  have q19 : w4.cell? ⟨q, 19, none⟩ = some (.int .i64 c19) := cell_of_row w4 _ 19 _ _ _ hm4
  have q20 : w4.cell? ⟨q, 20, none⟩ = some (.bool c20) := cell_of_row w4 _ 20 _ _ _ hm4
  have hz : ∀ j, w4.frozen? ⟨q, j, none⟩ = false := fun j => frozen_of_row w4 q j _ _ hm4
  have hne : ¬ w.heap.size = q := by omega
  have hne2 : ¬ q = w.heap.size := by omega
  have HT := hide (Turned.refl hm4)
  have HP4 := hide hp4
  clear hm4 hp4 hn4
  by_cases e2 : r2 = 0
  · subst e2
    have hE := fun (w : World) => eq_self c0 c1 c3 r0 r1 0 r3 r4 r5 r6 0 c14 c15 r1 at0 (0) (0) c21 c22 c23 c2 c4 c5 false c24 w
    go_wp2_with fail
    have hT := turned6 _ _ _ _ _ _ _ _ _ _ _ _ _ _ _ _ _ _ _ _ _ _ _ _ _ (.bool false) (.int .u16 r1) (.int .i64 at0) (.int .i64 (0)) (.int .i64 (0)) (.int .u16 0) q w4 30 (unhide HT)
    refine (apply_any c0 c1 c3 r0 r1 0 r3 r4 r5 r6 r7 c14 c15 c16 c17 c18 c19 c21 c22 c23 at0 (0) c2 c4 c5 c20 c24 m _ ((hT.2.1 m (by omega)).trans (unhide HP4)) (by omega) (by omega) (.inl ⟨.inr rfl, rfl⟩)).mono ?_
    rintro e w5 ⟨rfl, hU⟩
    have hBel := (unhide HB4).trans ((hT.2.2 _ (by omega)).trans (hU.2.2 w.heap.size (by omega)))
    have hq5 := (hU.2.1 q (by omega)).trans hT.1
    have hm5 := hU.1
    have HQ5 := hide hq5
    have HM5 := hide hm5
    have HBel := hide hBel
    clear hT hU hq5 hm5 hBel
    go_wp2_with (first | (refine wpList_load_row rfl 30 (.tmp 5) rfl m rfl 30 _ (0, 0) _ (unhide HM5) Yba.underlying30 rfl (by kernel_rfl) ?_) | (refine wpList_load_row rfl 30 (.tmp 6) rfl q rfl 30 _ (0, 0) _ (unhide HQ5) Yba.underlying30 rfl (by kernel_rfl) ?_))
    go_ret
    exact ⟨rfl, unhide HBel⟩
  · by_cases e7 : r7 = 0
    · subst e7
      have t2 : (r2 != 0) = true := by simp [e2]
      have hE := fun (w : World) => eq_self c0 c1 c3 r0 r1 r2 r3 r4 r5 r6 0 c14 c15 r1 at0 (r2 * 100000000) (r2 * 100000000) c21 c22 c23 c2 c4 c5 false c24 w
      go_wp2_with fail
      have hT := turned6 _ _ _ _ _ _ _ _ _ _ _ _ _ _ _ _ _ _ _ _ _ _ _ _ _ (.bool false) (.int .u16 r1) (.int .i64 at0) (.int .i64 (r2 * 100000000)) (.int .i64 (r2 * 100000000)) (.int .u16 0) q w4 30 (unhide HT)
      refine (apply_any c0 c1 c3 r0 r1 r2 r3 r4 r5 r6 0 c14 c15 c16 c17 c18 c19 c21 c22 c23 at0 (r2 * 100000000) c2 c4 c5 c20 c24 m _ ((hT.2.1 m (by omega)).trans (unhide HP4)) (by omega) (by omega) (.inl ⟨.inl rfl, rfl⟩)).mono ?_
      rintro e w5 ⟨rfl, hU⟩
      have hBel := (unhide HB4).trans ((hT.2.2 _ (by omega)).trans (hU.2.2 w.heap.size (by omega)))
      have hq5 := (hU.2.1 q (by omega)).trans hT.1
      have hm5 := hU.1
      have HQ5 := hide hq5
      have HM5 := hide hm5
      have HBel := hide hBel
      clear hT hU hq5 hm5 hBel
      go_wp2_with (first | (refine wpList_load_row rfl 30 (.tmp 5) rfl m rfl 30 _ (0, 0) _ (unhide HM5) Yba.underlying30 rfl (by kernel_rfl) ?_) | (refine wpList_load_row rfl 30 (.tmp 6) rfl q rfl 30 _ (0, 0) _ (unhide HQ5) Yba.underlying30 rfl (by kernel_rfl) ?_))
      go_ret
      exact ⟨rfl, unhide HBel⟩
    · have t2 : (r2 != 0) = true := by simp [e2]
      have t7 : (r7 != 0) = true := by simp [e7]
      have hE := fun (w : World) => eq_self c0 c1 c3 r0 r1 r2 r3 r4 r5 r6 0 c14 c15 r1 at0 (r7 * 100000000) (r2 * 100000000) c21 c22 c23 c2 c4 c5 false c24 w
      go_wp2_with fail
      have hT := turned6 _ _ _ _ _ _ _ _ _ _ _ _ _ _ _ _ _ _ _ _ _ _ _ _ _ (.bool false) (.int .u16 r1) (.int .i64 at0) (.int .i64 (r2 * 100000000)) (.int .i64 (r7 * 100000000)) (.int .u16 0) q w4 30 (unhide HT)
      refine (apply_any c0 c1 c3 r0 r1 r2 r3 r4 r5 r6 r7 c14 c15 c16 c17 c18 c19 c21 c22 c23 at0 (r7 * 100000000) c2 c4 c5 c20 c24 m _ ((hT.2.1 m (by omega)).trans (unhide HP4)) (by omega) (by omega) (.inr ⟨by simp [e7], by simp [e2], rfl⟩)).mono ?_
      rintro e w5 ⟨rfl, hU⟩
      have hBel := (unhide HB4).trans ((hT.2.2 _ (by omega)).trans (hU.2.2 w.heap.size (by omega)))
      have hq5 := (hU.2.1 q (by omega)).trans hT.1
      have hm5 := hU.1
      have HQ5 := hide hq5
      have HM5 := hide hm5
      have HBel := hide hBel
      clear hT hU hq5 hm5 hBel
      go_wp2_with (first | (refine wpList_load_row rfl 30 (.tmp 5) rfl m rfl 30 _ (0, 0) _ (unhide HM5) Yba.underlying30 rfl (by kernel_rfl) ?_) | (refine wpList_load_row rfl 30 (.tmp 6) rfl q rfl 30 _ (0, 0) _ (unhide HQ5) Yba.underlying30 rfl (by kernel_rfl) ?_))
      go_ret
      exact ⟨rfl, unhide HBel⟩
end Go.Proofs.Ybulkeimq.lawS6737AWhole
