import Derived.Test.YbulkeimqRows
import Derived.WalkKit
import Derived.WalkLawsBesides
import Derived.ProofKit
import Derived.OpenShut
import Derived.Below
import Derived.Outline
import Derived.Deep.Cut
import Derived.Laws.Tables
import Derived.Laws.CopyOwn
namespace Go.Proofs.Ybulkeimq.lawS6737AWhole
open Go.ChangeShapes Go.WideShapes Go.ChangeAt Go.RowKit

theorem built30 (c0 c1 c3 r0 r1 r2 r3 r4 r5 r6 r7 c14 c15 c16 c17 c18 c19 c21 c22 c23 : Int) (c2 c4 c5 c20 c24 : Bool) : Yba.prog.built 30 [(0, .int .u64 c0), (1, .int .u64 c1), (2, .bool c2), (3, .int .i64 c3), (4, .bool c4), (5, .bool c5), (6, .agg #[.int .u16 r0, .int .u16 r1, .int .u16 r2, .int .u16 r3, .int .u16 r4, .int .u16 r5, .int .u16 r6, .int .u16 r7]), (7, .int .u64 c14), (8, .int .i64 c15), (9, .int .u16 c16), (10, .int .i64 c17), (11, .int .i64 c18), (12, .int .i64 c19), (13, .bool c20), (14, .int .u16 c21), (15, .int .u64 c22), (16, .int .u64 c23), (17, .bool c24)] = some #[.int .u64 c0, .int .u64 c1, .bool c2, .int .i64 c3, .bool c4, .bool c5, .int .u16 r0, .int .u16 r1, .int .u16 r2, .int .u16 r3, .int .u16 r4, .int .u16 r5, .int .u16 r6, .int .u16 r7, .int .u64 c14, .int .i64 c15, .int .u16 c16, .int .i64 c17, .int .i64 c18, .int .i64 c19, .bool c20, .int .u16 c21, .int .u64 c22, .int .u64 c23, .bool c24] := by kernel_rfl

theorem wpList_build_to {P : Program} {ops : Array Oper} {rest : List Oper} {o : Oper} {a : Act} {w : World} {Q : Exit → Act → World → Prop} (hg : o.guard = none) (t : TypeId) (parts : Array (Nat × Operand)) (ho : o.op = .build t parts)
    (V : Array Value) (hf : P.built t (parts.map fun (i, x) => (i, a.eval x)).toList = some V)
    (h : wpList P ops Q rest (a.put o.dst (.agg V)) w) : wpList P ops Q (o :: rest) a w :=
  wpList_build hg t parts ho (by rw [hf]; rfl) (by rw [hf]; exact h)

theorem setup (w : World) (V Z : Array Value) (s t : TypeId) : ∃ w1, w1 = (w.alloc (.cells V s)).alloc (.cells Z t) ∧ Below w.heap.size w w1 ∧ w1.heap[w.heap.size]? = some (.cells V s (0, 0)) ∧ w1.heap[w.heap.size + 1]? = some (.cells Z t (0, 0)) :=
  ⟨_, rfl, ((Below.refl _ _).alloc (Nat.le_refl _) _).alloc (by simp) _, heap_alloc2_old _ _ _, heap_alloc2_new _ _ _⟩

theorem hide {p : Prop} (h : p) : Hid p := h
theorem unhide {p : Prop} (h : Hid p) : p := h

set_option maxHeartbeats 400000 in
theorem build_any (c0 c1 c3 r0 r1 r2 r3 r4 r5 r6 r7 c14 c15 c16 c17 c18 c19 c21 c22 c23 : Int) (c2 c4 c5 c20 c24 : Bool) (w : World) :
    Calls Yba.prog 5 #[.agg #[.int .u64 c0, .int .u64 c1, .bool c2, .int .i64 c3, .bool c4, .bool c5, .int .u16 r0, .int .u16 r1, .int .u16 r2, .int .u16 r3, .int .u16 r4, .int .u16 r5, .int .u16 r6, .int .u16 r7, .int .u64 c14, .int .i64 c15, .int .u16 c16, .int .i64 c17, .int .i64 c18, .int .i64 c19, .bool c20, .int .u16 c21, .int .u64 c22, .int .u64 c23, .bool c24]] w fun e w' => e = .returned (.agg #[.int .u64 c0, .int .u64 c1, .bool c2, .int .i64 c3, .bool c4, .bool c5, .int .u16 r0, .int .u16 r1, .int .u16 r2, .int .u16 r3, .int .u16 r4, .int .u16 r5, .int .u16 r6, .int .u16 r7, .int .u64 c14, .int .i64 c15, .int .u16 c16, .int .i64 c17, .int .i64 c18, .int .i64 c19, .bool c20, .int .u16 c21, .int .u64 c22, .int .u64 c23, .bool c24]) ∧ Below w.heap.size w w' := by
  have hB := built30 c0 c1 c3 r0 r1 r2 r3 r4 r5 r6 r7 c14 c15 c16 c17 c18 c19 c21 c22 c23 c2 c4 c5 c20 c24
  obtain ⟨w1, hw1, hbel, hr0, hr1⟩ := setup w #[.int .u64 c0, .int .u64 c1, .bool c2, .int .i64 c3, .bool c4, .bool c5, .int .u16 r0, .int .u16 r1, .int .u16 r2, .int .u16 r3, .int .u16 r4, .int .u16 r5, .int .u16 r6, .int .u16 r7, .int .u64 c14, .int .i64 c15, .int .u16 c16, .int .i64 c17, .int .i64 c18, .int .i64 c19, .bool c20, .int .u16 c21, .int .u64 c22, .int .u64 c23, .bool c24] #[.int .u64 0, .int .u64 0, .bool false, .int .i64 0, .bool false, .bool false, .int .u16 0, .int .u16 0, .int .u16 0, .int .u16 0, .int .u16 0, .int .u16 0, .int .u16 0, .int .u16 0, .int .u64 0, .int .i64 0, .int .u16 0, .int .i64 0, .int .i64 0, .int .i64 0, .bool false, .int .u16 0, .int .u64 0, .int .u64 0, .bool false] 26 30
  have k0 : w1.cell? ⟨w.heap.size, 0, none⟩ = some (.int .u64 c0) := cell_of_row w1 _ 0 _ _ _ hr0
  have k1 : w1.cell? ⟨w.heap.size, 1, none⟩ = some (.int .u64 c1) := cell_of_row w1 _ 1 _ _ _ hr0
  have k2 : w1.cell? ⟨w.heap.size, 2, none⟩ = some (.bool c2) := cell_of_row w1 _ 2 _ _ _ hr0
  have k3 : w1.cell? ⟨w.heap.size, 3, none⟩ = some (.int .i64 c3) := cell_of_row w1 _ 3 _ _ _ hr0
  have k4 : w1.cell? ⟨w.heap.size, 4, none⟩ = some (.bool c4) := cell_of_row w1 _ 4 _ _ _ hr0
  have k5 : w1.cell? ⟨w.heap.size, 5, none⟩ = some (.bool c5) := cell_of_row w1 _ 5 _ _ _ hr0
  have k6 : w1.cell? ⟨w.heap.size, 6, none⟩ = some (.int .u16 r0) := cell_of_row w1 _ 6 _ _ _ hr0
  have k7 : w1.cell? ⟨w.heap.size, 7, none⟩ = some (.int .u16 r1) := cell_of_row w1 _ 7 _ _ _ hr0
  have k8 : w1.cell? ⟨w.heap.size, 8, none⟩ = some (.int .u16 r2) := cell_of_row w1 _ 8 _ _ _ hr0
  have k9 : w1.cell? ⟨w.heap.size, 9, none⟩ = some (.int .u16 r3) := cell_of_row w1 _ 9 _ _ _ hr0
  have k10 : w1.cell? ⟨w.heap.size, 10, none⟩ = some (.int .u16 r4) := cell_of_row w1 _ 10 _ _ _ hr0
  have k11 : w1.cell? ⟨w.heap.size, 11, none⟩ = some (.int .u16 r5) := cell_of_row w1 _ 11 _ _ _ hr0
  have k12 : w1.cell? ⟨w.heap.size, 12, none⟩ = some (.int .u16 r6) := cell_of_row w1 _ 12 _ _ _ hr0
  have k13 : w1.cell? ⟨w.heap.size, 13, none⟩ = some (.int .u16 r7) := cell_of_row w1 _ 13 _ _ _ hr0
  have k14 : w1.cell? ⟨w.heap.size, 14, none⟩ = some (.int .u64 c14) := cell_of_row w1 _ 14 _ _ _ hr0
  have k15 : w1.cell? ⟨w.heap.size, 15, none⟩ = some (.int .i64 c15) := cell_of_row w1 _ 15 _ _ _ hr0
  have k16 : w1.cell? ⟨w.heap.size, 16, none⟩ = some (.int .u16 c16) := cell_of_row w1 _ 16 _ _ _ hr0
  have k17 : w1.cell? ⟨w.heap.size, 17, none⟩ = some (.int .i64 c17) := cell_of_row w1 _ 17 _ _ _ hr0
  have k18 : w1.cell? ⟨w.heap.size, 18, none⟩ = some (.int .i64 c18) := cell_of_row w1 _ 18 _ _ _ hr0
  have k19 : w1.cell? ⟨w.heap.size, 19, none⟩ = some (.int .i64 c19) := cell_of_row w1 _ 19 _ _ _ hr0
  have k20 : w1.cell? ⟨w.heap.size, 20, none⟩ = some (.bool c20) := cell_of_row w1 _ 20 _ _ _ hr0
  have k21 : w1.cell? ⟨w.heap.size, 21, none⟩ = some (.int .u16 c21) := cell_of_row w1 _ 21 _ _ _ hr0
  have k22 : w1.cell? ⟨w.heap.size, 22, none⟩ = some (.int .u64 c22) := cell_of_row w1 _ 22 _ _ _ hr0
  have k23 : w1.cell? ⟨w.heap.size, 23, none⟩ = some (.int .u64 c23) := cell_of_row w1 _ 23 _ _ _ hr0
  have k24 : w1.cell? ⟨w.heap.size, 24, none⟩ = some (.bool c24) := cell_of_row w1 _ 24 _ _ _ hr0
  have HW := hide hw1
  have HB := hide hbel
  have HR := hide hr1
  have HBB := hide hB
  clear hw1 hbel hr1 hr0 hB
  go_enter Yba.func5, Yba.ntmps5
  go_upto_region 1 with (fail)
  rw [← unhide HW]
  clear HW
  go_wp2_with (first | (refine wpList_build_to rfl 30 ?bparts ?bho #[.int .u64 c0, .int .u64 c1, .bool c2, .int .i64 c3, .bool c4, .bool c5, .int .u16 r0, .int .u16 r1, .int .u16 r2, .int .u16 r3, .int .u16 r4, .int .u16 r5, .int .u16 r6, .int .u16 r7, .int .u64 c14, .int .i64 c15, .int .u16 c16, .int .i64 c17, .int .i64 c18, .int .i64 c19, .bool c20, .int .u16 c21, .int .u64 c22, .int .u64 c23, .bool c24] ?bhf ?bh; (case bho => exact rfl); (case bhf => kernel_rfl)) | (refine wpList_store_row rfl 30 (.tmp 2) (.tmp 39) rfl (w.heap.size + 1) #[.int .u64 c0, .int .u64 c1, .bool c2, .int .i64 c3, .bool c4, .bool c5, .int .u16 r0, .int .u16 r1, .int .u16 r2, .int .u16 r3, .int .u16 r4, .int .u16 r5, .int .u16 r6, .int .u16 r7, .int .u64 c14, .int .i64 c15, .int .u16 c16, .int .i64 c17, .int .i64 c18, .int .i64 c19, .bool c20, .int .u16 c21, .int .u64 c22, .int .u64 c23, .bool c24] ?shx ?shy 30 #[.int .u64 0, .int .u64 0, .bool false, .int .i64 0, .bool false, .bool false, .int .u16 0, .int .u16 0, .int .u16 0, .int .u16 0, .int .u16 0, .int .u16 0, .int .u16 0, .int .u16 0, .int .u64 0, .int .i64 0, .int .u16 0, .int .i64 0, .int .i64 0, .int .i64 0, .bool false, .int .u16 0, .int .u64 0, .int .u64 0, .bool false] (unhide HR) ?shi ?shold ?sh1 ?sh; (case shx => kernel_rfl); (case shy => kernel_rfl); (case shi => kernel_rfl); (case shold => kernel_rfl); (case sh1 => kernel_rfl)))
  exact bodyPost_ret (v := .agg #[.int .u64 c0, .int .u64 c1, .bool c2, .int .i64 c3, .bool c4, .bool c5, .int .u16 r0, .int .u16 r1, .int .u16 r2, .int .u16 r3, .int .u16 r4, .int .u16 r5, .int .u16 r6, .int .u16 r7, .int .u64 c14, .int .i64 c15, .int .u16 c16, .int .i64 c17, .int .i64 c18, .int .i64 c19, .bool c20, .int .u16 c21, .int .u64 c22, .int .u64 c23, .bool c24]) (results_cell_row rfl _ _ (w.heap.size + 1) 30 #[.int .u64 c0, .int .u64 c1, .bool c2, .int .i64 c3, .bool c4, .bool c5, .int .u16 r0, .int .u16 r1, .int .u16 r2, .int .u16 r3, .int .u16 r4, .int .u16 r5, .int .u16 r6, .int .u16 r7, .int .u64 c14, .int .i64 c15, .int .u16 c16, .int .i64 c17, .int .i64 c18, .int .i64 c19, .bool c20, .int .u16 c21, .int .u64 c22, .int .u64 c23, .bool c24] (0, 0) _ (by kernel_rfl) (setRow_heap w1 (w.heap.size + 1) #[.int .u64 0, .int .u64 0, .bool false, .int .i64 0, .bool false, .bool false, .int .u16 0, .int .u16 0, .int .u16 0, .int .u16 0, .int .u16 0, .int .u16 0, .int .u16 0, .int .u16 0, .int .u64 0, .int .i64 0, .int .u16 0, .int .i64 0, .int .i64 0, .int .i64 0, .bool false, .int .u16 0, .int .u64 0, .int .u64 0, .bool false] #[.int .u64 c0, .int .u64 c1, .bool c2, .int .i64 c3, .bool c4, .bool c5, .int .u16 r0, .int .u16 r1, .int .u16 r2, .int .u16 r3, .int .u16 r4, .int .u16 r5, .int .u16 r6, .int .u16 r7, .int .u64 c14, .int .i64 c15, .int .u16 c16, .int .i64 c17, .int .i64 c18, .int .i64 c19, .bool c20, .int .u16 c21, .int .u64 c22, .int .u64 c23, .bool c24] 30 (0, 0) (unhide HR)) Yba.underlying30 rfl (by kernel_rfl)) rfl ⟨rfl, below_setRow (unhide HB) (Nat.le_succ _) _⟩
end Go.Proofs.Ybulkeimq.lawS6737AWhole
