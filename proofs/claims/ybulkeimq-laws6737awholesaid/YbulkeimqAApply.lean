import Derived.Test.YbulkeimqAWalk
import Derived.Lib.SmallJoins
namespace Go.Proofs.Ybulkeimq.lawS6737AWhole
open Go.ChangeShapes Go.WideShapes Go.ChangeAt Go.RowKit

/-- Stores into one block: what the block holds, what the others hold. -/
def Turned (b : Nat) (w w' : World) (cs : Array Value) (t : TypeId) : Prop :=
  w'.heap[b]? = some (.cells cs t (0, 0)) ∧ (∀ k, k ≠ b → w'.heap[k]? = w.heap[k]?) ∧ (∀ B, B ≤ b → Below B w w')
theorem Turned.refl {b : Nat} {w : World} {cs : Array Value} {t : TypeId} (h : w.heap[b]? = some (.cells cs t (0, 0))) : Turned b w w cs t :=
  ⟨h, fun _ _ => rfl, fun _ _ => Below.refl _ _⟩
theorem Turned.set {b : Nat} {w w' : World} {cs : Array Value} {t : TypeId} (h : Turned b w w' cs t) (i : Nat) (v : Value) : Turned b w (w'.setCell ⟨b, i, none⟩ v) (cs.setIfInBounds i v) t :=
  ⟨Joins.block_setCell h.1 v, fun k hk => by rw [heap_setCell_other _ _ _ _ hk]; exact h.2.1 k hk, fun B hB => (h.2.2 B hB).setCell hB v⟩

theorem turned6 (x0 x1 x2 x3 x4 x5 x6 x7 x8 x9 x10 x11 x12 x13 x14 x15 x16 x17 x18 x19 x20 x21 x22 x23 x24 y20 y16 y17 y19 y18 y13 : Value) (b : Nat) (w : World) (t : TypeId) (hr : Turned b w w #[x0, x1, x2, x3, x4, x5, x6, x7, x8, x9, x10, x11, x12, x13, x14, x15, x16, x17, x18, x19, x20, x21, x22, x23, x24] t) :
    Turned b w ((((((w.setCell ⟨b, 20, none⟩ y20).setCell ⟨b, 16, none⟩ y16).setCell ⟨b, 17, none⟩ y17).setCell ⟨b, 19, none⟩ y19).setCell ⟨b, 18, none⟩ y18).setCell ⟨b, 13, none⟩ y13) #[x0, x1, x2, x3, x4, x5, x6, x7, x8, x9, x10, x11, x12, y13, x14, x15, y16, y17, y18, y19, y20, x21, x22, x23, x24] t := by
  have := (((((hr.set 20 y20).set 16 y16).set 17 y17).set 19 y19).set 18 y18).set 13 y13
  simpa using this
theorem turned7 (x0 x1 x2 x3 x4 x5 x6 x7 x8 x9 x10 x11 x12 x13 x14 x15 x16 x17 x18 x19 x20 x21 x22 x23 x24 y20 y16 y17 y19 z18 y18 y13 : Value) (b : Nat) (w : World) (t : TypeId) (hr : Turned b w w #[x0, x1, x2, x3, x4, x5, x6, x7, x8, x9, x10, x11, x12, x13, x14, x15, x16, x17, x18, x19, x20, x21, x22, x23, x24] t) :
    Turned b w (((((((w.setCell ⟨b, 20, none⟩ y20).setCell ⟨b, 16, none⟩ y16).setCell ⟨b, 17, none⟩ y17).setCell ⟨b, 19, none⟩ y19).setCell ⟨b, 18, none⟩ z18).setCell ⟨b, 18, none⟩ y18).setCell ⟨b, 13, none⟩ y13) #[x0, x1, x2, x3, x4, x5, x6, x7, x8, x9, x10, x11, x12, y13, x14, x15, y16, y17, y18, y19, y20, x21, x22, x23, x24] t := by
  have := ((((((hr.set 20 y20).set 16 y16).set 17 y17).set 19 y19).set 18 z18).set 18 y18).set 13 y13
  simpa using this

set_option maxHeartbeats 1000000 in
theorem apply_any (c0 c1 c3 r0 r1 r2 r3 r4 r5 r6 r7 c14 c15 c16 c17 c18 c19 c21 c22 c23 at0 L : Int) (c2 c4 c5 c20 c24 : Bool) (b : Nat) (w : World) (hr : w.heap[b]? = some (.cells #[.int .u64 c0, .int .u64 c1, .bool c2, .int .i64 c3, .bool c4, .bool c5, .int .u16 r0, .int .u16 r1, .int .u16 r2, .int .u16 r3, .int .u16 r4, .int .u16 r5, .int .u16 r6, .int .u16 r7, .int .u64 c14, .int .i64 c15, .int .u16 c16, .int .i64 c17, .int .i64 c18, .int .i64 c19, .bool c20, .int .u16 c21, .int .u64 c22, .int .u64 c23, .bool c24] 30 (0, 0)))
    (h2 : 0 ≤ r2 ∧ r2 ≤ 65535) (h7 : 0 ≤ r7 ∧ r7 ≤ 65535)
    (hL : (((r7 == 0) = true ∨ (r2 == 0) = true) ∧ L = r2 * 100000000) ∨ ((r7 == 0) = false ∧ (r2 == 0) = false ∧ L = r7 * 100000000)) :
    Calls Yba.prog 6 #[.pointer (some ⟨b, 0, none⟩), .int .i64 at0] w fun e w' => e = .returned (.tuple #[]) ∧ Turned b w w' #[.int .u64 c0, .int .u64 c1, .bool c2, .int .i64 c3, .bool c4, .bool c5, .int .u16 r0, .int .u16 r1, .int .u16 r2, .int .u16 r3, .int .u16 r4, .int .u16 r5, .int .u16 r6, .int .u16 0, .int .u64 c14, .int .i64 c15, .int .u16 r1, .int .i64 at0, .int .i64 L, .int .i64 (r2 * 100000000), .bool false, .int .u16 c21, .int .u64 c22, .int .u64 c23, .bool c24] 30 := by
  have k7 : w.cell? ⟨b, 7, none⟩ = some (.int .u16 r1) := cell_of_row w _ 7 _ _ _ hr
  have k8 : w.cell? ⟨b, 8, none⟩ = some (.int .u16 r2) := cell_of_row w _ 8 _ _ _ hr
  have k13 : w.cell? ⟨b, 13, none⟩ = some (.int .u16 r7) := cell_of_row w _ 13 _ _ _ hr
  have k16 : w.cell? ⟨b, 16, none⟩ = some (.int .u16 c16) := cell_of_row w _ 16 _ _ _ hr
  have k17 : w.cell? ⟨b, 17, none⟩ = some (.int .i64 c17) := cell_of_row w _ 17 _ _ _ hr
  have k18 : w.cell? ⟨b, 18, none⟩ = some (.int .i64 c18) := cell_of_row w _ 18 _ _ _ hr
  have k19 : w.cell? ⟨b, 19, none⟩ = some (.int .i64 c19) := cell_of_row w _ 19 _ _ _ hr
  have k20 : w.cell? ⟨b, 20, none⟩ = some (.bool c20) := cell_of_row w _ 20 _ _ _ hr
  have hz : ∀ j, w.frozen? ⟨b, j, none⟩ = false := fun j => frozen_of_row w b j _ _ hr
  have HR := hide (Turned.refl hr)
  have HL := hide hL
  obtain ⟨l2, u2⟩ := h2
  obtain ⟨l7, u7⟩ := h7
  clear hr hL
  by_cases e7 : r7 = 0
  · have eL : L = r2 * 100000000 := by
      rcases unhide HL with ⟨_, h⟩ | ⟨h, _⟩
      · exact h
      · simp [e7] at h
    clear HL
    subst e7
    subst eL
    go_enter Yba.func6, Yba.ntmps6
    go_wp2
    go_end0
    first | exact ⟨rfl, turned7 _ _ _ _ _ _ _ _ _ _ _ _ _ _ _ _ _ _ _ _ _ _ _ _ _ _ _ _ _ _ _ _ b w 30 (unhide HR)⟩ | (refine ⟨rfl, ?_⟩; rw [show (0 * 100000000 : Int) = 0 from rfl]; exact turned7 _ _ _ _ _ _ _ _ _ _ _ _ _ _ _ _ _ _ _ _ _ _ _ _ _ _ _ _ _ _ _ _ b w 30 (unhide HR))
  · have t7 : (r7 * 100000000 == 0) = false := by rw [beq_eq_false_iff_ne]; omega
    by_cases e2 : r2 = 0
    · have eL : L = 0 := by
        rcases unhide HL with ⟨_, h⟩ | ⟨_, h, _⟩
        · rw [h, e2]; rfl
        · simp [e2] at h
      clear HL
      subst e2
      subst eL
      go_enter Yba.func6, Yba.ntmps6
      go_wp2
      go_end0
      first | exact ⟨rfl, turned7 _ _ _ _ _ _ _ _ _ _ _ _ _ _ _ _ _ _ _ _ _ _ _ _ _ _ _ _ _ _ _ _ b w 30 (unhide HR)⟩ | (refine ⟨rfl, ?_⟩; rw [show (0 * 100000000 : Int) = 0 from rfl]; exact turned7 _ _ _ _ _ _ _ _ _ _ _ _ _ _ _ _ _ _ _ _ _ _ _ _ _ _ _ _ _ _ _ _ b w 30 (unhide HR))
    · have t2 : (r2 * 100000000 == 0) = false := by rw [beq_eq_false_iff_ne]; omega
      have eL : L = r7 * 100000000 := by
        rcases unhide HL with ⟨h | h, _⟩ | ⟨_, _, h⟩
        · simp [e7] at h
        · simp [e2] at h
        · exact h
      clear HL
      subst eL
      go_enter Yba.func6, Yba.ntmps6
      go_wp2
      go_end0
      exact ⟨rfl, turned6 _ _ _ _ _ _ _ _ _ _ _ _ _ _ _ _ _ _ _ _ _ _ _ _ _ _ _ _ _ _ _ b w 30 (unhide HR)⟩
end Go.Proofs.Ybulkeimq.lawS6737AWhole
