import Derived.Test.YbulkeimqDoorBClone
import Derived.RegionTactic
namespace Go.Proofs.YbulkeimqDoor.lawB
open Go.ChangeShapes Go.WideShapes Go.ChangeAt Go.RowKit

def resN (j : Nat) : Bool := (4 ≤ j && j ≤ 7) || (9 ≤ j && j ≤ 14)
/-- The package-level variables, as the program's text lays them. -/
def Gl (w : World) (A : Nat → Addr) : Prop :=
  9 ≤ w.heap.size ∧ (∀ i, i < 7 → w.cell? ⟨i, 0, none⟩ = some (.iface 57 (.pointer (some (A i))))) ∧ (∃ t fr, w.heap[7]? = some (.cells #[.int .u8 0, .int .u8 8] t fr)) ∧
  ∀ j, j < 16 → ∃ nm : ByteArray, w.cell? ⟨8, j, none⟩ = some (.string nm) ∧ nm.toList.isEmpty = resN j
theorem Gl.below {w w' : World} {A : Nat → Addr} (h : Gl w A) (hb : Below w.heap.size w w') : Gl w' A := by
  obtain ⟨h9, h1, h2, h3⟩ := h
  have hs := hb.size
  refine ⟨by omega, fun i hi => (hb.cell (show i < w.heap.size by omega)).trans (h1 i hi), h2.imp fun t q => q.imp fun fr q => (hb.block 7 (by omega)).trans q, fun j hj => ?_⟩
  obtain ⟨nm, q1, q2⟩ := h3 j hj
  exact ⟨nm, (hb.cell (show 8 < w.heap.size by omega)).trans q1, q2⟩

theorem name_any (j : Nat) (nm : ByteArray) (w : World) (hj : j < 16) (hc : w.cell? ⟨8, j, none⟩ = some (.string nm)) (hn : nm.toList.isEmpty = resN j) :
    Calls Ybad.prog 15 #[.int .u8 j] w fun e w' => (∃ s, e = .returned (.tuple #[.string s, .bool (!resN j)])) ∧ w' = w := by
  have hi : (j : Int) < 16 := by omega
  generalize resN j = r at hn ⊢
  cases r
  · go_enter Ybad.func15, Ybad.ntmps15
    go_wp2
    go_ret2
    exact ⟨⟨_, rfl⟩, rfl⟩
  · go_enter Ybad.func15, Ybad.ntmps15
    go_wp2
    go_ret2
    exact ⟨⟨_, rfl⟩, rfl⟩

/-- The link protocol discriminator, as the walk spells it. -/
def lpd (x : Int) : Int := bits .and .u8 (x / 32) 3
theorem read_any (x : Int) (w : World) (h0 : 0 ≤ x) (h1 : x ≤ 255) :
    Calls Ybad.prog 14 #[.int .u8 x] w fun e w' => (∃ p q, e = .returned (.agg #[.bool p, .int .u8 (lpd x), .bool q, .int .u8 (x % 16)])) ∧ Below w.heap.size w w' := by
  go_enter Ybad.func14, Ybad.ntmps14
  go_wp2
  exact bodyPost_ret (v := .agg #[.bool (bits .and .u8 x 128 != 0), .int .u8 (lpd x), .bool (bits .and .u8 x 16 != 0), .int .u8 (x % 16)]) (by simp [results, Ybad.results14, go_sem, lpd]) rfl ⟨⟨_, _, rfl⟩, Joins.below_alloc1 _ _⟩

abbrev errV (A : Nat → Addr) (i : Nat) : Value := .iface 57 (.pointer (some (A i)))

theorem decode_bad (a : Option Addr) (n c : Nat) (A : Nat → Addr) (w : World) (hn : n ≠ 23) (hg : Gl w A) :
    Calls Ybad.prog 11 #[.slice a n c] w fun e w' => e = .returned (.tuple #[.agg #[.bool false, .int .u8 0, .bool false, .int .u8 0], errV A 1]) ∧ Below w.heap.size w w' := by
  have hne : ((n : Int) != 23) = true := by rw [bne_iff_ne]; omega
  have c1 := hg.2.1 1 (by omega)
  have c1' : ∀ o, (w.alloc o).cell? ⟨1, 0, none⟩ = some (.iface 57 (.pointer (some (A 1)))) := fun o => (((Below.refl w.heap.size w).alloc (Nat.le_refl _) o).cell (show 1 < w.heap.size by have := hg.1; omega)).trans c1
  clear hg c1
  go_enter Ybad.func11, Ybad.ntmps11
  go_wp2
  go_region
  all_goals go_wp2
  all_goals exact bodyPost_ret (v := .tuple #[.agg #[.bool false, .int .u8 0, .bool false, .int .u8 0], errV A 1]) (by simp [results, Ybad.results11, go_sem]) rfl ⟨rfl, ((Joins.below_alloc1 _ _).drew)⟩

theorem decode_good (b off c : Nat) (x : Int) (w : World) (h0 : 0 ≤ x) (h1 : x ≤ 255) (hc : w.cell? ⟨b, off, none⟩ = some (.int .u8 x)) :
    Calls Ybad.prog 11 #[.slice (some ⟨b, off, none⟩) 23 c] w fun e w' => (∃ p q, e = .returned (.tuple #[.agg #[.bool p, .int .u8 (lpd x), .bool q, .int .u8 (x % 16)], .nilIface])) ∧ Below w.heap.size w w' := by
  have hbl := block_lt_of_cell hc
  have c1' : ∀ o, (w.alloc o).cell? ⟨b, off, none⟩ = some (.int .u8 x) := fun o => (((Below.refl w.heap.size w).alloc (Nat.le_refl _) o).cell hbl).trans hc
  go_enter Ybad.func11, Ybad.ntmps11
  go_wp2_with fail
  refine (read_any x _ h0 h1).mono ?_
  rintro e w' ⟨⟨p, q, rfl⟩, hb⟩
  have hs := hb.size
  have d0 : ∀ j, w'.cell? ⟨w.heap.size, j, none⟩ = (#[.bool false, .int .u8 0, .bool false, .int .u8 0] : Array Value)[j]? := fun j => (hb.cell (by simp)).trans (cell_of_row _ _ j _ 46 (0, 0) (heap_alloc_new _ _))
  have hrow : w'.heap[w.heap.size]? = some (.cells #[.bool false, .int .u8 0, .bool false, .int .u8 0] 46 (0, 0)) := (hb.block _ (by simp)).trans (heap_alloc_new _ _)
  have f0 : ∀ j, w'.frozen? ⟨w.heap.size, j, none⟩ = false := fun j => frozen_of_row _ _ _ _ _ hrow
  have e0 := d0 0
  have e1 := d0 1
  have e2 := d0 2
  have e3 := d0 3
  simp at e0 e1 e2 e3
  have HB : Hid (Below w.heap.size w w') := (Joins.below_alloc1 _ _).trans (Joins.below_le hb (by simp))
  clear hb d0 hrow hs c1' hc hbl
  go_wp2
  exact bodyPost_ret (v := .tuple #[.agg #[.bool p, .int .u8 (lpd x), .bool q, .int .u8 (x % 16)], .nilIface]) (by simp [results, Ybad.results11, go_sem, e0, e1, e2, e3]) rfl
    ⟨⟨_, _, rfl⟩, ((((unhide HB).setCell (Nat.le_refl _) _).setCell (Nat.le_refl _) _).setCell (Nat.le_refl _) _).setCell (Nat.le_refl _) _⟩

/-- What 'check' answers: nil, or one of two errors. -/
def chkV (A : Nat → Addr) (l : Int) (s : Nat) : Value := if l = 1 then (if resN s = true then errV A 3 else .nilIface) else errV A 2
theorem check_any (p q : Bool) (l : Int) (s : Nat) (A : Nat → Addr) (w : World) (hs : s < 16) (hg : Gl w A) :
    Calls Ybad.prog 12 #[.agg #[.bool p, .int .u8 l, .bool q, .int .u8 s]] w fun e w' => e = .returned (chkV A l s) ∧ Below w.heap.size w w' := by
  have c2 : ∀ o, (w.alloc o).cell? ⟨2, 0, none⟩ = some (.iface 57 (.pointer (some (A 2)))) := fun o => (((Below.refl w.heap.size w).alloc (Nat.le_refl _) o).cell (show 2 < w.heap.size by have := hg.1; omega)).trans (hg.2.1 2 (by omega))
  have c3 : ∀ o, (w.alloc o).cell? ⟨3, 0, none⟩ = some (.iface 57 (.pointer (some (A 3)))) := fun o => (((Below.refl w.heap.size w).alloc (Nat.le_refl _) o).cell (show 3 < w.heap.size by have := hg.1; omega)).trans (hg.2.1 3 (by omega))
  by_cases hl : l = 1
  · subst hl
    obtain ⟨nm, hnc, hnm⟩ := (hg.below (Joins.below_alloc1 w (.cells #[.bool p, .int .u8 1, .bool q, .int .u8 s] 46))).2.2.2 s hs
    have hv : chkV A 1 s = if resN s = true then errV A 3 else .nilIface := rfl
    rw [hv]
    clear hv hg
    cases hr : resN s
    · have H := hide (name_any s nm _ hs hnc hnm)
      have HR := hide hr
      clear hnc hnm hr
      go_enter Ybad.func12, Ybad.ntmps12
      go_wp2_with fail
      refine (unhide H).mono ?_
      rintro e w' ⟨⟨str, rfl⟩, rfl⟩
      rw [unhide HR]
      go_wp2
      go_ret
      exact ⟨rfl, Joins.below_alloc1 _ _⟩
    · have H := hide (name_any s nm _ hs hnc hnm)
      have HR := hide hr
      clear hnc hnm hr
      go_enter Ybad.func12, Ybad.ntmps12
      go_wp2_with fail
      refine (unhide H).mono ?_
      rintro e w' ⟨⟨str, rfl⟩, rfl⟩
      rw [unhide HR]
      go_wp2
      go_ret
      exact ⟨rfl, Joins.below_alloc1 _ _⟩
  · have hv : chkV A l s = errV A 2 := by rw [chkV, if_neg hl]
    rw [hv]
    have hne : (l != 1) = true := by rw [bne_iff_ne]; exact hl
    clear hv hg hl
    go_enter Ybad.func12, Ybad.ntmps12
    go_wp2
    go_ret
    exact ⟨rfl, Joins.below_alloc1 _ _⟩

/-- kindOf: which message does the number begin? -/
def kindV (s : Nat) : Int := if s = 8 then 1 else 0
def kindB (s : Nat) : Bool := s == 0 || s == 8
theorem index0 (w : World) : (Instr.index 55 (.agg #[.int .u8 0, .int .u8 8]) (.int .i64 0)).run Ybad.prog w = .ok (.int .u8 0) w := by kernel_rfl
theorem index1 (w : World) : (Instr.index 55 (.agg #[.int .u8 0, .int .u8 8]) (.int .i64 1)).run Ybad.prog w = .ok (.int .u8 8) w := by kernel_rfl
theorem kind_any (s : Nat) (A : Nat → Addr) (w : World) (hs : s < 16) (hg : Gl w A) :
    Calls Ybad.prog 13 #[.int .u8 s] w fun e w' => e = .returned (.tuple #[.int .u8 (kindV s), .bool (kindB s)]) ∧ w' = w := by
  have i0 := index0
  have i1 := index1
  obtain ⟨t7, fr7, h7'⟩ := hg.2.2.1
  have h7 := hide h7'
  clear hg h7'
  by_cases h0 : s = 0
  · subst h0
    go_enter Ybad.func13, Ybad.ntmps13
    go_wp2_with (refine wpList_load_row rfl 55 _ rfl 7 rfl t7 _ fr7 _ (unhide h7) Ybad.underlying55 rfl (by kernel_rfl) ?_)
    refine wp_loop_rounds 1 ?_
    rw [rounds_succ]
    go_wp2
    go_ret2
    exact ⟨rfl, rfl⟩
  · by_cases h8 : s = 8
    · subst h8
      go_enter Ybad.func13, Ybad.ntmps13
      go_wp2_with (refine wpList_load_row rfl 55 _ rfl 7 rfl t7 _ fr7 _ (unhide h7) Ybad.underlying55 rfl (by kernel_rfl) ?_)
      refine wp_loop_rounds 2 ?_
      rw [rounds_succ]
      go_wp2
      rw [rounds_succ]
      go_wp2
      go_ret2
      exact ⟨rfl, rfl⟩
    · have e1 : ((0 : Int) == (s : Int)) = false := by rw [beq_eq_false_iff_ne]; omega
      have e2 : ((8 : Int) == (s : Int)) = false := by rw [beq_eq_false_iff_ne]; omega
      have hv : kindV s = 0 := by rw [kindV, if_neg h8]
      have hw : kindB s = false := by simp [kindB, h0, h8]
      rw [hv, hw]
      clear hv hw
      go_enter Ybad.func13, Ybad.ntmps13
      go_wp2_with (refine wpList_load_row rfl 55 _ rfl 7 rfl t7 _ fr7 _ (unhide h7) Ybad.underlying55 rfl (by kernel_rfl) ?_)
      refine wp_loop_rounds 3 ?_
      rw [rounds_succ]
      go_wp2
      rw [rounds_succ]
      go_wp2
      rw [rounds_succ]
      go_wp2
      go_ret2
      exact ⟨rfl, rfl⟩
end Go.Proofs.YbulkeimqDoor.lawB
