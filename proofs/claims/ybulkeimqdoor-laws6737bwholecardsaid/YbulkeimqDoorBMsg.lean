import Derived.Test.YbulkeimqDoorBTake
import Derived.Deep.RegionLawGrows
namespace Go.Proofs.YbulkeimqDoor.lawB
open Go.ChangeShapes Go.WideShapes Go.ChangeAt Go.RowKit

theorem slAll (r : Nat) (w : World) : (Instr.sliceAt 38 (.pointer (some ⟨r, 1, none⟩)) none none none).run Ybad.prog w = .ok (.slice (some ⟨r, 1, none⟩) 88 88) w := by kernel_rfl
theorem recv_src {w : World} {r : Nat} {k : Int} {pg : List Int} (hr : w.heap[r]? = some (.cells (recv k pg).toArray 40 (0, 0))) : Src w r 1 pg := by
  intro j v hv
  have hj : j < pg.length := by
    rcases Nat.lt_or_ge j pg.length with h | h
    · exact h
    · rw [List.getElem?_eq_none (by simpa [u8s] using h)] at hv; cases hv
  rw [add_plain, cell_of_row _ _ _ _ _ _ hr]
  have : (recv k pg)[1 + j]? = (u8s pg)[j]? := by
    rw [recv, Nat.add_comm 1 j, List.getElem?_cons_succ, List.getElem?_append_left (by simpa [u8s] using hj)]
  simpa [this] using hv

theorem grown_row {w w1 : World} (h : w.grownBy w1 none) {g : Nat} {cs : Array Value} {t : TypeId} (hr : w.heap[g]? = some (.cells cs t (0, 0))) : w1.heap[g]? = some (.cells cs t (0, 0)) := by
  have := (Below.refl w.heap.size w).grown h (Nat.le_refl _) (fun j hj => by cases hj)
  exact (this.block g (lt_of_block hr)).trans hr

theorem msg_end {w w1 : World} {O : Obj} {g cap : Nat} {pg : List Int} {u v : Value} (hown : w1.ownsRow (w.alloc O).drew.heap.size 5 1 (.slice (some ⟨g, 0, none⟩) (0 + 88) cap) (0 + 88) ([] ++ u8s pg)) (hgrow : (w.alloc O).drew.grownBy w1 none) :
    ((w1.setCell ⟨w.heap.size, 0, none⟩ u).setCell ⟨w.heap.size, 1, none⟩ v).ownsRow w.heap.size 5 1 (.slice (some ⟨g, 0, none⟩) 88 cap) 88 (u8s pg) ∧ Below w.heap.size w ((w1.setCell ⟨w.heap.size, 0, none⟩ u).setCell ⟨w.heap.size, 1, none⟩ v) := by
  have h1 : w1.ownsRow (w.heap.size + 1) 5 1 (.slice (some ⟨g, 0, none⟩) 88 cap) 88 (u8s pg) := by simpa using hown
  refine ⟨Joins.ownsRow_le (ownsRow_setCell_below (ownsRow_setCell_below h1 (a := ⟨w.heap.size, 0, none⟩) (Nat.lt_succ_self _) u) (a := ⟨w.heap.size, 1, none⟩) (Nat.lt_succ_self _) v) (Nat.le_succ _), ?_⟩
  exact ((((Joins.below_alloc1 w O).drew).grown hgrow (by simp) (fun j hj => by cases hj)).setCell (Nat.le_refl _) _).setCell (Nat.le_refl _) _

set_option maxHeartbeats 1000000 in
theorem message_any (r : Nat) (k : Int) (pg : List Int) (w : World) (hr : w.heap[r]? = some (.cells (recv k pg).toArray 40 (0, 0))) (hpg : pg.length = 88) :
    Calls Ybad.prog 10 #[.pointer (some ⟨r, 0, none⟩)] w fun e w' => ∃ g cap, e = .returned (.agg #[.int .u8 k, .slice (some ⟨g, 0, none⟩) 88 cap]) ∧ w'.ownsRow w.heap.size 5 1 (.slice (some ⟨g, 0, none⟩) 88 cap) 88 (u8s pg) ∧ Below w.heap.size w w' := by
  obtain ⟨i5, hi5, hz5, hs5, hb5⟩ := info_parts info5
  have hrl : r < w.heap.size := lt_of_block hr
  have r0 : ∀ o, (w.alloc o).cell? ⟨r, 0, none⟩ = some (.int .u8 k) := fun o => (((Below.refl w.heap.size w).alloc (Nat.le_refl _) o).cell (by exact hrl)).trans (cell_of_row _ _ 0 _ _ _ hr)
  have hsl := slAll
  have HSRC : Hid (∀ o, Src (w.alloc o) r 1 pg) := fun o => recv_src ((((Below.refl w.heap.size w).alloc (Nat.le_refl _) o).block r hrl).trans hr)
  have HRr : Hid (∀ o, (w.alloc o).heap[r]? = some (.cells (recv k pg).toArray 40 (0, 0))) := fun o => (((Below.refl w.heap.size w).alloc (Nat.le_refl _) o).block r hrl).trans hr
  have HPG := hide hpg
  clear hr hpg
  go_enter Ybad.func10, Ybad.ntmps10
  go_wp2
  go_region_law (refine step_append_grows rfl (.const (.slice none 0 0)) (.tmp 10) 23 rfl 5 i5 (.int .u8 0) 1 1 Ybad.underlying23 hi5 hz5 hs5 hb5 rfl (by decide) none 0 0 [] (by simp [Act.eval]) (fun _ => ⟨rfl, rfl⟩) rfl (fun b e => by cases e) ⟨r, 1, none⟩ 88 88 (u8s pg) (by first | (simp [Act.eval]; done) | simp [Act.eval, Act.put]) (by simp [u8s, unhide HPG]) (unhide HSRC _) (u8s_one _) (by omega) (by unfold maxLen; omega) (by omega) ?_; intro v' w1 hown1 hgrow1; obtain ⟨g, cap, ev⟩ := Joins.ownsRow_form hown1 (by omega); rw [ev] at hown1 ⊢; have hrow := grown_row hgrow1 (heap_alloc_new w (.cells #[.int .u8 0, .slice none 0 0] 31)); have xr : w1.cell? ⟨r, 0, none⟩ = some (.int .u8 k) := cell_of_row w1 r 0 _ _ _ (grown_row hgrow1 (unhide HRr _)); have x0 := cell_of_row w1 _ 0 _ _ _ hrow; have x1 := cell_of_row w1 _ 1 _ _ _ hrow; have f0 := frozen_of_row w1 _ 0 _ _ hrow; have f1 := frozen_of_row w1 _ 1 _ _ hrow; have HOWN := hide hown1; have HGROW := hide hgrow1; clear hown1 hgrow1 hrow)
  all_goals go_wp2
  all_goals
    have hE := msg_end (u := .int .u8 k) (v := .slice (some ⟨g, 0, none⟩) 88 cap) (unhide HOWN) (unhide HGROW)
    simp at x0 x1
    exact bodyPost_ret (v := .agg #[.int .u8 k, .slice (some ⟨g, 0, none⟩) 88 cap]) (by simp [results, Ybad.results10, go_sem, x0, x1]) rfl ⟨g, cap, rfl, hE.1, hE.2⟩
end Go.Proofs.YbulkeimqDoor.lawB
