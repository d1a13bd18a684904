/-
  Line[Player].Ranks, walked.
-/
import Derived.Test.YbulkeipiSRanks
namespace Go.Proofs.Ybulkeipi.lawW
open Go.ChangeShapes Go.WideShapes Go.ChangeAt Go.RowKit
open Go.Proofs.Ybulkeipi.lawS (hide unhide mk22 cell_of_row frozen_of_row madeSize noStr fld28)

/-- The i-th player of the row at block g. -/
structure Ply (w : World) (g i : Nat) (c : ByteArray) (s r : Int) : Prop where
  e0 : w.cell? ⟨g, i * 6, none⟩ = some (.int .i64 (i + 1))
  e1 : w.cell? ⟨g, i * 6 + 1, none⟩ = some (.string c)
  e2 : w.cell? ⟨g, i * 6 + 2, none⟩ = some (.string noStr)
  e3 : w.cell? ⟨g, i * 6 + 3, none⟩ = some (.pointer none)
  e4 : w.cell? ⟨g, i * 6 + 4, none⟩ = some (.int .i64 s)
  e5 : w.cell? ⟨g, i * 6 + 5, none⟩ = some (.int .i64 r)

theorem Ply.below {w w' : World} {g i B : Nat} {c : ByteArray} {s r : Int} (h : Ply w g i c s r) (hb : Below B w w') (hg : g < B) : Ply w' g i c s r :=
  ⟨(hb.cell (by exact hg)).trans h.e0, (hb.cell (by exact hg)).trans h.e1, (hb.cell (by exact hg)).trans h.e2, (hb.cell (by exact hg)).trans h.e3, (hb.cell (by exact hg)).trans h.e4, (hb.cell (by exact hg)).trans h.e5⟩

theorem meth28 (v : Value) (w : World) : Sem.run Yba.prog (method 158 28 v "Reported") w = .ok (22, v) w := by kernel_rfl

theorem rep28 (a : Int) (b c : ByteArray) (d : Option Addr) (e f : Int) (w : World) : Calls Yba.prog 22 #[.agg #[.int .i64 a, .string b, .string c, .pointer d, .int .i64 e, .int .i64 f]] w fun x w' => x = .returned (.agg #[.int .i64 a, .string b, .string c, .pointer d, .int .i64 e, .int .i64 f]) ∧ Below w.heap.size w w' := by
  go_enter Yba.func22, Yba.ntmps22
  go_wp2
  exact bodyPost_ret (v := .agg #[.int .i64 a, .string b, .string c, .pointer d, .int .i64 e, .int .i64 f]) (by exact results_cell_row rfl _ _ (w.heap.size + 1) 28 _ (0, 0) _ rfl (heap_alloc2_new _ _ _) Yba.underlying28 rfl (by kernel_rfl)) rfl ⟨rfl, Joins.below_alloc2 _ _ _⟩

set_option maxHeartbeats 1000000 in
theorem ranks5 (s0 s3 : ByteArray) (i1 i2 : Int) (ag : Option Addr) (g n c : Nat) (C : Nat → ByteArray) (S R : Nat → Int) (w : World) (hn : n ≤ 1048576)
    (hA : 0 < n → ag = some ⟨g, 0, none⟩ ∧ g < w.heap.size ∧ ∀ i, i < n → Ply w g i (C i) (S i) (R i)) :
    Calls Yba.prog 5 #[.agg #[.string s0, .int .i64 i1, .int .i64 i2, .string s3, .slice ag n c]] w fun e w' => ∃ r cs, e = .returned (.slice (some ⟨r, 0, none⟩) n n) ∧ w.heap.size ≤ r ∧
      w'.heap[r]? = some (.cells cs 3 (0, 0)) ∧ cs.size = n ∧ (∀ i, i < n → cs[i]? = some (.int .i64 (R i))) ∧ Below w.heap.size w w' := by
  have hmk := fun w => mk22 w n hn
  have HA := hide hA
  clear hA
  obtain ⟨w1, ew1⟩ : ∃ w1, w1 = (w.alloc (.cells #[.string s0, .int .i64 i1, .int .i64 i2, .string s3, .slice ag n c] 31)).alloc (.cells (madeCells #[.int .i64 0] n) 3) := ⟨_, rfl⟩
  have hB1 : Below w.heap.size w w1 := by rw [ew1]; exact Joins.below_alloc2 _ _ _
  have hR1 : Hid (w1.heap[w.heap.size + 1]? = some (.cells (madeCells #[.int .i64 0] n) 3 (0, 0))) := by rw [ew1]; exact heap_alloc2_new _ _ _
  have HE := hide ew1
  clear ew1
  go_enter Yba.func5, Yba.ntmps5
  go_wp2
  rw [← unhide HE]
  clear HE hmk
  go_loopw [13] (fun i wr => ∃ k : Nat, k ≤ n ∧ i = .int .i64 k ∧ Below w.heap.size w wr ∧ Hid (∃ cs, wr.heap[w.heap.size + 1]? = some (.cells cs 3 (0, 0)) ∧ cs.size = n ∧ ∀ i, i < k → cs[i]? = some (.int .i64 (R i)))) (fun i _ => n - (intOf i).toNat)
  case atStart => exact ⟨0, by omega, rfl, hB1, _, unhide hR1, madeSize _ _, fun i hi => absurd hi (Nat.not_lt_zero i)⟩
  case round =>
    obtain ⟨k, hk, rfl, hbel, hst⟩ := hrel
    clear hB1 hR1
    by_cases hlt : k < n
    · obtain ⟨rfl, hg, hP⟩ := unhide HA (by omega)
      obtain ⟨e0, e1, e2, e3, e4, e5⟩ := (hP k hlt).below hbel hg
      have hi1 : (k : Int) < (n : Int) := by omega
      obtain ⟨cs, hcs, hsz, hck⟩ := unhide hst
      have hlt1 : w.heap.size + 1 < wr.heap.size := (Array.getElem?_eq_some_iff.1 hcs).1
      clear hP
      have hme := meth28
      go_wp2_with fail
      refine (rep28 _ _ _ _ _ _ _).mono ?_
      rintro e w2 ⟨rfl, hb2⟩
      have hB2 : Below w.heap.size w w2 := (hbel.alloc hbel.size _).trans (Joins.below_le hb2 (by have := hbel.size; simp; omega))
      have hcs2 : w2.heap[w.heap.size + 1]? = some (.cells cs 3 (0, 0)) := (hb2.block _ (by simp; omega)).trans ((heap_alloc_old _ _ hlt1).trans hcs)
      have hx0 : w2.frozen? ⟨w.heap.size + 1, k, none⟩ = false := frozen_of_row _ _ _ _ _ hcs2
      obtain ⟨u0, hu0⟩ : ∃ u, w2.cell? ⟨w.heap.size + 1, k, none⟩ = some u := ⟨_, (cell_of_row _ _ _ _ _ _ hcs2).trans (Array.getElem?_eq_getElem (by omega))⟩
      have hst' : Hid (∃ cs, (w2.setCell ⟨w.heap.size + 1, k, none⟩ (.int .i64 (R k))).heap[w.heap.size + 1]? = some (.cells cs 3 (0, 0)) ∧ cs.size = n ∧ ∀ i, i < k + 1 → cs[i]? = some (.int .i64 (R i))) := by
        refine ⟨_, Joins.block_setCell (i := k) hcs2 _, by simpa using hsz, fun i hi => ?_⟩
        rw [Array.getElem?_setIfInBounds]
        by_cases e : k = i
        · subst e; rw [if_pos rfl, if_pos (by omega)]
        · rw [if_neg e]; exact hck i (by omega)
      have hB3 : Below w.heap.size w (w2.setCell ⟨w.heap.size + 1, k, none⟩ (.int .i64 (R k))) := hB2.setCell (Nat.le_succ _) _
      clear hcs hcs2 hck hst hb2 hB2 hme e0 e1 e2 e3 e4 e5 hbel
      have hfd := fun w => fld28 (.int .i64 (k + 1)) (.string (C k)) (.string noStr) (.pointer none) (.int .i64 (S k)) (.int .i64 (R k)) w
      go_wp2
      go_roundw
      case rel => exact ⟨k + 1, by omega, by go_num, hB3, hst'⟩
      case measure => simp [intOf]; omega
    · have ek : k = n := by omega
      subst ek
      obtain ⟨cs, hcs, hsz, hck⟩ := unhide hst
      have HQ : Hid _ := hide (⟨w.heap.size + 1, cs, rfl, Nat.le_succ _, hcs, hsz, hck, hbel⟩ : ∃ r cs, Ending.returned (.slice (some ⟨w.heap.size + 1, 0, none⟩) k k) = .returned (.slice (some ⟨r, 0, none⟩) k k) ∧ w.heap.size ≤ r ∧
        wr.heap[r]? = some (.cells cs 3 (0, 0)) ∧ cs.size = k ∧ (∀ i, i < k → cs[i]? = some (.int .i64 (R i))) ∧ Below w.heap.size w wr)
      clear hcs hsz hck hst
      go_wp2
      go_ret
      exact unhide HQ
end Go.Proofs.Ybulkeipi.lawW
