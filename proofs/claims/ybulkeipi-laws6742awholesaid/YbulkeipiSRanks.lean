/-
  Line[zzs6742arep].Ranks, walked.
-/
import Derived.Test.YbulkeipiRows
import Derived.WalkKit
import Derived.WalkLawsBesides
import Derived.ProofKit
import Derived.OpenShut
import Derived.Below
import Derived.BigQuiet
import Derived.Lib.SmallJoins
namespace Go.Proofs.Ybulkeipi.lawS
open Go.ChangeShapes Go.WideShapes Go.ChangeAt Go.RowKit

theorem hide {p : Prop} (h : p) : Hid p := h
theorem unhide {p : Prop} (h : Hid p) : p := h

theorem info3 : (Yba.prog.info? 3).map (fun i => (i.zero, i.size, i.bytes)) = some (some (.int .i64 0), 1, 8) := by kernel_rfl
theorem info36 : (Yba.prog.info? 36).map (fun i => (i.zero, i.size, i.bytes)) = some (some (.agg #[.int .i64 0, .int .i64 0]), 2, 16) := by kernel_rfl

theorem mk22 (w : World) (n : Nat) (hn : n ≤ 1048576) : (Instr.makeSlice 22 (.int .i64 n) (.int .i64 n)).run Yba.prog w = .ok (.slice (some ⟨w.heap.size, 0, none⟩) n n) (w.alloc (.cells (madeCells #[.int .i64 0] n) 3)) := by
  have h := info3
  cases hi : Yba.prog.info? 3 with
  | none => rw [hi] at h; cases h
  | some i =>
    rw [hi] at h
    simp only [Option.map_some, Option.some.injEq, Prod.mk.injEq] at h
    obtain ⟨hz, hs, hb⟩ := h
    have := run_make w 22 3 i _ Yba.underlying22 hi hz .i64 .i64 n n (by omega) (Int.le_refl _) (by rw [hb]; omega) (by omega)
    rw [this, hs]
    simp [Value.cells]

theorem mk34 (w : World) (n : Nat) (hn : n ≤ 1048576) : (Instr.makeSlice 34 (.int .i64 n) (.int .i64 n)).run Yba.prog w = .ok (.slice (some ⟨w.heap.size, 0, none⟩) n n) (w.alloc (.cells (madeCells #[.int .i64 0, .int .i64 0] (n * 2)) 36)) := by
  have h := info36
  cases hi : Yba.prog.info? 36 with
  | none => rw [hi] at h; cases h
  | some i =>
    rw [hi] at h
    simp only [Option.map_some, Option.some.injEq, Prod.mk.injEq] at h
    obtain ⟨hz, hs, hb⟩ := h
    have := run_make w 34 36 i _ Yba.underlying34 hi hz .i64 .i64 n n (by omega) (Int.le_refl _) (by rw [hb]; omega) (by omega)
    rw [this, hs]
    simp [Value.cells]

theorem cell_of_row (w : World) (g j : Nat) (cs : Array Value) (t : TypeId) (fr : Nat × Nat) (h : w.heap[g]? = some (.cells cs t fr)) : w.cell? ⟨g, j, none⟩ = cs[j]? := by
  simp [World.cell?, h]
theorem frozen_of_row (w : World) (g j : Nat) (cs : Array Value) (t : TypeId) (h : w.heap[g]? = some (.cells cs t (0, 0))) : w.frozen? ⟨g, j, none⟩ = false := by
  simp [World.frozen?, h]

theorem madeSize (cs : Array Value) (n : Nat) : (madeCells cs n).size = n := by simp [madeCells]

def xr (a b : Int) : Int := bits .xor .i64 a b
def noStr : ByteArray := ⟨#[]⟩

theorem fld28 (a b c d e f : Value) (w : World) : (Instr.field 28 (.agg #[a, b, c, d, e, f]) 5).run Yba.prog w = .ok f w := by kernel_rfl
theorem meth36 (v : Value) (w : World) : Sem.run Yba.prog (method 158 36 v "Reported") w = .ok (23, v) w := by kernel_rfl

theorem rep36 (a b : Int) (w : World) : Calls Yba.prog 23 #[.agg #[.int .i64 a, .int .i64 b]] w fun e w' => e = .returned (.agg #[.int .i64 b, .string noStr, .string noStr, .pointer none, .int .i64 a, .int .i64 (xr a b)]) ∧ Below w.heap.size w w' := by
  go_enter Yba.func23, Yba.ntmps23
  go_wp2
  exact bodyPost_ret (v := .agg #[.int .i64 b, .string noStr, .string noStr, .pointer none, .int .i64 a, .int .i64 (xr a b)]) (by exact results_cell_row rfl _ _ (w.heap.size + 1) 28 _ (0, 0) _ rfl (heap_alloc2_new _ _ _) Yba.underlying28 rfl (by kernel_rfl)) rfl ⟨rfl, Joins.below_alloc2 _ _ _⟩

set_option maxHeartbeats 1000000 in
theorem ranks6 (s0 s3 : ByteArray) (i1 i2 : Int) (g n : Nat) (A B : Nat → Int) (w : World) (hn : n ≤ 1048576) (hg : g < w.heap.size)
    (hA : ∀ i, i < n → w.cell? ⟨g, 2 * i, none⟩ = some (.int .i64 (A i))) (hB : ∀ i, i < n → w.cell? ⟨g, 2 * i + 1, none⟩ = some (.int .i64 (B i))) :
    Calls Yba.prog 6 #[.agg #[.string s0, .int .i64 i1, .int .i64 i2, .string s3, .slice (some ⟨g, 0, none⟩) n n]] w fun e w' => ∃ r cs, e = .returned (.slice (some ⟨r, 0, none⟩) n n) ∧ w.heap.size ≤ r ∧
      w'.heap[r]? = some (.cells cs 3 (0, 0)) ∧ cs.size = n ∧ (∀ i, i < n → cs[i]? = some (.int .i64 (xr (A i) (B i)))) ∧ Below w.heap.size w w' := by
  have hmk := fun w => mk22 w n hn
  have HA := hide hA
  have HB := hide hB
  clear hA hB
  obtain ⟨w1, ew1⟩ : ∃ w1, w1 = (w.alloc (.cells #[.string s0, .int .i64 i1, .int .i64 i2, .string s3, .slice (some ⟨g, 0, none⟩) n n] 38)).alloc (.cells (madeCells #[.int .i64 0] n) 3) := ⟨_, rfl⟩
  have hB1 : Below w.heap.size w w1 := by rw [ew1]; exact Joins.below_alloc2 _ _ _
  have hR1 : Hid (w1.heap[w.heap.size + 1]? = some (.cells (madeCells #[.int .i64 0] n) 3 (0, 0))) := by rw [ew1]; exact heap_alloc2_new _ _ _
  have HE := hide ew1
  clear ew1
  go_enter Yba.func6, Yba.ntmps6
  go_wp2
  rw [← unhide HE]
  clear HE hmk
  go_loopw [13] (fun i wr => ∃ k : Nat, k ≤ n ∧ i = .int .i64 k ∧ Below w.heap.size w wr ∧ Hid (∃ cs, wr.heap[w.heap.size + 1]? = some (.cells cs 3 (0, 0)) ∧ cs.size = n ∧ ∀ i, i < k → cs[i]? = some (.int .i64 (xr (A i) (B i))))) (fun i _ => n - (intOf i).toNat)
  case atStart => exact ⟨0, by omega, rfl, hB1, _, unhide hR1, madeSize _ _, fun i hi => absurd hi (Nat.not_lt_zero i)⟩
  case round =>
    obtain ⟨k, hk, rfl, hbel, hst⟩ := hrel
    clear hB1 hR1
    by_cases hlt : k < n
    · have e0 : wr.cell? ⟨g, k * 2, none⟩ = some (.int .i64 (A k)) := (hbel.cell (by exact hg)).trans (by rw [Nat.mul_comm]; exact unhide HA k hlt)
      have e1 : wr.cell? ⟨g, k * 2 + 1, none⟩ = some (.int .i64 (B k)) := (hbel.cell (by exact hg)).trans (by rw [Nat.mul_comm]; exact unhide HB k hlt)
      have hi1 : (k : Int) < (n : Int) := by omega
      obtain ⟨cs, hcs, hsz, hck⟩ := unhide hst
      have hlt1 : w.heap.size + 1 < wr.heap.size := (Array.getElem?_eq_some_iff.1 hcs).1
      have hme := meth36
      go_wp2_with fail
      refine (rep36 _ _ _).mono ?_
      rintro e w2 ⟨rfl, hb2⟩
      have hB2 : Below w.heap.size w w2 := (hbel.alloc hbel.size _).trans (Joins.below_le hb2 (by have := hbel.size; simp; omega))
      have hcs2 : w2.heap[w.heap.size + 1]? = some (.cells cs 3 (0, 0)) := (hb2.block _ (by simp; omega)).trans ((heap_alloc_old _ _ hlt1).trans hcs)
      have hx0 : w2.frozen? ⟨w.heap.size + 1, k, none⟩ = false := frozen_of_row _ _ _ _ _ hcs2
      obtain ⟨u0, hu0⟩ : ∃ u, w2.cell? ⟨w.heap.size + 1, k, none⟩ = some u := ⟨_, (cell_of_row _ _ _ _ _ _ hcs2).trans (Array.getElem?_eq_getElem (by omega))⟩
      have hst' : Hid (∃ cs, (w2.setCell ⟨w.heap.size + 1, k, none⟩ (.int .i64 (xr (A k) (B k)))).heap[w.heap.size + 1]? = some (.cells cs 3 (0, 0)) ∧ cs.size = n ∧ ∀ i, i < k + 1 → cs[i]? = some (.int .i64 (xr (A i) (B i)))) := by
        refine ⟨_, Joins.block_setCell (i := k) hcs2 _, by simpa using hsz, fun i hi => ?_⟩
        rw [Array.getElem?_setIfInBounds]
        by_cases e : k = i
        · subst e; rw [if_pos rfl, if_pos (by omega)]
        · rw [if_neg e]; exact hck i (by omega)
      have hB3 : Below w.heap.size w (w2.setCell ⟨w.heap.size + 1, k, none⟩ (.int .i64 (xr (A k) (B k)))) := hB2.setCell (Nat.le_succ _) _
      clear hcs hcs2 hck hst hb2 hB2 hme e0 e1 hbel
      have hfd := fun w => fld28 (.int .i64 (B k)) (.string noStr) (.string noStr) (.pointer none) (.int .i64 (A k)) (.int .i64 (xr (A k) (B k))) w
      go_wp2
      go_roundw
      case rel => exact ⟨k + 1, by omega, by go_num, hB3, hst'⟩
      case measure => simp [intOf]; omega
    · have ek : k = n := by omega
      subst ek
      obtain ⟨cs, hcs, hsz, hck⟩ := unhide hst
      have HQ : Hid _ := hide (⟨w.heap.size + 1, cs, rfl, Nat.le_succ _, hcs, hsz, hck, hbel⟩ : ∃ r cs, Ending.returned (.slice (some ⟨w.heap.size + 1, 0, none⟩) k k) = .returned (.slice (some ⟨r, 0, none⟩) k k) ∧ w.heap.size ≤ r ∧
        wr.heap[r]? = some (.cells cs 3 (0, 0)) ∧ cs.size = k ∧ (∀ i, i < k → cs[i]? = some (.int .i64 (xr (A i) (B i)))) ∧ Below w.heap.size w wr)
      clear hcs hsz hck hst
      go_wp2
      go_ret
      exact unhide HQ
end Go.Proofs.Ybulkeipi.lawS
