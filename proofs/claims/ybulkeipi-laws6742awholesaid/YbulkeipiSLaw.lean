/-
  LawS6742AStandIn, walked.
-/
import Derived.Test.YbulkeipiSRanks
import Derived.Deep.DeepCutAuto
import Derived.Deep.QuietTactic
namespace Go.Proofs.Ybulkeipi.lawS
open Go.ChangeShapes Go.WideShapes Go.ChangeAt Go.RowKit

/-- A []int that came in: its n elements are z 0, z 1, ... -/
def Came (w : World) (a : Option Addr) (n : Nat) (z : Nat → Int) : Prop :=
  0 < n → ∃ b o, a = some ⟨b, o, none⟩ ∧ b < w.heap.size ∧ ∀ i, i < n → w.cell? ⟨b, o + i, none⟩ = some (.int .i64 (z i))

/-- What the law takes for the i-th element of the second slice. -/
def bOf (m : Nat) (Z : Nat → Int) (i : Nat) : Int := if 0 < m then Z (i % m) else 0

/-- The row of pairs at block P, its first k pairs laid. -/
def Laid (w : World) (P n k : Nat) (A B : Nat → Int) : Prop :=
  ∃ cs, w.heap[P]? = some (.cells cs 36 (0, 0)) ∧ cs.size = n * 2 ∧ ∀ i, i < k → cs[i * 2]? = some (.int .i64 (A i)) ∧ cs[i * 2 + 1]? = some (.int .i64 (B i))

theorem Laid.step {w : World} {P n k : Nat} {A B : Nat → Int} (h : Laid w P n k A B) (hk : k < n) :
    Laid ((w.setCell ⟨P, k * 2, none⟩ (.int .i64 (A k))).setCell ⟨P, k * 2 + 1, none⟩ (.int .i64 (B k))) P n (k + 1) A B := by
  obtain ⟨cs, h1, h2, h3⟩ := h
  refine ⟨_, Joins.block_setCell (i := k * 2 + 1) (Joins.block_setCell (i := k * 2) h1 _) _, by simpa using h2, fun i hi => ?_⟩
  rw [Array.getElem?_setIfInBounds, Array.getElem?_setIfInBounds, Array.getElem?_setIfInBounds, Array.getElem?_setIfInBounds]
  by_cases e : k = i
  · subst e
    rw [if_neg (by omega), if_pos rfl, if_pos (by omega), if_pos rfl, if_pos (by simp; omega)]
    exact ⟨rfl, rfl⟩
  · rw [if_neg (by omega), if_neg (by omega), if_neg (by omega), if_neg (by omega)]
    exact h3 i (by omega)

theorem Laid.at0 {w : World} {P n k i : Nat} {A B : Nat → Int} (h : Laid w P n k A B) (hi : i < k) : w.cell? ⟨P, i * 2, none⟩ = some (.int .i64 (A i)) := by
  obtain ⟨cs, h1, _, h3⟩ := h
  exact (cell_of_row _ _ _ _ _ _ h1).trans (h3 i hi).1
theorem Laid.at1 {w : World} {P n k i : Nat} {A B : Nat → Int} (h : Laid w P n k A B) (hi : i < k) : w.cell? ⟨P, i * 2 + 1, none⟩ = some (.int .i64 (B i)) := by
  obtain ⟨cs, h1, _, h3⟩ := h
  exact (cell_of_row _ _ _ _ _ _ h1).trans (h3 i hi).2
theorem Laid.lt {w : World} {P n k : Nat} {A B : Nat → Int} (h : Laid w P n k A B) : P < w.heap.size := by
  obtain ⟨cs, h1, _⟩ := h
  exact (Array.getElem?_eq_some_iff.1 h1).1
theorem Laid.some {w : World} {P n k j : Nat} {A B : Nat → Int} (h : Laid w P n k A B) (hj : j < n * 2) : ∃ u, w.cell? ⟨P, j, none⟩ = some u := by
  obtain ⟨cs, h1, h2, _⟩ := h
  exact ⟨_, (cell_of_row _ _ _ _ _ _ h1).trans (Array.getElem?_eq_getElem (by omega))⟩
theorem Laid.frozen {w : World} {P n k : Nat} {A B : Nat → Int} (h : Laid w P n k A B) (j : Nat) : w.frozen? ⟨P, j, none⟩ = false := by
  obtain ⟨cs, h1, _⟩ := h
  exact frozen_of_row _ _ _ _ _ h1

theorem eq22 (a : Addr) (n c : Nat) (w : World) : (binOp .eql 22 (.slice (some a) n c) (.slice none 0 0)).run Yba.prog w = .ok (.bool false) w := by kernel_rfl

set_option maxHeartbeats 1000000 in
theorem law_small (a0 : Option Addr) (n c0 : Nat) (A : Nat → Int) (a1 : Option Addr) (m c1 : Nat) (Z : Nat → Int) (w : World) (h0 : Came w a0 n A) (h1 : Came w a1 m Z) (hn : n ≤ 1048576) (hm : m ≤ maxLen) :
    Calls Yba.prog 4 #[.slice a0 n c0, .slice a1 m c1] w fun e w' => e = .returned (.bool true) ∧ Below w.heap.size w w' := by
  have hmk := fun w => mk34 w n hn
  have H0 := hide h0
  have H1 := hide h1
  clear h0 h1
  have hdec : decide ((1048576 : Int) < (n : Int)) = false := by simp; omega
  obtain ⟨w1, ew1⟩ : ∃ w1, w1 = w.alloc (.cells (madeCells #[.int .i64 0, .int .i64 0] (n * 2)) 36) := ⟨_, rfl⟩
  have hB1 : Below w.heap.size w w1 := by rw [ew1]; exact Joins.below_alloc1 _ _
  have hR1 : Hid (Laid w1 w.heap.size n 0 A (bOf m Z)) := ⟨_, by rw [ew1]; exact heap_alloc_new _ _, madeSize _ _, fun i hi => absurd hi (Nat.not_lt_zero i)⟩
  have HE := hide ew1
  clear ew1
  go_enter Yba.func4, Yba.ntmps4
  go_wp2
  rw [← unhide HE]
  clear HE hmk
  go_loopw [6] (fun i wr => ∃ k : Nat, k ≤ n ∧ i = .int .i64 k ∧ Below w.heap.size w wr ∧ Hid (Laid wr w.heap.size n k A (bOf m Z))) (fun i _ => n - (intOf i).toNat)
  case atStart => exact ⟨0, by omega, rfl, hB1, hR1⟩
  case round =>
    obtain ⟨k, hk, rfl, hbel, hst⟩ := hrel
    clear hB1 hR1
    by_cases hlt : k < n
    · go_upto_if 26 with (fail)
      go_cut [7] (fun b wc => b = .int .i64 (bOf m Z k) ∧ wc = wr)
      case first =>
        by_cases hm0 : m = 0
        · subst hm0
          go_wp2
          go_meet
          case rel => exact ⟨rfl, by first | rfl | trivial⟩
        · have hm1 : (0 : Int) < (m : Int) := by omega
          obtain ⟨b2, o2, ha2, hb2, hc2⟩ := unhide H1 (by omega)
          have hr : k % m < m := Nat.mod_lt _ (by omega)
          have e2 : wr.cell? ⟨b2, o2 + k % m, none⟩ = some (.int .i64 (bOf m Z k)) := by
            rw [bOf, if_pos (by omega)]; exact (hbel.cell (by exact hb2)).trans (hc2 _ hr)
          have hrem : Int.tmod (k : Int) (m : Int) = ((k % m : Nat) : Int) := by rw [Int.tmod_eq_emod_of_nonneg (by omega)]; rfl
          subst ha2
          clear hc2 hb2
          go_wp2
          go_meet
          case rel => exact ⟨rfl, by first | rfl | trivial⟩
      case rest =>
        obtain ⟨rfl, rfl⟩ := hcut
        obtain ⟨b0, o0, ha0, hb0, hc0⟩ := unhide H0 (by omega)
        have e0 : wc.cell? ⟨b0, o0 + k, none⟩ = some (.int .i64 (A k)) := (hbel.cell (by exact hb0)).trans (hc0 _ hlt)
        have hi1 : (k : Int) < (n : Int) := by omega
        obtain ⟨x0, hx0⟩ := (unhide hst).some (j := k * 2) (by omega)
        obtain ⟨x1, hx1⟩ := (unhide hst).some (j := k * 2 + 1) (by omega)
        have f0 := (unhide hst).frozen (k * 2)
        have f1 := (unhide hst).frozen (k * 2 + 1)
        have hst' : Hid (Laid ((wc.setCell ⟨w.heap.size, k * 2, none⟩ (.int .i64 (A k))).setCell ⟨w.heap.size, k * 2 + 1, none⟩ (.int .i64 (bOf m Z k))) w.heap.size n (k + 1) A (bOf m Z)) := (unhide hst).step hlt
        have hB' : Below w.heap.size w ((wc.setCell ⟨w.heap.size, k * 2, none⟩ (.int .i64 (A k))).setCell ⟨w.heap.size, k * 2 + 1, none⟩ (.int .i64 (bOf m Z k))) := (hbel.setCell (Nat.le_refl _) _).setCell (Nat.le_refl _) _
        subst ha0
        clear hc0 hb0 hst hbel
        go_wp2
        go_roundw
        case rel => exact ⟨k + 1, by omega, by go_num, hB', hst'⟩
        case measure => simp [intOf]; omega
    · have ek : k = n := by omega
      subst ek
      clear hlt hk
      have HRK := hide (ranks6 noStr noStr 0 0 w.heap.size k A (bOf m Z) (wr.alloc (.cells #[.string noStr, .int .i64 0, .int .i64 0, .string noStr, .slice (some ⟨w.heap.size, 0, none⟩) k k] 38)) hn (by have := (unhide hst).lt; simp; omega)
        (fun i hi => ((Joins.below_alloc1 wr _).cell (by exact (unhide hst).lt)).trans (by rw [Nat.mul_comm]; exact (unhide hst).at0 hi)) (fun i hi => ((Joins.below_alloc1 wr _).cell (by exact (unhide hst).lt)).trans (by rw [Nat.mul_comm]; exact (unhide hst).at1 hi)))
      go_wp2_with fail
      refine (unhide HRK).mono ?_
      rintro e w2 ⟨r, cs, rfl, hr, hcs, hsz, hck, hb2⟩
      clear HRK
      have hr1 : wr.heap.size + 1 ≤ r := by simpa using hr
      have hB2 : Below w.heap.size w w2 := (hbel.alloc hbel.size _).trans (Joins.below_le hb2 (by have := hbel.size; simp; omega))
      have hL2 : Hid (Laid w2 w.heap.size k k A (bOf m Z)) := by
        obtain ⟨ds, q1, q2⟩ := unhide hst
        exact ⟨ds, (hb2.block _ (by have := (unhide hst).lt; simp; omega)).trans ((heap_alloc_old _ _ (unhide hst).lt).trans q1), q2⟩
      have hG2 : Hid (∀ i, i < k → w2.cell? ⟨r, i, none⟩ = some (.int .i64 (xr (A i) (bOf m Z i)))) := fun i hi => (cell_of_row _ _ _ _ _ _ hcs).trans (hck i hi)
      have hrl : r < w2.heap.size := (Array.getElem?_eq_some_iff.1 hcs).1
      clear hst hbel hr hcs hsz hck hb2 hr1
      have heq := eq22
      go_wp2
      clear heq
      go_loopw [10] (fun i wt => ∃ j : Nat, j ≤ k ∧ i = .int .i64 j ∧ Below w2.heap.size w2 wt) (fun i _ => k - (intOf i).toNat)
      case atStart => exact ⟨0, by omega, rfl, Below.refl _ _⟩
      case round =>
        obtain ⟨j, hj, rfl, hbel⟩ := hrel
        by_cases hlt : j < k
        · go_upto_if 64 with (fail)
          go_cut [11] (fun b wc => b = .int .i64 (bOf m Z j) ∧ wc = wr)
          case first =>
            by_cases hm0 : m = 0
            · subst hm0
              go_wp2
              go_meet
              case rel => exact ⟨rfl, by first | rfl | trivial⟩
            · have hm1 : (0 : Int) < (m : Int) := by omega
              obtain ⟨b2, o2, ha2, hb2, hc2⟩ := unhide H1 (by omega)
              have hr : j % m < m := Nat.mod_lt _ (by omega)
              have e2 : wr.cell? ⟨b2, o2 + j % m, none⟩ = some (.int .i64 (bOf m Z j)) := by
                have hs : w.heap.size ≤ w2.heap.size := hB2.size
                rw [bOf, if_pos (by omega)]; exact (hbel.cell (Nat.lt_of_lt_of_le hb2 hs)).trans ((hB2.cell (by exact hb2)).trans (hc2 _ hr))
              have hrem : Int.tmod (j : Int) (m : Int) = ((j % m : Nat) : Int) := by rw [Int.tmod_eq_emod_of_nonneg (by omega)]; rfl
              subst ha2
              clear hc2 hb2
              go_wp2
              go_meet
              case rel => exact ⟨rfl, by first | rfl | trivial⟩
          case rest =>
            obtain ⟨rfl, rfl⟩ := hcut
            obtain ⟨b0, o0, ha0, hb0, hc0⟩ := unhide H0 (by omega)
            have e0 : wc.cell? ⟨b0, o0 + j, none⟩ = some (.int .i64 (A j)) := by
              have hs : w.heap.size ≤ w2.heap.size := hB2.size
              exact (hbel.cell (Nat.lt_of_lt_of_le hb0 hs)).trans ((hB2.cell (by exact hb0)).trans (hc0 _ hlt))
            have e1 : wc.cell? ⟨r, j, none⟩ = some (.int .i64 (bits .xor .i64 (A j) (bOf m Z j))) := (hbel.cell (by exact hrl)).trans (unhide hG2 j hlt)
            have e2 : wc.cell? ⟨w.heap.size, j * 2, none⟩ = some (.int .i64 (A j)) := (hbel.cell (by exact (unhide hL2).lt)).trans ((unhide hL2).at0 hlt)
            have e3 : wc.cell? ⟨w.heap.size, j * 2 + 1, none⟩ = some (.int .i64 (bOf m Z j)) := (hbel.cell (by exact (unhide hL2).lt)).trans ((unhide hL2).at1 hlt)
            have hi1 : (j : Int) < (k : Int) := by omega
            subst ha0
            clear hc0 hb0
            go_wp2
            go_quiet (fail)
            go_wp2
            go_quiet (fail)
            go_wp2
            go_roundw
            case rel => exact ⟨j + 1, by omega, by go_num, hbel.trans (Joins.below_draws _ _ _)⟩
            case measure => simp [intOf]; omega
        · have hfin : Hid (Below w.heap.size w wr) := hB2.trans (Joins.below_le hbel hB2.size)
          clear hbel
          go_wp2
          go_ret
          exact ⟨rfl, unhide hfin⟩

/-- More than the law looks at. -/
theorem law_large (a0 : Option Addr) (n c0 : Nat) (a1 : Option Addr) (m c1 : Nat) (w : World) (hn : 1048576 < n) :
    Calls Yba.prog 4 #[.slice a0 n c0, .slice a1 m c1] w fun e w' => e = .returned (.bool true) ∧ Below w.heap.size w w' := by
  have hdec : (1048576 : Int) < (n : Int) := by omega
  go_enter Yba.func4, Yba.ntmps4
  go_wp2
  go_ret
  exact ⟨rfl, Below.refl _ _⟩
end Go.Proofs.Ybulkeipi.lawS
