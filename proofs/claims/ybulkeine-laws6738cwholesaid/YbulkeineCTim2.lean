/-
  package time, on: Before, Equal, Sub at times told in nanoseconds; the law's own zzs6738cn, zzs6738ct.
-/
import Derived.Test.YbulkeineCTime
import Derived.Deep.RegionHeld3
import Derived.Laws.CopyOwn
import Derived.Laws.Tables
namespace Go.Proofs.Ybulkeine.lawC
open Go.Proofs.Ybulkeine.lawA (hide unhide)
open Go.ChangeShapes Go.WideShapes Go.ChangeAt Go.RowKit

theorem before_any (n m : Int) (w : World) : Calls Yba.prog 17 #[tn n, tn m] w fun e w' => e = .returned (.bool (decide (n < m))) ∧ Below w.heap.size w w' := by
  have := before_core (n % 1000000000) (n / 1000000000) (m % 1000000000) (m / 1000000000) w (by omega) (by omega) (by omega) (by omega)
  have e : (decide (n / 1000000000 < m / 1000000000) || (n / 1000000000 == m / 1000000000 && decide (n % 1000000000 < m % 1000000000))) = decide (n < m) := by
    by_cases h : n < m
    · rw [decide_eq_true h]
      by_cases h1 : n / 1000000000 < m / 1000000000
      · simp [h1]
      · have h2 : n / 1000000000 = m / 1000000000 := by omega
        have h3 : n % 1000000000 < m % 1000000000 := by omega
        simp [h2, h3]
    · rw [decide_eq_false h]
      have h1 : ¬ n / 1000000000 < m / 1000000000 := by omega
      by_cases h2 : n / 1000000000 = m / 1000000000
      · have h3 : ¬ n % 1000000000 < m % 1000000000 := by omega
        simp [h2, h3]
      · simp [h1, h2]
  rw [e] at this
  exact this

set_option maxHeartbeats 1000000 in
theorem equal_same (x s : Int) (w : World) (hx0 : 0 ≤ x) (hx1 : x < 1000000000) :
    Calls Yba.prog 14 #[tv x s, tv x s] w fun e w' => e = .returned (.bool true) ∧ Below w.heap.size w w' := by
  have e0 := b_two x x hx0 hx1 hx0 hx1
  have H1 := hide (sec_any w.heap.size 0 x s ((w.alloc (cells3 x s)).alloc (cells3 x s)) (by simp) (by simp) hx0 hx1)
  have H2 := hide (sec_any (w.heap.size + 1) 0 x s ((w.alloc (cells3 x s)).alloc (cells3 x s)) (by simp) (by simp) hx0 hx1)
  have H3 := hide (nsec_any w.heap.size 0 x ((w.alloc (cells3 x s)).alloc (cells3 x s)) (by simp) hx0 hx1)
  have H4 := hide (nsec_any (w.heap.size + 1) 0 x ((w.alloc (cells3 x s)).alloc (cells3 x s)) (by simp) hx0 hx1)
  go_enter Yba.func14, Yba.ntmps14
  go_wp2_with fail
  refine (unhide H1).mono ?_
  rintro e w' ⟨rfl, rfl⟩
  go_wp2_with fail
  refine (unhide H2).mono ?_
  rintro e w' ⟨rfl, rfl⟩
  go_wp2_with fail
  refine (unhide H3).mono ?_
  rintro e w' ⟨rfl, rfl⟩
  go_wp2_with fail
  refine (unhide H4).mono ?_
  rintro e w' ⟨rfl, rfl⟩
  go_wp2
  go_ret
  exact ⟨rfl, ((Below.refl _ _).alloc (Nat.le_refl _) _).alloc (by simp) _⟩

theorem cn_any (s ns : Int) (w : World) (hs0 : -2147483648 ≤ s) (hs1 : s ≤ 2147483647) (hn0 : -2147483648 ≤ ns) (hn1 : ns ≤ 2147483647) :
    Calls Yba.prog 11 #[.int .i32 s, .int .i32 ns] w fun e w' => e = .returned (.int .i64 (s * 1000000000 + ns)) ∧ w' = w := by
  go_enter Yba.func11, Yba.ntmps11
  go_wp2
  go_ret
  exact ⟨rfl, rfl⟩

theorem ct_any (n : Int) (w : World) (hn0 : -4600000000000000000 ≤ n) (hn1 : n ≤ 4600000000000000000) :
    Calls Yba.prog 13 #[.int .i64 n] w fun e w' => e = .returned (tn n) ∧ Below w.heap.size w w' := by
  have HA := hide (add_any 0 n (w.alloc (cells3 0 0)) (by omega) (by omega) hn0 hn1)
  have z : (0 : Int) % 1000000000 = 0 := rfl
  rw [Int.zero_add] at HA
  go_enter Yba.func13, Yba.ntmps13
  go_wp2_with fail
  refine (unhide HA).mono ?_
  rintro e w' ⟨rfl, hb⟩
  have hc : w'.heap[w.heap.size]? = some (cells3 0 0) := (hb.block _ (by simp)).trans (heap_alloc_new _ _)
  have HB : Hid (Below w.heap.size w w') := ((Below.refl _ _).alloc (Nat.le_refl _) (cells3 0 0)).trans (Joins.below_le hb (by simp))
  have HC := hide hc
  clear hb hc HA
  go_wp2_with (refine wpList_store_row rfl 61 (.tmp 2) (.tmp 5) rfl w.heap.size #[.int .u64 (n % 1000000000), .int .i64 (n / 1000000000), .pointer none] rfl rfl 61 _ (unhide HC) (by kernel_rfl) rfl (by kernel_rfl) ?_)
  exact bodyPost_ret (v := tn n) (by exact results_cell_row rfl _ _ w.heap.size 61 _ (0, 0) _ rfl (setRow_heap _ _ _ _ _ _ (unhide HC)) Yba.underlying61 rfl (by kernel_rfl)) rfl ⟨rfl, below_setRow (unhide HB) (Nat.le_refl _) _⟩

theorem chain {w W w' : World} (h : Below w.heap.size w W) (hb : Below W.heap.size W w') : Below w.heap.size w w' := h.trans (Joins.below_le hb h.size)

set_option maxHeartbeats 1000000 in
theorem sub_any (n m : Int) (w : World) (hn0 : -2200000000000000000 ≤ n) (hn1 : n ≤ 2200000000000000000) (hm0 : -2200000000000000000 ≤ m) (hm1 : m ≤ 2200000000000000000) :
    Calls Yba.prog 19 #[tn n, tn m] w fun e w' => e = .returned (.int .i64 (n - m)) ∧ Below w.heap.size w w' := by
  obtain ⟨x, hx⟩ : ∃ x, x = n % 1000000000 := ⟨_, rfl⟩
  obtain ⟨s, hs⟩ : ∃ s, s = n / 1000000000 := ⟨_, rfl⟩
  obtain ⟨y, hy⟩ : ∃ y, y = m % 1000000000 := ⟨_, rfl⟩
  obtain ⟨t, ht⟩ : ∃ t, t = m / 1000000000 := ⟨_, rfl⟩
  have hx0 : 0 ≤ x := by omega
  have hx1 : x < 1000000000 := by omega
  have hy0 : 0 ≤ y := by omega
  have hy1 : y < 1000000000 := by omega
  have hs0 : -3000000000 ≤ s := by omega
  have hs1 : s ≤ 3000000000 := by omega
  have ht0 : -3000000000 ≤ t := by omega
  have ht1 : t ≤ 3000000000 := by omega
  have hd : (s - t) * 1000000000 + (x - y) = n - m := by omega
  have e0 := b_two x y hx0 hx1 hy0 hy1
  have H1 := hide (sec_any w.heap.size 0 x s ((w.alloc (cells3 x s)).alloc (cells3 y t)) (by simp) (by simp) hx0 hx1)
  have H2 := hide (sec_any (w.heap.size + 1) 0 y t ((w.alloc (cells3 x s)).alloc (cells3 y t)) (by simp) (by simp) hy0 hy1)
  have H3 := hide (nsec_any w.heap.size 0 x ((w.alloc (cells3 x s)).alloc (cells3 y t)) (by simp) hx0 hx1)
  have H4 := hide (nsec_any (w.heap.size + 1) 0 y ((w.alloc (cells3 x s)).alloc (cells3 y t)) (by simp) hy0 hy1)
  show Calls Yba.prog 19 #[tv (n % 1000000000) (n / 1000000000), tv (m % 1000000000) (m / 1000000000)] w _
  rw [← hx, ← hs, ← hy, ← ht]
  have HX := hide hx
  have HS := hide hs
  have HY := hide hy
  have HT := hide ht
  have HADD : Hid (∀ W : World, Calls Yba.prog 18 #[tv y t, .int .i64 (n - m)] W fun e w' => e = .returned (tv x s) ∧ Below W.heap.size W w') := fun W => by
    have := add_any m (n - m) W (by omega) (by omega) (by omega) (by omega)
    rw [show m + (n - m) = n by omega] at this
    rw [hx, hs, hy, ht]
    exact this
  clear hx hs hy ht
  go_enter Yba.func19, Yba.ntmps19
  go_wp2_with fail
  refine (unhide H1).mono ?_
  rintro e w' ⟨rfl, rfl⟩
  go_wp2_with fail
  refine (unhide H2).mono ?_
  rintro e w' ⟨rfl, rfl⟩
  go_wp2_with fail
  refine (unhide H3).mono ?_
  rintro e w' ⟨rfl, rfl⟩
  go_wp2_with fail
  refine (unhide H4).mono ?_
  rintro e w' ⟨rfl, rfl⟩
  go_wp2
  go_region_with (first
    | (go_at_call 18; refine (unhide HADD _).mono ?_; rintro e w' ⟨rfl, hb⟩; have d0 : w'.cell? ⟨w.heap.size, 0, none⟩ = some (.int .u64 x) := (hb.cell (by simp; omega)).trans (by simp); have d1 : w'.cell? ⟨w.heap.size, 1, none⟩ = some (.int .i64 s) := (hb.cell (by simp; omega)).trans (by simp); have d2 : w'.cell? ⟨w.heap.size, 2, none⟩ = some (.pointer none) := (hb.cell (by simp; omega)).trans (by simp))
    | (go_at_call 14; refine (equal_same x s _ hx0 hx1).mono ?_; rintro e w'' ⟨rfl, hb2⟩))
  all_goals go_wp2
  all_goals go_ret
  all_goals exact ⟨rfl, chain ((((Below.refl _ _).alloc (Nat.le_refl _) _).alloc (by simp) _).drew) (chain hb hb2)⟩
end Go.Proofs.Ybulkeine.lawC
