/-
  (*marking).due: the lock by the library's contracts, the look-up by a premise, the times by their contracts.
-/
import Derived.Test.YbulkeineCBuild
import Derived.Test.YbulkeineATake
namespace Go.Proofs.Ybulkeine.lawC
open Go.Proofs.Ybulkeine.lawA (hide unhide Str noStr grown_restore grown_trans)
open Go.ChangeShapes Go.WideShapes Go.ChangeAt Go.RowKit
open Go.MuLone

abbrev mrk (m : Value) (prune : Int) : Array Value := #[.int .i32 0, .int .u32 0, m, .int .i64 prune]

/-- What stands while the lock is held: old blocks, the receiver, the key's and the time's own blocks. -/
structure Du (w W : World) (S K : Nat) (mv : Value) (prune : Int) (a b : Str) (x s : Int) : Prop where
  k : K = w.heap.size
  lt : S < K
  old : ∀ i, i < K → i ≠ S → W.heap[i]? = w.heap[i]?
  rs : W.heap[S]? = some (.cells ((mrk mv prune).setIfInBounds 0 (.int .i32 1)) 51 (0, 0))
  rk : W.heap[K]? = some (.cells #[.string a, .string b] 53 (0, 0))
  rn : W.heap[K + 1]? = some (cells3 x s)

/-- What stands in the last region. -/
structure Dv (w4 W : World) (q K : Nat) (xa sa xu su x s : Int) : Prop where
  rq : W.heap[q]? = some (.cells #[.int .u64 xa, .int .i64 sa, .pointer none, .int .u64 xu, .int .i64 su, .pointer none] 65 (0, 0))
  rk : W.heap[K]? = some (.cells #[.int .u64 x, .int .i64 s, .pointer none] 61 (0, 0))
  bel : Below w4.heap.size w4 W
section
variable {w4 W w' : World} {q K : Nat} {xa sa xu su x s : Int}
theorem Dv.cells (h : Hid (Dv w4 W q K xa sa xu su x s)) : W.cell? ⟨q, 0, none⟩ = some (.int .u64 xa) ∧ W.cell? ⟨q, 1, none⟩ = some (.int .i64 sa) ∧ W.cell? ⟨q, 2, none⟩ = some (.pointer none) ∧
    W.cell? ⟨q, 3, none⟩ = some (.int .u64 xu) ∧ W.cell? ⟨q, 4, none⟩ = some (.int .i64 su) ∧ W.cell? ⟨q, 5, none⟩ = some (.pointer none) ∧
    W.cell? ⟨K, 0, none⟩ = some (.int .u64 x) ∧ W.cell? ⟨K, 1, none⟩ = some (.int .i64 s) ∧ W.cell? ⟨K, 2, none⟩ = some (.pointer none) ∧ Hid (Dv w4 W q K xa sa xu su x s) :=
  ⟨cell_of_row W q 0 _ _ _ h.rq, cell_of_row W q 1 _ _ _ h.rq, cell_of_row W q 2 _ _ _ h.rq, cell_of_row W q 3 _ _ _ h.rq, cell_of_row W q 4 _ _ _ h.rq, cell_of_row W q 5 _ _ _ h.rq,
    cell_of_row W K 0 _ _ _ h.rk, cell_of_row W K 1 _ _ _ h.rk, cell_of_row W K 2 _ _ _ h.rk, h⟩
theorem Dv.of_all {p0 p1 p2 p3 p4 p5 p6 p7 p8 : Prop} (hS : p0 ∧ p1 ∧ p2 ∧ p3 ∧ p4 ∧ p5 ∧ p6 ∧ p7 ∧ p8 ∧ Hid (Dv w4 W q K xa sa xu su x s)) : Hid (Dv w4 W q K xa sa xu su x s) := hS.2.2.2.2.2.2.2.2.2
theorem Dv.drew' (h : Hid (Dv w4 W q K xa sa xu su x s)) : Hid (Dv w4 W.drew q K xa sa xu su x s) := ⟨h.rq, h.rk, h.bel.drew⟩
theorem Dv.below (hb : Below W.heap.size W w') (h : Hid (Dv w4 W q K xa sa xu su x s)) : Hid (Dv w4 w' q K xa sa xu su x s) :=
  ⟨(hb.block q (Array.getElem?_eq_some_iff.1 h.rq).1).trans h.rq, (hb.block K (Array.getElem?_eq_some_iff.1 h.rk).1).trans h.rk, chain h.bel hb⟩
end

theorem door {w W : World} {S : Nat} {mv : Value} {prune : Int} (hS : w.heap[S]? = some (.cells (mrk mv prune) 51 (0, 0))) (hg : (w.setCell ⟨S, 0, none⟩ (.int .i32 1)).grownBy W none) :
    W.cell? ⟨S, 0, none⟩ = some (.int .i32 1) ∧ W.frozen? ⟨S, 0, none⟩ = false ∧ w.grownBy (W.setCell ⟨S, 0, none⟩ (.int .i32 0)) none := by
  have hS1 := Joins.block_setCell (i := 0) hS (.int .i32 1)
  have hW := (hg.block S (Array.getElem?_eq_some_iff.1 hS1).1 (by simp)).trans hS1
  exact ⟨(cell_of_row W S 0 _ _ _ hW).trans rfl, frozen_of_row _ _ _ _ _ hW, grown_restore hS rfl (by simp) hg⟩
theorem grown_below {a w4 W : World} (h : a.grownBy w4 none) (hb : Below w4.heap.size w4 W) : a.grownBy W none :=
  grown_trans h ⟨hb.os, hb.tape, hb.output, hb.size, fun i hi _ => hb.block i hi⟩

set_option maxHeartbeats 1000000 in
set_option maxRecDepth 100000 in
theorem due_any (S : Nat) (mv : Value) (prune : Int) (a b : Str) (n m N T : Int) (w : World) (hS : w.heap[S]? = some (.cells (mrk mv prune) 51 (0, 0)))
    (hl : ∀ W : World, (∀ i, i < w.heap.size → i ≠ S → W.heap[i]? = w.heap[i]?) → (Instr.lookup 48 mv (kv a b) false).run Yba.prog W = .ok (fv n m) W)
    (hn : -2200000000000000000 ≤ n ∧ n ≤ 2200000000000000000) (hN : -2200000000000000000 ≤ N ∧ N ≤ 2200000000000000000) (hT : -2200000000000000000 ≤ T ∧ T ≤ 2200000000000000000) :
    Calls Yba.prog 12 #[.pointer (some ⟨S, 0, none⟩), kv a b, tn N, .int .i64 T] w fun e w' => e = .returned (.bool (decide (m < N + T) || decide (10000000000 ≤ N - n))) ∧ w.grownBy w' none := by
  obtain ⟨x, hx⟩ : ∃ x, x = N % 1000000000 := ⟨_, rfl⟩
  obtain ⟨s, hs⟩ : ∃ s, s = N / 1000000000 := ⟨_, rfl⟩
  have hSl : S < w.heap.size := (Array.getElem?_eq_some_iff.1 hS).1
  obtain ⟨w2, hw2⟩ : ∃ w2, w2 = (w.alloc (.cells #[.string a, .string b] 53)).alloc (cells3 x s) := ⟨_, rfl⟩
  have hS2 : w2.heap[S]? = some (.cells (mrk mv prune) 51 (0, 0)) := by
    rw [hw2, heap_alloc_old _ _ (by simp; omega), heap_alloc_old _ _ hSl]; exact hS
  have c0 : w2.cell? ⟨S, 0, none⟩ = some (.int .i32 0) := cell_of_row w2 S 0 _ _ _ hS2
  have f0 : w2.frozen? ⟨S, 0, none⟩ = false := frozen_of_row _ _ _ _ _ hS2
  have LF := hide (lock_free Yba.muLib ⟨S, 0, none⟩ w2 c0 f0)
  rw [hw2] at LF
  show Calls Yba.prog 12 #[.pointer (some ⟨S, 0, none⟩), kv a b, tv (N % 1000000000) (N / 1000000000), .int .i64 T] w _
  rw [← hx, ← hs]
  have HX := hide hx
  have HSX := hide hs
  clear hx hs
  go_enter_defers Yba.func12, Yba.ntmps12
  go_wp2_with fail
  refine (unhide LF).mono ?_
  rintro e w3 ⟨rfl, hw3⟩
  obtain ⟨K, hK⟩ : ∃ K, K = w.heap.size := ⟨_, rfl⟩
  have hdu : Du w w3 S K mv prune a b x s := by
    rw [← hw2] at hw3
    subst hw3
    have e1 : ∀ i, i ≠ S → (w2.setCell ⟨S, 0, none⟩ (.int .i32 1)).heap[i]? = w2.heap[i]? := fun i hi => Below.heap_setCell _ _ _ _ hi
    refine ⟨hK, by rw [hK]; exact hSl, fun i hi hne => ?_, Joins.block_setCell (i := 0) hS2 _, ?_, ?_⟩
    · rw [e1 i hne, hw2, heap_alloc_old _ _ (by simp; omega), heap_alloc_old _ _ (by omega)]
    · rw [e1 K (by omega), hw2, heap_alloc_old _ _ (by simp; omega), hK]; exact heap_alloc_new _ _
    · rw [e1 (K + 1) (by omega), hw2, show K + 1 = (w.alloc (.cells #[.string a, .string b] 53)).heap.size by simp [hK]]; exact heap_alloc_new _ _
  have hG3 : (w.setCell ⟨S, 0, none⟩ (.int .i32 1)).grownBy w3 none := by
    rw [← hw2] at hw3
    subst hw3
    subst hw2
    refine ⟨rfl, rfl, rfl, by simp [World.setCell]; omega, fun i hi _ => ?_⟩
    have hi' : i < w.heap.size := by simpa [World.setCell] using hi
    by_cases his : i = S
    · subst his
      exact (Joins.block_setCell (i := 0) hS2 _).trans (Joins.block_setCell (i := 0) hS _).symm
    · rw [heap_setCell_other _ _ _ _ (by exact his), heap_setCell_other _ _ _ _ (by exact his), heap_alloc_old _ _ (by simp; omega), heap_alloc_old _ _ hi']
  have HS := hide hS
  have HL : Hid (∀ W : World, Du w W S K mv prune a b x s → (Instr.lookup 48 mv (kv a b) false).run Yba.prog W = .ok (fv n m) W) := fun W hW => hl W (fun i hi hne => hW.old i (by rw [hK]; exact hi) hne)
  have HDU := hide hdu
  have hS3 : S < w3.heap.size := (Array.getElem?_eq_some_iff.1 hdu.rs).1
  have hK3 : K < w3.heap.size := (Array.getElem?_eq_some_iff.1 hdu.rk).1
  have hD : ∀ W : World, (∀ i, i < w3.heap.size → W.heap[i]? = w3.heap[i]?) → Hid (W.cell? ⟨S, 2, none⟩ = some mv ∧ W.cell? ⟨K, 0, none⟩ = some (.string a) ∧ W.cell? ⟨K, 1, none⟩ = some (.string b) ∧ (Instr.lookup 48 mv (kv a b) false).run Yba.prog W = .ok (fv n m) W) := fun W hW =>
    ⟨(cell_of_row W S 2 _ _ _ ((hW S hS3).trans hdu.rs)).trans rfl, cell_of_row W K 0 _ _ _ ((hW K hK3).trans hdu.rk), cell_of_row W K 1 _ _ _ ((hW K hK3).trans hdu.rk),
      hl W (fun i hi hne => (hW i (by omega)).trans (hdu.old i (by rw [hK]; exact hi) hne))⟩
  obtain ⟨j0, j1, j2, j3⟩ := unhide (hD w3 (fun i _ => rfl))
  obtain ⟨k0, k1, k2, k3⟩ := unhide (hD w3.drew (fun i _ => rfl))
  have l0 := fun o => (unhide (hD (w3.alloc o) (fun i hi => heap_alloc_old _ _ hi))).1
  have l1 := fun o => (unhide (hD (w3.alloc o) (fun i hi => heap_alloc_old _ _ hi))).2.1
  have l2 := fun o => (unhide (hD (w3.alloc o) (fun i hi => heap_alloc_old _ _ hi))).2.2.1
  have l3 := fun o => (unhide (hD (w3.alloc o) (fun i hi => heap_alloc_old _ _ hi))).2.2.2
  have m3 := fun o => (unhide (hD (w3.alloc o).drew (fun i hi => heap_alloc_old _ _ hi))).2.2.2
  have n3 := fun o => (unhide (hD (w3.drew.alloc o) (fun i hi => heap_alloc_old w3.drew _ hi))).2.2.2
  rw [← hK]
  have HK := hide hK
  clear hK hw3 hdu hl hS hS2 hw2 c0 f0 LF hSl hD
  go_wp2
  go_region
  clear j0 j1 j2 j3 k0 k1 k2 k3 l0 l1 l2 l3 m3 n3
  obtain ⟨xa, hxa⟩ : ∃ xa, xa = n % 1000000000 := ⟨_, rfl⟩
  obtain ⟨sa, hsa⟩ : ∃ sa, sa = n / 1000000000 := ⟨_, rfl⟩
  obtain ⟨xu, hxu⟩ : ∃ xu, xu = m % 1000000000 := ⟨_, rfl⟩
  obtain ⟨su, hsu⟩ : ∃ su, su = m / 1000000000 := ⟨_, rfl⟩
  obtain ⟨q, hq⟩ : ∃ q, q = w3.heap.size := ⟨_, rfl⟩
  obtain ⟨w4, hw4⟩ : ∃ w4, w4 = (w3.alloc (.cells #[.int .u64 (n % 1000000000), .int .i64 (n / 1000000000), .pointer none, .int .u64 (m % 1000000000), .int .i64 (m / 1000000000), .pointer none] 65)).drew := ⟨_, rfl⟩
  obtain ⟨tN, htN⟩ : ∃ tN, tN = tn (N + T) := ⟨_, rfl⟩
  have HADD : Hid (∀ W : World, Calls Yba.prog 18 #[.agg #[.int .u64 x, .int .i64 s, .pointer none], .int .i64 T] W fun e w' => e = .returned tN ∧ Below W.heap.size W w') := fun W => by
    rw [htN, unhide HX, unhide HSX]; exact add_any N T W (by omega) (by omega) (by omega) (by omega)
  have HBEF : Hid (∀ W : World, Calls Yba.prog 17 #[.agg #[.int .u64 xu, .int .i64 su, .pointer none], tN] W fun e w' => e = .returned (.bool (decide (m < N + T))) ∧ Below W.heap.size W w') := fun W => by
    rw [htN, hxu, hsu]; exact before_any m (N + T) W
  have HSUB : Hid (∀ W : World, Calls Yba.prog 19 #[.agg #[.int .u64 x, .int .i64 s, .pointer none], .agg #[.int .u64 xa, .int .i64 sa, .pointer none]] W fun e w' => e = .returned (.int .i64 (N - n)) ∧ Below W.heap.size W w') := fun W => by
    rw [hxa, hsa, unhide HX, unhide HSX]; exact sub_any N n W (by omega) (by omega) (by omega) (by omega)
  have HDV : Hid (Dv w4 w4 q (K + 1) xa sa xu su x s) := ⟨by rw [hw4, hxa, hsa, hxu, hsu, hq]; exact heap_alloc_new _ _, by rw [hw4]; exact (heap_alloc_old w3 _ (Array.getElem?_eq_some_iff.1 (unhide HDU).rn).1).trans (unhide HDU).rn, Below.refl _ _⟩
  obtain ⟨v0, v1, v2, v3, v4, v5, v6, v7, v8, _⟩ := Dv.cells HDV
  have HG4 : Hid ((w.setCell ⟨S, 0, none⟩ (.int .i32 1)).grownBy w4 none) := by
    rw [hw4]; exact grown_trans hG3 ⟨rfl, rfl, rfl, by simp, fun i hi _ => heap_alloc_old w3 _ hi⟩
  rw [← hw4, ← hq]
  clear hxa hsa hxu hsu hq hw4 htN HDU hS3 hK3 hG3 HL HK
  go_wp2
  by_cases hlt : m < N + T
  · have hd : decide (m < N + T) = true := by simp [hlt]
    rw [hd] at HBEF
    refine wp_region_noPanic ?_
    first
    | (go_region_with (first
        | (go_at_call 18; refine (unhide HADD _).mono ?_; rintro e w' ⟨rfl, hb⟩; have HD1 : Hid (Dv w4 w' q (K + 1) xa sa xu su x s) := Dv.below hb (by first | assumption | (refine Dv.drew' ?_; assumption)); obtain ⟨a0, a1, a2, a3, a4, a5, a6, a7, a8, _⟩ := Dv.cells HD1)
        | (go_at_call 17; refine (unhide HBEF _).mono ?_; rintro e w' ⟨rfl, hb⟩; have HD2 : Hid (Dv w4 w' q (K + 1) xa sa xu su x s) := Dv.below hb (by first | assumption | (refine Dv.drew' ?_; assumption)); obtain ⟨b0, b1, b2, b3, b4, b5, b6, b7, b8, _⟩ := Dv.cells HD2)))
    | fail "not through"
    all_goals refine NoPanic.normal ?_
    all_goals (clear HADD HBEF HSUB v0 v1 v2 v3 v4 v5 v6 v7 v8)
    all_goals go_wp2
    all_goals
      refine leaves_cons (f := 16) (args := #[.pointer (some ⟨S, 0, none⟩)]) (by simp) (by simp [go_sem]) ?_
      obtain ⟨z0, z1, z2⟩ := door (unhide HS) (grown_below (unhide HG4) (unhide HD2).bel)
      refine (unlock_deferred Yba.muLib ⟨S, 0, none⟩ .returning _ z0 z1).mono ?_
      rintro e u' w'' ⟨rfl, rfl, rfl⟩
      exact ⟨_, results_tmp rfl _ _ _, by rw [hd]; rfl, z2⟩
  · have hd : decide (m < N + T) = false := by simpa using hlt
    rw [hd] at HBEF
    go_region_held3 (fun W => W.cell? ⟨q, 0, none⟩ = some (.int .u64 xa) ∧ W.cell? ⟨q, 1, none⟩ = some (.int .i64 sa) ∧ W.cell? ⟨q, 2, none⟩ = some (.pointer none) ∧
        W.cell? ⟨q, 3, none⟩ = some (.int .u64 xu) ∧ W.cell? ⟨q, 4, none⟩ = some (.int .i64 su) ∧ W.cell? ⟨q, 5, none⟩ = some (.pointer none) ∧
        W.cell? ⟨K + 1, 0, none⟩ = some (.int .u64 x) ∧ W.cell? ⟨K + 1, 1, none⟩ = some (.int .i64 s) ∧ W.cell? ⟨K + 1, 2, none⟩ = some (.pointer none) ∧ Hid (Dv w4 W q (K + 1) xa sa xu su x s))
      (first | (refine Dv.cells (Dv.drew' ?_); assumption) | (refine Dv.cells (Dv.below hb ?_); apply Dv.of_all; assumption) | (refine Dv.cells ?_; apply Dv.of_all; assumption) | (refine Dv.cells ?_; assumption))
      (first
        | (go_at_call 18; refine (unhide HADD _).mono ?_; rintro e w' ⟨rfl, hb⟩)
        | (go_at_call 17; refine (unhide HBEF _).mono ?_; rintro e w' ⟨rfl, hb⟩)
        | (go_at_call 19; refine (unhide HSUB _).mono ?_; rintro e w' ⟨rfl, hb⟩))
    rename_i hH
    have HD2 := Dv.of_all hH
    clear hH HADD HBEF HSUB v0 v1 v2 v3 v4 v5 v6 v7 v8
    go_wp2
    refine leaves_cons (f := 16) (args := #[.pointer (some ⟨S, 0, none⟩)]) (by simp) (by simp [go_sem]) ?_
    obtain ⟨z0, z1, z2⟩ := door (unhide HS) (grown_below (unhide HG4) (unhide HD2).bel)
    refine (unlock_deferred Yba.muLib ⟨S, 0, none⟩ .returning _ z0 z1).mono ?_
    rintro e u' w'' ⟨rfl, rfl, rfl⟩
    exact ⟨_, results_tmp rfl _ _ _, by rw [hd]; rfl, z2⟩
end Go.Proofs.Ybulkeine.lawC
