/-
  LawS6738CWhole where the entries are nil.
-/
import Derived.Test.YbulkeineCDue
import Derived.Deep.CutBlock
namespace Go.Proofs.Ybulkeine.lawC
open Go.Proofs.Ybulkeine.lawA (hide unhide Str noStr grown_restore grown_trans)
open Go.ChangeShapes Go.WideShapes Go.ChangeAt Go.RowKit

theorem look_nil {a b : Str} (ha : a.size ≤ maxLen) (hb : b.size ≤ maxLen) (W : World) : (Instr.lookup 48 (.map none) (kv a b) false).run Yba.prog W = .ok (fv 0 0) W := by
  have hz : (zeroValue 65).run Yba.prog W = .ok (fv 0 0) W := by kernel_rfl
  simp [Instr.lookup, run_underlying Yba.underlying48, law53.check W _ (key_mk ha hb), Instr.findKey, Instr.findNow, run_underlying Yba.underlying53, hz, Result.andThen]

theorem build_nil (w : World) : Calls Yba.prog 10 #[.slice none 0 0] w fun e w' => e = .returned (.map none) ∧ w' = w := by
  have q1 := fun (a : Option Addr) (n c : Nat) (w : World) => Lib.run_eql_slice_nil (P := Yba.prog) w 46 55 a n c 0 0 Yba.underlying46
  go_enter Yba.func10, Yba.ntmps10
  go_wp2
  go_ret
  exact ⟨rfl, rfl⟩

structure Sn (w W : World) (S B : Nat) (prune : Int) (a b : Str) : Prop where
  bel : Below w.heap.size w W
  rs : W.heap[S]? = some (.cells (mrk (.map none) prune) 51 (0, 0))
  rk : W.heap[B]? = some (.cells #[.string a, .string b] 53 (0, 0))
section
variable {w W W' : World} {S B : Nat} {prune : Int} {a b : Str}
theorem Sn.below (hb : Below W.heap.size W W') (h : Hid (Sn w W S B prune a b)) : Hid (Sn w W' S B prune a b) :=
  ⟨chain h.bel hb, (hb.block S (Array.getElem?_eq_some_iff.1 h.rs).1).trans h.rs, (hb.block B (Array.getElem?_eq_some_iff.1 h.rk).1).trans h.rk⟩
theorem Sn.drew' (h : Hid (Sn w W S B prune a b)) : Hid (Sn w W.drew S B prune a b) := Sn.below ((Below.refl _ _).drew) h
theorem Sn.cells (h : Hid (Sn w W S B prune a b)) : W.cell? ⟨B, 0, none⟩ = some (.string a) ∧ W.cell? ⟨B, 1, none⟩ = some (.string b) ∧ Hid (Sn w W S B prune a b) :=
  ⟨cell_of_row W B 0 _ _ _ h.rk, cell_of_row W B 1 _ _ _ h.rk, h⟩
theorem Sn.of_all {p0 p1 : Prop} (hS : p0 ∧ p1 ∧ Hid (Sn w W S B prune a b)) : Hid (Sn w W S B prune a b) := hS.2.2
theorem Sn.due (ha : a.size ≤ maxLen) (hb : b.size ≤ maxLen) (h : Hid (Sn w W S B prune a b)) {N T : Int} (hN : -2200000000000000000 ≤ N ∧ N ≤ 2200000000000000000) (hT : -2200000000000000000 ≤ T ∧ T ≤ 2200000000000000000) :
    Calls Yba.prog 12 #[.pointer (some ⟨S, 0, none⟩), kv a b, tn N, .int .i64 T] W fun e w' => e = .returned (.bool (decide (0 < N + T) || decide (10000000000 ≤ N - 0))) ∧ Below W.heap.size W w' := by
  refine (due_any S (.map none) prune a b 0 0 N T W h.rs (fun W' _ => look_nil ha hb W') (by omega) hN hT).mono ?_
  rintro e w' ⟨rfl, hg⟩
  exact ⟨rfl, hg.os, hg.tape, hg.output, hg.size, fun i hi => hg.block i hi (by simp)⟩
end

set_option maxRecDepth 100000 in
set_option maxHeartbeats 2000000 in
theorem law_nil (own cont : Str) (p : Nat) (s1 s2 s3 s4 prune : Int) (w : World)
    (ho : own.size ≤ maxLen) (hc : cont.size ≤ maxLen) (h1 : -2147483648 ≤ s1 ∧ s1 ≤ 2147483647) (h2 : -2147483648 ≤ s2 ∧ s2 ≤ 2147483647) (h3 : -2147483648 ≤ s3 ∧ s3 ≤ 2147483647) (h4 : -2147483648 ≤ s4 ∧ s4 ≤ 2147483647) :
    Calls Yba.prog 5 #[.slice none 0 0, .string own, .string cont, .int .u8 p, .int .i32 s1, .int .i32 s2, .int .i32 s3, .int .i32 s4, .int .i64 prune] w fun e w' => e = .returned (.bool true) ∧ Below w.heap.size w w' := by
  go_enter Yba.func5, Yba.ntmps5
  go_wp2_with fail
  refine (build_nil _).mono ?_
  rintro e w1 ⟨rfl, hw1⟩
  replace hw1 := hw1.symm
  subst hw1
  go_wp2_with fail
  refine (build_nil _).mono ?_
  rintro e w1 ⟨rfl, rfl⟩
  go_wp2_with fail
  refine wp_loop_rounds 1 ?_
  rw [rounds_succ]
  have hNb := ns_bounds h1 h2
  have hTb := ns_bounds h3 h4
  go_wp2_with fail
  refine (cn_ns _ _ _ h1.1 h1.2 h2.1 h2.2).mono ?_
  rintro e w' ⟨rfl, rfl⟩
  go_wp2_with fail
  refine (cn_ns _ _ _ h3.1 h3.2 h4.1 h4.2).mono ?_
  rintro e w' ⟨rfl, rfl⟩
  generalize nsOf s1 s2 = N at *
  generalize nsOf s3 s4 = T at *
  obtain ⟨w3, hw3⟩ : ∃ w3, w3 = (w.alloc (.cells (mrk (.map none) prune) 51)).alloc (.cells #[.string own, .string cont] 53) := ⟨_, rfl⟩
  have HSN : Hid (Sn w w3 w.heap.size (w.heap.size + 1) prune own cont) := by rw [hw3]; exact ⟨Joins.below_alloc2 _ _ _, heap_alloc2_old _ _ _, heap_alloc2_new _ _ _⟩
  obtain ⟨S, hS⟩ : ∃ S, S = w.heap.size := ⟨_, rfl⟩
  go_upto_region 19 with (fail)
  rw [← hw3]
  rw [← hS] at HSN ⊢
  clear hw3 hS
  go_cut [29] (fun v wd => v = .bool (decide (0 < N + T) || decide (10000000000 ≤ N - 0)) ∧ wd = w3)
  case first =>
    by_cases hl : 0 < N + T
    · go_wp2
      go_meet
      case rel => exact ⟨by simp [hl], by first | rfl | trivial⟩
    · have hl' : decide (0 < N + T) = false := by simpa using hl
      go_wp2
      go_meet
      case rel => exact ⟨by simp [hl'], by first | rfl | trivial⟩
  case rest =>
    obtain ⟨rfl, rfl⟩ := hcut
    obtain ⟨tN, htN⟩ : ∃ tN, tN = tn N := ⟨_, rfl⟩
    obtain ⟨wt, hwt⟩ : ∃ wt, wt = (decide (0 < N + T) || decide (10000000000 ≤ N - 0)) := ⟨_, rfl⟩
    have HCT : Hid (∀ W : World, Calls Yba.prog 13 #[.int .i64 N] W fun e w' => e = .returned tN ∧ Below W.heap.size W w') := fun W => by rw [htN]; exact ct_any N W (by omega) (by omega)
    have HDUE : Hid (∀ W : World, Hid (Sn w W S (S + 1) prune own cont) → Calls Yba.prog 12 #[.pointer (some ⟨S, 0, none⟩), kv own cont, tN, .int .i64 T] W fun e w' => e = .returned (.bool wt) ∧ Below W.heap.size W w') := fun W hW => by
      rw [htN, hwt]; exact Sn.due ho hc hW hNb hTb
    obtain ⟨y0, y1, _⟩ := Sn.cells HSN
    rw [← hwt]
    clear hwt htN
    go_wp2_with fail
    go_region_held3 (fun W => W.cell? ⟨S + 1, 0, none⟩ = some (.string own) ∧ W.cell? ⟨S + 1, 1, none⟩ = some (.string cont) ∧ Hid (Sn w W S (S + 1) prune own cont))
      (first | (refine Sn.cells (Sn.drew' ?_); assumption) | (refine Sn.cells (Sn.below hb' ?_); apply Sn.of_all; assumption) | (refine Sn.cells ?_; apply Sn.of_all; assumption) | (refine Sn.cells ?_; assumption))
      (first
        | (go_at_call 13; refine (unhide HCT _).mono ?_; rintro e w' ⟨rfl, hb'⟩)
        | (go_at_call 12; refine (unhide HDUE _ (by apply Sn.of_all; assumption)).mono ?_; rintro e w' ⟨rfl, hb'⟩))
    rename_i hH
    have HST := Sn.of_all hH
    clear hH HSN HCT HDUE y0 y1 hb'
    have j2 : w'.cell? ⟨S, 2, none⟩ = some (.map none) := cell_of_row w' S 2 _ _ _ (unhide HST).rs
    have j3 : w'.cell? ⟨S, 3, none⟩ = some (.int .i64 prune) := cell_of_row w' S 3 _ _ _ (unhide HST).rs
    have e46 := fun (w : World) => Lib.run_eql_slice_nil (P := Yba.prog) w 46 55 none 0 0 0 0 Yba.underlying46
    have e48 := fun (w : World) => run_eql_map_nil (P := Yba.prog) w _ _ _ none Yba.underlying48
    go_wp2
    go_ret
    exact ⟨rfl, (unhide HST).bel⟩
end Go.Proofs.Ybulkeine.lawC
