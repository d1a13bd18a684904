/-
  zzs6738cbuild: the map reads as the fold over the entries.
-/
import Derived.Test.YbulkeineCMap
import Derived.Deep.DeepCutAuto
namespace Go.Proofs.Ybulkeine.lawC
open Go.Proofs.Ybulkeine.lawA (hide unhide Str noStr)
open Go.ChangeShapes Go.WideShapes Go.ChangeAt Go.RowKit
open Go.Maps (Keyed IsMap Tidy)

abbrev OwnC (w : World) (B n : Nat) (D : DataW Unit) : Prop := w.ownsMap Yba.prog 53 markR B n D
def noEnt : Ent := ⟨noStr, noStr, 0, 0, 0, 0⟩
def EntAt (w : World) (b o : Nat) (e : Ent) : Prop :=
  w.cell? ⟨b, o, none⟩ = some (.string e.own) ∧ w.cell? ⟨b, o + 1, none⟩ = some (.string e.cont) ∧ w.cell? ⟨b, o + 2, none⟩ = some (.int .i32 e.a1) ∧ w.cell? ⟨b, o + 3, none⟩ = some (.int .i32 e.a2) ∧ w.cell? ⟨b, o + 4, none⟩ = some (.int .i32 e.u1) ∧ w.cell? ⟨b, o + 5, none⟩ = some (.int .i32 e.u2)
/-- v is a []ZzS6738CEntry value that reads as E in w. -/
def EntsAt (w : World) (v : Value) (E : List Ent) : Prop :=
  ∃ a cap, v = .slice a E.length cap ∧ (0 < E.length → ∃ b off, a = some ⟨b, off, none⟩ ∧ b < w.heap.size ∧ ∀ i, i < E.length → EntAt w b (off + i * 6) (E.getD i noEnt))

theorem EntAt.below {w w' : World} {b o B : Nat} {e : Ent} (h : EntAt w b o e) (hb : Below B w w') (hB : b < B) : EntAt w' b o e := by
  obtain ⟨h0, h1, h2, h3, h4, h5⟩ := h
  exact ⟨(hb.cell (by exact hB)).trans h0, (hb.cell (by exact hB)).trans h1, (hb.cell (by exact hB)).trans h2, (hb.cell (by exact hB)).trans h3, (hb.cell (by exact hB)).trans h4, (hb.cell (by exact hB)).trans h5⟩

structure Rest (w w' : World) (g k : Nat) (D : DataW Unit) (x : Ent) (N M : Int) : Prop where
  map : OwnC w' w.heap.size k D ∨ OwnC w' w.heap.size (k + 1) (D.put (kk x.own x.cont) (fd N M))
  bel : Below w.heap.size w w'
  lo : w.heap.size < g
  row : w'.heap[g]? = some (.cells #[.string x.own, .string x.cont, .int .i32 x.a1, .int .i32 x.a2, .int .i32 x.u1, .int .i32 x.u2] 55 (0, 0))
def nsOf (s ns : Int) : Int := s * 1000000000 + ns
theorem cn_ns (s ns : Int) (w : World) (hs0 : -2147483648 ≤ s) (hs1 : s ≤ 2147483647) (hn0 : -2147483648 ≤ ns) (hn1 : ns ≤ 2147483647) :
    Calls Yba.prog 11 #[.int .i32 s, .int .i32 ns] w fun e w' => e = .returned (.int .i64 (nsOf s ns)) ∧ w' = w := cn_any s ns w hs0 hs1 hn0 hn1
theorem ns_bounds {s ns : Int} (h : -2147483648 ≤ s ∧ s ≤ 2147483647) (k : -2147483648 ≤ ns ∧ ns ≤ 2147483647) : -2200000000000000000 ≤ nsOf s ns ∧ nsOf s ns ≤ 2200000000000000000 := by unfold nsOf; omega
/-- The world behind 'm[key] = val'. -/
noncomputable def upd (B : Nat) (key val : Value) (W : World) : World := match (Instr.mapUpdate 48 (.map (some B)) key val).run Yba.prog W with | .ok _ w2 => w2 | _ => W
theorem upd_own {W : World} {B k : Nat} {D : DataW Unit} {a b : Str} {n m : Int} (h : OwnC W B k D) (hk : k < maxLen) (ha : a.size ≤ maxLen) (hb : b.size ≤ maxLen) :
    (Instr.mapUpdate 48 (.map (some B)) (kv a b) (fv n m)).run Yba.prog W = .ok () (upd B (kv a b) (fv n m) W) ∧ OwnC (upd B (kv a b) (fv n m) W) B (k + 1) (D.put (kk a b) (fd n m)) ∧ W.grownBy (upd B (kv a b) (fv n m) W) (some B) := by
  obtain ⟨w2, hr, ho, hg⟩ := h.update (t := 48) (e := 65) law53 Yba.underlying48 hk (key_mk ha hb) (markR_mk n m)
  have e : upd B (kv a b) (fv n m) W = w2 := by unfold upd; rw [hr]
  rw [e]
  exact ⟨hr, ho, hg⟩

section
variable {w W w' : World} {g k : Nat} {D : DataW Unit} {x : Ent} {N M : Int}
theorem Rest.run2 (h : Rest w W g k D x N M) (hk : k + 1 < maxLen) (ho : x.ok) : (Instr.mapUpdate 48 (.map (some w.heap.size)) (kv x.own x.cont) (fv N M)).run Yba.prog W = .ok () (upd w.heap.size (kv x.own x.cont) (fv N M) W) ∧
    OwnC (upd w.heap.size (kv x.own x.cont) (fv N M) W) w.heap.size (k + 1) (D.put (kk x.own x.cont) (fd N M)) ∧ W.grownBy (upd w.heap.size (kv x.own x.cont) (fv N M) W) (some w.heap.size) := by
  rcases h.map with hm | hm
  · exact upd_own hm (by omega) ho.1 ho.2.1
  · obtain ⟨h1, h2, h3⟩ := upd_own (n := N) (m := M) hm hk ho.1 ho.2.1
    refine ⟨h1, ?_, h3⟩
    have hD : IsMap D := by
      cases D with
      | map es => exact ⟨es, rfl⟩
      | _ => obtain ⟨es, he⟩ := hm.isMap; cases he
    rw [put_twice hD (law53.key (key_mk ho.1 ho.2.1))] at h2
    exact (own_tight h2).mono hm.size_le
theorem Rest.next (h : Hid (Rest w W g k D x N M)) (hk : k + 1 < maxLen) (ho : x.ok) : Hid (Rest w (upd w.heap.size (kv x.own x.cont) (fv N M) W) g k D x N M) := by
  obtain ⟨h1, h2, h3⟩ := Rest.run2 h hk ho
  have hlo := h.lo
  exact ⟨.inr h2, h.bel.grown h3 h.bel.size (fun i e => by cases e; exact Nat.le_refl _), h.lo, (h3.block g (Array.getElem?_eq_some_iff.1 h.row).1 (by simp; omega)).trans h.row⟩
theorem Rest.fin (h : Hid (Rest w W g k D x N M)) (hk : k + 1 < maxLen) (ho : x.ok) : OwnC (upd w.heap.size (kv x.own x.cont) (fv N M) W) w.heap.size (k + 1) (D.put (kk x.own x.cont) (fd N M)) ∧ Below w.heap.size w (upd w.heap.size (kv x.own x.cont) (fv N M) W) ∧ w.heap.size < (upd w.heap.size (kv x.own x.cont) (fv N M) W).heap.size := by
  have q := unhide (Rest.next h hk ho)
  exact ⟨(Rest.run2 h hk ho).2.1, q.bel, Nat.lt_trans q.lo (Array.getElem?_eq_some_iff.1 q.row).1⟩
theorem Rest.runs (h : Hid (Rest w W g k D x N M)) (hk : k + 1 < maxLen) (ho : x.ok) : (Instr.mapUpdate 48 (.map (some w.heap.size)) (kv x.own x.cont) (fv N M)).run Yba.prog W = .ok () (upd w.heap.size (kv x.own x.cont) (fv N M) W) :=
  (Rest.run2 h hk ho).1
theorem Rest.cells (h : Hid (Rest w W g k D x N M)) (hk : k + 1 < maxLen) (ho : x.ok) : W.cell? ⟨g, 0, none⟩ = some (.string x.own) ∧ W.cell? ⟨g, 1, none⟩ = some (.string x.cont) ∧ W.cell? ⟨g, 2, none⟩ = some (.int .i32 x.a1) ∧ W.cell? ⟨g, 3, none⟩ = some (.int .i32 x.a2) ∧ W.cell? ⟨g, 4, none⟩ = some (.int .i32 x.u1) ∧ W.cell? ⟨g, 5, none⟩ = some (.int .i32 x.u2) ∧ (Instr.mapUpdate 48 (.map (some w.heap.size)) (kv x.own x.cont) (fv N M)).run Yba.prog W = .ok () (upd w.heap.size (kv x.own x.cont) (fv N M) W) ∧ Hid (Rest w W g k D x N M) :=
  ⟨cell_of_row W g 0 _ _ _ h.row, cell_of_row W g 1 _ _ _ h.row, cell_of_row W g 2 _ _ _ h.row, cell_of_row W g 3 _ _ _ h.row, cell_of_row W g 4 _ _ _ h.row, cell_of_row W g 5 _ _ _ h.row, Rest.runs h hk ho, h⟩
theorem Rest.of_all {p0 p1 p2 p3 p4 p5 p6 : Prop} (hS : p0 ∧ p1 ∧ p2 ∧ p3 ∧ p4 ∧ p5 ∧ p6 ∧ Hid (Rest w W g k D x N M)) : Hid (Rest w W g k D x N M) := hS.2.2.2.2.2.2.2
theorem Rest.drew' (h : Hid (Rest w W g k D x N M)) : Hid (Rest w W.drew g k D x N M) := ⟨h.map, h.bel.drew, h.lo, h.row⟩
theorem Rest.below (hb : Below W.heap.size W w') (h : Hid (Rest w W g k D x N M)) : Hid (Rest w w' g k D x N M) :=
  ⟨h.map.imp (fun q => q.kept (row := none) ⟨hb.os, hb.tape, hb.output, hb.size, fun i hi _ => hb.block i hi⟩ (by simp)) (fun q => q.kept (row := none) ⟨hb.os, hb.tape, hb.output, hb.size, fun i hi _ => hb.block i hi⟩ (by simp)), chain h.bel hb, h.lo, (hb.block g (Array.getElem?_eq_some_iff.1 h.row).1).trans h.row⟩
end

set_option maxHeartbeats 1000000 in
set_option maxRecDepth 100000 in
theorem build_some (ad : Addr) (n c : Nat) (E : List Ent) (w : World) (hN : EntsAt w (.slice (some ad) n c) E) (hbd : n ≤ 65536) (hok : ∀ e ∈ E, e.ok) :
    Calls Yba.prog 10 #[.slice (some ad) n c] w fun e w' => e = .returned (.map (some w.heap.size)) ∧ OwnC w' w.heap.size n (Dof E) ∧ Below w.heap.size w w' := by
  obtain ⟨a1, c1, e1, hp⟩ := hN
  cases e1
  obtain ⟨n, hn⟩ : ∃ n, n = E.length := ⟨_, rfl⟩
  have HP := hide hp
  have HN := hide hn
  have HOK := hide hok
  rw [← hn] at hbd ⊢
  clear hp hn hok
  have q1 := fun (a : Option Addr) (n c : Nat) (w : World) => Lib.run_eql_slice_nil (P := Yba.prog) w 46 55 a n c 0 0 Yba.underlying46
  have hmm := @run_makeMap Yba.prog
  go_enter Yba.func10, Yba.ntmps10
  go_wp2
  go_loopw [4] (fun i wr => ∃ k : Nat, k ≤ n ∧ i = .int .i64 k ∧ Hid (OwnC wr w.heap.size k (Dof (E.take k))) ∧ Hid (Below w.heap.size w wr ∧ w.heap.size < wr.heap.size)) (fun i _ => n - (intOf i).toNat)
  case atStart => exact ⟨0, by omega, rfl, World.ownsMap_made _ _ _ _, (Below.refl _ _).alloc (Nat.le_refl _) _, by simp⟩
  case round =>
    obtain ⟨k, hk, rfl, hM, hB⟩ := hrel
    by_cases hlt : k < n
    · have hL : k < E.length := by rw [← unhide HN]; exact hlt
      obtain ⟨b, off, ha, hb, hc⟩ := unhide HP (by omega)
      obtain ⟨x, hx⟩ : ∃ x, x = E.getD k noEnt := ⟨_, rfl⟩
      have hxm : x ∈ E := by rw [hx, List.getD_eq_getElem?_getD, List.getElem?_eq_getElem hL]; exact List.getElem_mem hL
      have hxo := unhide HOK x hxm
      have hat : EntAt wr b (off + k * 6) x := by rw [hx]; exact (hc k hL).below (unhide hB).1 hb
      obtain ⟨h0, h1, h2, h3, h4, h5⟩ := hat
      cases ha
      have hbw := hb
      clear hb
      have hi1 : (k : Int) < (n : Int) := by omega
      have HX := hide hx
      have HSTEP : Hid (Dof (E.take (k + 1)) = (Dof (E.take k)).put (kk x.own x.cont) (fd (nsOf x.a1 x.a2) (nsOf x.u1 x.u2))) := by
        have : E.take (k + 1) = E.take k ++ [x] := by rw [List.take_add_one, hx, List.getD_eq_getElem?_getD, List.getElem?_eq_getElem hL]; rfl
        show _ = _
        rw [this, Dof_snoc]
        rfl
      clear hc hL hx hxm
      go_wp2
      obtain ⟨w1, hw1⟩ : ∃ w1, w1 = wr.alloc (.cells #[.string x.own, .string x.cont, .int .i32 x.a1, .int .i32 x.a2, .int .i32 x.u1, .int .i32 x.u2] 55) := ⟨_, rfl⟩
      obtain ⟨g, hg⟩ : ∃ g, g = wr.heap.size := ⟨_, rfl⟩
      have hr : w1.heap[g]? = some (.cells #[.string x.own, .string x.cont, .int .i32 x.a1, .int .i32 x.a2, .int .i32 x.u1, .int .i32 x.u2] 55 (0, 0)) := by rw [hw1, hg]; exact heap_alloc_new _ _
      have hR1 : Rest w w1 g k (Dof (E.take k)) x (nsOf x.a1 x.a2) (nsOf x.u1 x.u2) := ⟨by rw [hw1]; exact .inl ((unhide hM).alloc _), by rw [hw1]; exact (unhide hB).1.alloc (unhide hB).1.size _, by rw [hg]; exact (unhide hB).2, hr⟩
      have j0 : w1.cell? ⟨g, 0, none⟩ = some (.string x.own) := cell_of_row w1 g 0 _ _ _ hr
      have j1 : w1.cell? ⟨g, 1, none⟩ = some (.string x.cont) := cell_of_row w1 g 1 _ _ _ hr
      have j2 : w1.cell? ⟨g, 2, none⟩ = some (.int .i32 x.a1) := cell_of_row w1 g 2 _ _ _ hr
      have j3 : w1.cell? ⟨g, 3, none⟩ = some (.int .i32 x.a2) := cell_of_row w1 g 3 _ _ _ hr
      have j4 : w1.cell? ⟨g, 4, none⟩ = some (.int .i32 x.u1) := cell_of_row w1 g 4 _ _ _ hr
      have j5 : w1.cell? ⟨g, 5, none⟩ = some (.int .i32 x.u2) := cell_of_row w1 g 5 _ _ _ hr
      have HR1 := hide hR1
      have HXO := hide hxo
      have hkm : k + 1 < maxLen := by unfold maxLen; omega
      obtain ⟨oo, oc, oa1, oa2, ou1, ou2⟩ := hxo
      have hN0 := ns_bounds oa1 oa2
      have hM0 := ns_bounds ou1 ou2
      rw [← hw1, ← hg]
      clear hr hw1 hg hR1 h0 h1 h2 h3 h4 h5
      go_region_held3 (fun w' => w'.cell? ⟨g, 0, none⟩ = some (.string x.own) ∧ w'.cell? ⟨g, 1, none⟩ = some (.string x.cont) ∧ w'.cell? ⟨g, 2, none⟩ = some (.int .i32 x.a1) ∧ w'.cell? ⟨g, 3, none⟩ = some (.int .i32 x.a2) ∧ w'.cell? ⟨g, 4, none⟩ = some (.int .i32 x.u1) ∧ w'.cell? ⟨g, 5, none⟩ = some (.int .i32 x.u2) ∧ (Instr.mapUpdate 48 (.map (some w.heap.size)) (kv x.own x.cont) (fv (nsOf x.a1 x.a2) (nsOf x.u1 x.u2))).run Yba.prog w' = .ok () (upd w.heap.size (kv x.own x.cont) (fv (nsOf x.a1 x.a2) (nsOf x.u1 x.u2)) w') ∧ Hid (Rest w w' g k (Dof (E.take k)) x (nsOf x.a1 x.a2) (nsOf x.u1 x.u2))) (first | (refine Rest.cells (Rest.drew' ?_) hkm (unhide HXO); assumption) | (refine Rest.cells (Rest.next ?_ hkm (unhide HXO)) hkm (unhide HXO); apply Rest.of_all; assumption) | (refine Rest.cells ?_ hkm (unhide HXO); refine Rest.below hb ?_; apply Rest.of_all; assumption) | (refine Rest.cells ?_ hkm (unhide HXO); apply Rest.of_all; assumption) | (refine Rest.cells ?_ hkm (unhide HXO); assumption))
        (first
          | (go_at_call 11; refine (cn_ns _ _ _ ?_ ?_ ?_ ?_).mono ?_; (iterate 4 omega); rintro e w' ⟨rfl, rfl⟩)
          | (go_at_call 13; refine (ct_any _ _ ?_ ?_).mono ?_; (iterate 2 omega); rintro e w' ⟨rfl, hb⟩))
      go_wp2
      refine ⟨⟨k + 1, by omega, by go_num, ?_, ?_⟩, by simp [intOf]; omega⟩
      · show OwnC _ _ _ _
        rw [unhide HSTEP]
        refine (Rest.fin (g := g) ?_ hkm (unhide HXO)).1
        refine Rest.below hb (Rest.below ?_ (Rest.drew' HR1))
        assumption
      · refine (Rest.fin (g := g) (k := k) (D := Dof (E.take k)) ?_ hkm (unhide HXO)).2
        refine Rest.below hb (Rest.below ?_ (Rest.drew' HR1))
        assumption
    · have em : k = n := by omega
      subst em
      go_wp2
      go_ret
      exact ⟨rfl, by rw [← List.take_length (l := E), ← unhide HN]; exact unhide hM, (unhide hB).1⟩
end Go.Proofs.Ybulkeine.lawC
