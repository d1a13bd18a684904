/-
  LawS6738CWhole, walked.
-/
import Derived.Test.YbulkeineCDue
import Derived.Deep.CutBlock
namespace Go.Proofs.Ybulkeine.lawC
open Go.Proofs.Ybulkeine.lawA (hide unhide Str noStr grown_restore grown_trans)
open Go.ChangeShapes Go.WideShapes Go.ChangeAt Go.RowKit
open Go.Maps (Keyed IsMap Tidy)

/-- What stands through the law: the receiver, its map, the other map. -/
structure St (w W : World) (S M1 M2 n : Nat) (E : List Ent) (prune : Int) : Prop where
  bel : Below w.heap.size w W
  lo1 : w.heap.size ≤ M1
  lt1 : M1 < S
  lt2 : S < M2
  rs : W.heap[S]? = some (.cells (mrk (.map (some M1)) prune) 51 (0, 0))
  o1 : OwnC W M1 n (Dof E)
  o2 : OwnC W M2 n (Dof E)
section
variable {w W W' : World} {S M1 M2 n : Nat} {E : List Ent} {prune : Int}
theorem grown_of_below (hb : Below W.heap.size W W') : W.grownBy W' none := ⟨hb.os, hb.tape, hb.output, hb.size, fun i hi _ => hb.block i hi⟩
theorem below_of_grown (hb : W.grownBy W' none) : Below W.heap.size W W' := ⟨hb.os, hb.tape, hb.output, hb.size, fun i hi => hb.block i hi (by simp)⟩
theorem St.ltS (h : St w W S M1 M2 n E prune) : S < W.heap.size := (Array.getElem?_eq_some_iff.1 h.rs).1
theorem St.below (h : St w W S M1 M2 n E prune) (hb : Below W.heap.size W W') : St w W' S M1 M2 n E prune :=
  ⟨chain h.bel hb, h.lo1, h.lt1, h.lt2, (hb.block S h.ltS).trans h.rs, h.o1.kept (grown_of_below hb) (by simp), h.o2.kept (grown_of_below hb) (by simp)⟩
theorem St.setCell (h : St w W S M1 M2 n E prune) {a : Addr} (ha : M2 < a.block) (u : Value) : St w (W.setCell a u) S M1 M2 n E prune := by
  have h1 := h.lo1
  have h2 := h.lt1
  have h3 := h.lt2
  exact ⟨h.bel.setCell (by omega) u, h.lo1, h.lt1, h.lt2, (heap_setCell_other _ _ _ _ (by omega)).trans h.rs, h.o1.setCell (by omega) u, h.o2.setCell (by omega) u⟩
end

/-- The times of the last entry under a key. -/
noncomputable def atL (E : List Ent) (a b : Str) : Int := match lastOf E a b with | none => 0 | some e => nsOf e.a1 e.a2
noncomputable def unL (E : List Ent) (a b : Str) : Int := match lastOf E a b with | none => 0 | some e => nsOf e.u1 e.u2

theorem last_take {E : List Ent} {k : Nat} (hk : k < E.length) (a b : Str) :
    ((E.getD k noEnt).is a b → lastOf (E.take (k + 1)) a b = some (E.getD k noEnt)) ∧ (¬ (E.getD k noEnt).is a b → lastOf (E.take (k + 1)) a b = lastOf (E.take k) a b) := by
  have e : E.take (k + 1) = E.take k ++ [E.getD k noEnt] := by rw [List.take_add_one, List.getD_eq_getElem?_getD, List.getElem?_eq_getElem hk]; rfl
  rw [e, lastOf_snoc]
  exact ⟨fun h => if_pos h, fun h => if_neg h⟩
theorem at_some {E : List Ent} {a b : Str} {x : Ent} (h : lastOf E a b = some x) : atL E a b = nsOf x.a1 x.a2 ∧ unL E a b = nsOf x.u1 x.u2 := by unfold atL unL; rw [h]; exact ⟨rfl, rfl⟩
theorem at_none {E : List Ent} {a b : Str} (h : lastOf E a b = none) : atL E a b = 0 ∧ unL E a b = 0 := by unfold atL unL; rw [h]; exact ⟨rfl, rfl⟩

theorem last_mem {E : List Ent} {a b : Str} {x : Ent} (h : lastOf E a b = some x) : x ∈ E := by
  have main : ∀ k, k ≤ E.length → lastOf (E.take k) a b = some x → x ∈ E := by
    intro k
    induction k with
    | zero => intro _ h; cases h
    | succ k ih =>
      intro hk h
      have := last_take (E := E) (k := k) (by omega) a b
      by_cases hi : (E.getD k noEnt).is a b
      · rw [this.1 hi] at h
        cases h
        rw [List.getD_eq_getElem?_getD, List.getElem?_eq_getElem (by omega)]; exact List.getElem_mem _
      · rw [this.2 hi] at h
        exact ih (by omega) h
  exact main E.length (Nat.le_refl _) (by rw [List.take_length]; exact h)
theorem atun_bounds (E : List Ent) (hE : ∀ e ∈ E, e.ok) (a b : Str) : (-2200000000000000000 ≤ atL E a b ∧ atL E a b ≤ 2200000000000000000) ∧ (-2200000000000000000 ≤ unL E a b ∧ unL E a b ≤ 2200000000000000000) := by
  cases h : lastOf E a b with
  | none => rw [(at_none h).1, (at_none h).2]; omega
  | some x =>
    obtain ⟨_, _, oa1, oa2, ou1, ou2⟩ := hE x (last_mem h)
    rw [(at_some h).1, (at_some h).2]
    exact ⟨ns_bounds oa1 oa2, ns_bounds ou1 ou2⟩

theorem zero65 (w : World) : (zeroValue 65).run Yba.prog w = .ok (fv 0 0) w := by kernel_rfl
theorem look_any {W : World} {M n : Nat} {E : List Ent} (h : OwnC W M n (Dof E)) (hE : ∀ e ∈ E, e.ok) {a b : Str} (ha : a.size ≤ maxLen) (hb : b.size ≤ maxLen) :
    (Instr.lookup 48 (.map (some M)) (kv a b) false).run Yba.prog W = .ok (fv (atL E a b) (unL E a b)) W := by
  obtain ⟨v, ps, hr, hv⟩ := h.lookup (t := 48) (e := 65) law53 Yba.underlying48 (zero65 W) (markR_mk 0 0) (key_mk ha hb)
  rw [hr]
  rcases Dof_look E hE a b ha hb with ⟨h1, _, h3⟩ | ⟨x, h1, _, _, h3⟩
  · rw [h3] at hv
    rw [markR_inv hv, (at_none h1).1, (at_none h1).2]
  · rw [h3] at hv
    rw [markR_inv hv, (at_some h1).1, (at_some h1).2]
    rfl
theorem look_ok_any {W : World} {M n : Nat} {E : List Ent} (h : OwnC W M n (Dof E)) (hE : ∀ e ∈ E, e.ok) {a b : Str} (ha : a.size ≤ maxLen) (hb : b.size ≤ maxLen) {x : Ent} (hx : lastOf E a b = some x) :
    (Instr.lookup 48 (.map (some M)) (kv a b) true).run Yba.prog W = .ok (.tuple #[fv (atL E a b) (unL E a b), .bool true]) W := by
  obtain ⟨v, ps, hr, hv⟩ := h.look_ok (t := 48) (e := 65) law53 Yba.underlying48 (zero65 W) (markR_mk 0 0) (key_mk ha hb)
  rw [hr]
  rcases Dof_look E hE a b ha hb with ⟨h1, _, h3⟩ | ⟨y, h1, _, h2, h3⟩
  · rw [h1] at hx; cases hx
  · rw [h3] at hv
    rw [markR_inv hv, (at_some h1).1, (at_some h1).2, h2]
    rfl
theorem last_some {E : List Ent} {k : Nat} (hk : k < E.length) : ∃ x, lastOf E (E.getD k noEnt).own (E.getD k noEnt).cont = some x := by
  obtain ⟨a, ha⟩ : ∃ a, a = (E.getD k noEnt).own := ⟨_, rfl⟩
  obtain ⟨b, hb⟩ : ∃ b, b = (E.getD k noEnt).cont := ⟨_, rfl⟩
  have main : ∀ j, k < j → j ≤ E.length → ∃ x, lastOf (E.take j) a b = some x := by
    intro j
    induction j with
    | zero => intro h; omega
    | succ j ih =>
      intro h1 h2
      have := last_take (E := E) (k := j) (by omega) a b
      by_cases hi : (E.getD j noEnt).is a b
      · exact ⟨_, this.1 hi⟩
      · rw [this.2 hi]
        by_cases e : j = k
        · subst e; exact absurd ⟨ha.symm, hb.symm⟩ hi
        · exact ih (by omega) (by omega)
  have := main E.length hk (Nat.le_refl _)
  rw [List.take_length, ha, hb] at this
  exact this

/-- The law's state with the key's own block. -/
structure Sk (w W : World) (S M1 M2 n : Nat) (E : List Ent) (prune : Int) (B : Nat) (a b : Str) : Prop where
  st : St w W S M1 M2 n E prune
  rk : W.heap[B]? = some (.cells #[.string a, .string b] 53 (0, 0))
section
variable {w W W' : World} {S M1 M2 n B : Nat} {E : List Ent} {prune : Int} {a b : Str}
theorem Sk.below (hb : Below W.heap.size W W') (h : Hid (Sk w W S M1 M2 n E prune B a b)) : Hid (Sk w W' S M1 M2 n E prune B a b) :=
  ⟨h.st.below hb, (hb.block B (Array.getElem?_eq_some_iff.1 h.rk).1).trans h.rk⟩
theorem Sk.drew' (h : Hid (Sk w W S M1 M2 n E prune B a b)) : Hid (Sk w W.drew S M1 M2 n E prune B a b) := Sk.below ((Below.refl _ _).drew) h
theorem Sk.cells (h : Hid (Sk w W S M1 M2 n E prune B a b)) : W.cell? ⟨B, 0, none⟩ = some (.string a) ∧ W.cell? ⟨B, 1, none⟩ = some (.string b) ∧ Hid (Sk w W S M1 M2 n E prune B a b) :=
  ⟨cell_of_row W B 0 _ _ _ h.rk, cell_of_row W B 1 _ _ _ h.rk, h⟩
theorem Sk.of_all {p0 p1 : Prop} (hS : p0 ∧ p1 ∧ Hid (Sk w W S M1 M2 n E prune B a b)) : Hid (Sk w W S M1 M2 n E prune B a b) := hS.2.2
theorem Sk.due (hE : ∀ e ∈ E, e.ok) (ha : a.size ≤ maxLen) (hb : b.size ≤ maxLen) (h : Hid (Sk w W S M1 M2 n E prune B a b)) {N T : Int} (hN : -2200000000000000000 ≤ N ∧ N ≤ 2200000000000000000) (hT : -2200000000000000000 ≤ T ∧ T ≤ 2200000000000000000) :
    Calls Yba.prog 12 #[.pointer (some ⟨S, 0, none⟩), kv a b, tn N, .int .i64 T] W fun e w' => e = .returned (.bool (decide (unL E a b < N + T) || decide (10000000000 ≤ N - atL E a b))) ∧ Below W.heap.size W w' := by
  refine (due_any S (.map (some M1)) prune a b (atL E a b) (unL E a b) N T W h.st.rs (fun W' hW' => ?_) (atun_bounds E hE a b).1 hN hT).mono ?_
  · have hne : M1 ≠ S := Nat.ne_of_lt h.st.lt1
    have hb1 := hW' M1 h.st.o1.lt hne
    have ho : OwnC W' M1 n (Dof E) := by
      obtain ⟨es, clock, q, F⟩ := h.st.o1
      exact ⟨es, clock, hb1.trans q, F⟩
    exact look_any ho hE ha hb
  · rintro e w' ⟨rfl, hg⟩
    exact ⟨rfl, below_of_grown hg⟩
end

/-- What the second loop reads. -/
theorem Sk.reads {E : List Ent} (hE : ∀ e ∈ E, e.ok) {w W : World} {S M1 M2 n B : Nat} {prune : Int} {a b : Str} {x : Ent} (ha : a.size ≤ maxLen) (hb : b.size ≤ maxLen) (hx : lastOf E a b = some x) (h : Hid (Sk w W S M1 M2 n E prune B a b)) :
    W.cell? ⟨S, 2, none⟩ = some (.map (some M1)) ∧ W.cell? ⟨B, 0, none⟩ = some (.string a) ∧ W.cell? ⟨B, 1, none⟩ = some (.string b) ∧
      (Instr.lookup 48 (.map (some M1)) (kv a b) true).run Yba.prog W = .ok (.tuple #[fv (atL E a b) (unL E a b), .bool true]) W ∧ (Instr.lookup 48 (.map (some M2)) (kv a b) false).run Yba.prog W = .ok (fv (atL E a b) (unL E a b)) W :=
  ⟨cell_of_row W S 2 _ _ _ h.st.rs, cell_of_row W B 0 _ _ _ h.rk, cell_of_row W B 1 _ _ _ h.rk, look_ok_any h.st.o1 hE ha hb hx, look_any h.st.o2 hE ha hb⟩

/-- Two filed marks that read alike. -/
structure Pq (W : World) (q2 q3 : Nat) (xa sa xu su : Int) : Prop where
  r2 : W.heap[q2]? = some (.cells #[.int .u64 xa, .int .i64 sa, .pointer none, .int .u64 xu, .int .i64 su, .pointer none] 65 (0, 0))
  r3 : W.heap[q3]? = some (.cells #[.int .u64 xa, .int .i64 sa, .pointer none, .int .u64 xu, .int .i64 su, .pointer none] 65 (0, 0))
theorem Pq.below {W W' : World} {q2 q3 : Nat} {xa sa xu su : Int} (h : Pq W q2 q3 xa sa xu su) (hb : Below W.heap.size W W') : Pq W' q2 q3 xa sa xu su :=
  ⟨(hb.block _ (Array.getElem?_eq_some_iff.1 h.r2).1).trans h.r2, (hb.block _ (Array.getElem?_eq_some_iff.1 h.r3).1).trans h.r3⟩

theorem q48 (r : Option Nat) (w : World) : (binOp .eql 48 (.map r) (.map none)).run Yba.prog w = .ok (.bool r.isNone) w := run_eql_map_nil w _ _ _ r Yba.underlying48
theorem q46 (a : Option Addr) (n c : Nat) (w : World) : (binOp .eql 46 (.slice a n c) (.slice none 0 0)).run Yba.prog w = .ok (.bool a.isNone) w := Lib.run_eql_slice_nil (P := Yba.prog) w 46 55 a n c 0 0 Yba.underlying46

set_option maxRecDepth 100000 in
set_option maxHeartbeats 2000000 in
theorem law_some (ad : Addr) (n c : Nat) (E : List Ent) (own cont : Str) (p : Nat) (s1 s2 s3 s4 prune : Int) (w : World) (hN : EntsAt w (.slice (some ad) n c) E) (hbd : n ≤ 65536) (hok : ∀ e ∈ E, e.ok)
    (ho : own.size ≤ maxLen) (hc : cont.size ≤ maxLen) (hp : p ≤ 255) (h1 : -2147483648 ≤ s1 ∧ s1 ≤ 2147483647) (h2 : -2147483648 ≤ s2 ∧ s2 ≤ 2147483647) (h3 : -2147483648 ≤ s3 ∧ s3 ≤ 2147483647) (h4 : -2147483648 ≤ s4 ∧ s4 ≤ 2147483647) :
    Calls Yba.prog 5 #[.slice (some ad) n c, .string own, .string cont, .int .u8 p, .int .i32 s1, .int .i32 s2, .int .i32 s3, .int .i32 s4, .int .i64 prune] w fun e w' => e = .returned (.bool true) ∧ Below w.heap.size w w' := by
  have hdec : decide ((65536 : Int) < (n : Int)) = false := by simp; omega
  have HB1 := hide (build_some ad n c E w hN hbd hok)
  have HOK := hide hok
  have HNL : Hid (n = E.length) := by obtain ⟨a1, c1, e1, _⟩ := hN; cases e1; exact rfl
  go_enter Yba.func5, Yba.ntmps5
  go_wp2_with fail
  refine (unhide HB1).mono ?_
  rintro e w1 ⟨rfl, ho1, hb1⟩
  clear HB1
  have hM1 : w.heap.size < w1.heap.size := ho1.lt
  obtain ⟨w1a, hw1a⟩ : ∃ w1a, w1a = w1.alloc (.cells (mrk (.map (some w.heap.size)) prune) 51) := ⟨_, rfl⟩
  have hb1a : Below w.heap.size w w1a := by rw [hw1a]; exact hb1.alloc hb1.size _
  have hs1a : w1a.heap.size = w1.heap.size + 1 := by rw [hw1a]; simp
  have HB2 := hide (build_some ad n c E w1a (by
    obtain ⟨a1, c1, e1, hq⟩ := hN
    refine ⟨a1, c1, e1, fun h0 => ?_⟩
    obtain ⟨b, off, r1, r2, r3⟩ := hq h0
    exact ⟨b, off, r1, Nat.lt_of_lt_of_le r2 hb1a.size, fun i hi => (r3 i hi).below hb1a r2⟩) hbd hok)
  have HRS : Hid (w1a.heap[w1.heap.size]? = some (.cells (mrk (.map (some w.heap.size)) prune) 51 (0, 0))) := by rw [hw1a]; exact heap_alloc_new _ _
  have HO1 : Hid (OwnC w1a w.heap.size n (Dof E)) := by rw [hw1a]; exact ho1.alloc _
  have HW := hide hw1a
  have HN := hide hN
  clear hw1a ho1 hok hN
  go_wp2_with fail
  rw [← unhide HW]
  refine (unhide HB2).mono ?_
  rintro e w2 ⟨rfl, ho2, hb2⟩
  have hst : Hid (St w w2 w1.heap.size w.heap.size w1a.heap.size n E prune) := by
    have hlt : w1.heap.size < w1a.heap.size := by omega
    exact ⟨chain hb1a hb2, Nat.le_refl _, hM1, hlt, (hb2.block _ hlt).trans (unhide HRS), (unhide HO1).kept (grown_of_below hb2) (by simp), ho2⟩
  clear HB2 ho2 hb2 HRS HO1 HW hb1 hb1a
  generalize w1a.heap.size = M2 at *
  generalize w1.heap.size = S at *
  clear hs1a
  obtain ⟨w3, hw3⟩ : ∃ w3, w3 = w2.alloc (.cells #[.string own, .string cont] 53) := ⟨_, rfl⟩
  have hst3 : Hid (St w w3 S w.heap.size M2 n E prune) := by rw [hw3]; exact (unhide hst).below (Joins.below_alloc1 _ _)
  have hkey : Hid (w3.heap[w2.heap.size]? = some (.cells #[.string own, .string cont] 53 (0, 0))) := by rw [hw3]; exact heap_alloc_new _ _
  have hM2K : M2 < w2.heap.size := (unhide hst).o2.lt
  go_upto_region 6 with (fail)
  rw [← hw3]
  clear hw3 hst
  generalize w2.heap.size = B at *
  go_cut [56] (fun v wc => v = .bool (decide (0 < n) && p % 2 == 0) ∧ wc = w3)
  case first =>
    by_cases hn0 : 0 < n
    · go_wp2
      go_meet
      case rel => exact ⟨by simp only [hn0, decide_true, Bool.true_and, Value.bool.injEq]; rw [Bool.eq_iff_iff]; simp; omega, by first | rfl | trivial⟩
    · go_wp2
      go_meet
      case rel => exact ⟨by simp [hn0], by first | rfl | trivial⟩
  case rest =>
    obtain ⟨rfl, rfl⟩ := hcut
    go_upto_if 56 with (fail)
    go_cut [22] (fun _ wd => ∃ a b : Str, Hid (a.size ≤ maxLen ∧ b.size ≤ maxLen ∧ St w wd S w.heap.size M2 n E prune ∧ wd.heap[B]? = some (.cells #[.string a, .string b] 53 (0, 0))))
    case first =>
      by_cases hcd : (decide (0 < n) && p % 2 == 0) = true
      · rw [hcd]
        have hn0 : 0 < n := by simp at hcd; exact hcd.1
        obtain ⟨a1, c1, e1, hq⟩ := unhide HN
        cases e1
        obtain ⟨b, off, r1, r2, r3⟩ := hq hn0
        cases r1
        have hj : p / 2 % E.length < E.length := Nat.mod_lt _ hn0
        obtain ⟨x, hx⟩ : ∃ x, x = E.getD (p / 2 % E.length) noEnt := ⟨_, rfl⟩
        have hxm : x ∈ E := by rw [hx, List.getD_eq_getElem?_getD, List.getElem?_eq_getElem hj]; exact List.getElem_mem hj
        have hxo := unhide HOK x hxm
        have hat : EntAt wc b (off + (p / 2 % E.length) * 6) x := by rw [hx]; exact (r3 _ hj).below (unhide hst3).bel r2
        obtain ⟨x0, x1, x2, x3, x4, x5⟩ := hat
        have hBl : B < wc.heap.size := (Array.getElem?_eq_some_iff.1 (unhide hkey)).1
        have hrow : ∀ o, (wc.alloc o).heap[B]? = some (.cells #[.string own, .string cont] 53 (0, 0)) := fun o => (heap_alloc_old _ _ hBl).trans (unhide hkey)
        have y0 : ∀ o, (wc.alloc o).cell? ⟨B, 0, none⟩ = some (.string own) := fun o => cell_of_row _ B 0 _ _ _ (hrow o)
        have y1 : ∀ o, (wc.alloc o).cell? ⟨B, 1, none⟩ = some (.string cont) := fun o => cell_of_row _ B 1 _ _ _ (hrow o)
        have f0 : ∀ o, (wc.alloc o).frozen? ⟨B, 0, none⟩ = false := fun o => frozen_of_row _ _ _ _ _ (hrow o)
        have hrow' : ∀ u o, ((wc.setCell ⟨B, 0, none⟩ (.string u)).alloc o).heap[B]? = some (.cells #[.string u, .string cont] 53 (0, 0)) := fun u o => (heap_alloc_old _ _ (by simpa [World.setCell] using hBl)).trans ((Joins.block_setCell (i := 0) (unhide hkey) _).trans rfl)
        have y1' : ∀ u o, ((wc.setCell ⟨B, 0, none⟩ (.string u)).alloc o).cell? ⟨B, 1, none⟩ = some (.string cont) := fun u o => cell_of_row _ B 1 _ _ _ (hrow' u o)
        have f1' : ∀ u o, ((wc.setCell ⟨B, 0, none⟩ (.string u)).alloc o).frozen? ⟨B, 1, none⟩ = false := fun u o => frozen_of_row _ _ _ _ _ (hrow' u o)
        have i0 : (0 : Int) ≤ (p : Int) / 2 % (E.length : Int) := Int.emod_nonneg _ (by omega)
        have i1 : (p : Int) / 2 % (E.length : Int) < (E.length : Int) := Int.emod_lt_of_pos _ (by omega)
        have hdiv : Int.tdiv (p : Int) 2 = ((p / 2 : Nat) : Int) := by rw [Int.tdiv_eq_ediv_of_nonneg (by omega)]; rfl
        have hrem : Int.tmod ((p / 2 : Nat) : Int) (E.length : Int) = ((p / 2 % E.length : Nat) : Int) := by rw [Int.tmod_eq_emod_of_nonneg (by omega)]; rfl
        have hW2 := Joins.block_setCell (i := 1) (Joins.block_setCell (i := 0) (unhide hkey) (.string x.own)) (.string x.cont)
        have hW3 := (((unhide hst3).setCell (a := ⟨B, 0, none⟩) hM2K (.string x.own)).setCell (a := ⟨B, 1, none⟩) hM2K (.string x.cont))
        have HR : Hid (∀ o, St w (((wc.setCell ⟨B, 0, none⟩ (.string x.own)).setCell ⟨B, 1, none⟩ (.string x.cont)).alloc o) S w.heap.size M2 E.length E prune ∧ (((wc.setCell ⟨B, 0, none⟩ (.string x.own)).setCell ⟨B, 1, none⟩ (.string x.cont)).alloc o).heap[B]? = some (.cells #[.string x.own, .string x.cont] 53 (0, 0))) := fun o =>
          ⟨hW3.below (Joins.below_alloc1 _ o), (heap_alloc_old _ _ (Array.getElem?_eq_some_iff.1 hW2).1).trans (hW2.trans rfl)⟩
        clear hW2 hW3 hrow'
        clear hrow hx hxm hcd hq r3
        go_wp2
        go_meet
        case rel => exact ⟨x.own, x.cont, hxo.1, hxo.2.1, (unhide HR _).1, (unhide HR _).2⟩
      · rw [Bool.not_eq_true] at hcd
        rw [hcd]
        go_wp2
        go_meet
        case rel => exact ⟨own, cont, ho, hc, unhide hst3, unhide hkey⟩
    case rest =>
      clear hst3 hkey
      obtain ⟨a, b, hk⟩ := hcut
      have ha := (unhide hk).1
      have hb := (unhide hk).2.1
      go_upto_block 0 with (fail)
      go_cut [23, 24] (fun v23 v24 wd => v23 = .int .i64 (atL E a b) ∧ v24 = .int .i64 (unL E a b) ∧ Hid (St w wd S w.heap.size M2 n E prune ∧ wd.heap[B]? = some (.cells #[.string a, .string b] 53 (0, 0))))
      case first =>
        go_wp2_with fail
        go_loopw [23, 24, 25] (fun v23 v24 i wr => ∃ k : Nat, k ≤ n ∧ v23 = .int .i64 0 ∧ v24 = .int .i64 0 ∧ i = .int .i64 ((k : Int) - 1) ∧ Hid (lastOf E a b = lastOf (E.take k) a b ∧ St w wr S w.heap.size M2 n E prune ∧ wr.heap[B]? = some (.cells #[.string a, .string b] 53 (0, 0)))) (fun _ _ i _ => (intOf i + 1).toNat)
        case atStart => exact ⟨n, Nat.le_refl _, rfl, rfl, rfl, by rw [unhide HNL, List.take_length], (unhide hk).2.2⟩
        case round =>
          clear hk
          obtain ⟨k, hkn, rfl, rfl, rfl, hI⟩ := hrel
          cases k with
          | zero =>
            have hno := at_none (E := E) (a := a) (b := b) (unhide hI).1
            go_wp2
            go_meet
            case rel => exact ⟨by rw [hno.1], by rw [hno.2], (unhide hI).2⟩
          | succ k =>
            have ek : ((k + 1 : Nat) : Int) - 1 = (k : Int) := by omega
            rw [ek]
            have hj : k < E.length := by rw [← unhide HNL]; omega
            obtain ⟨a1, c1, e1, hq⟩ := unhide HN
            obtain ⟨b2, off, r1, r2, r3⟩ := hq (by omega)
            rw [r1] at e1
            cases e1
            obtain ⟨x, hx⟩ : ∃ x, x = E.getD k noEnt := ⟨_, rfl⟩
            have hxm : x ∈ E := by rw [hx, List.getD_eq_getElem?_getD, List.getElem?_eq_getElem hj]; exact List.getElem_mem hj
            have hxo := unhide HOK x hxm
            have hat : EntAt wr b2 (off + k * 6) x := by rw [hx]; exact (r3 _ hj).below (unhide hI).2.1.bel r2
            obtain ⟨x0, x1, x2, x3, x4, x5⟩ := hat
            have hlast := hide (last_take hj a b)
            rw [← hx] at hlast
            have hi1 : (k : Int) < (E.length : Int) := by omega
            have hBl : B < wr.heap.size := (Array.getElem?_eq_some_iff.1 (unhide hI).2.2).1
            have y0 : ∀ o, (wr.alloc o).cell? ⟨B, 0, none⟩ = some (.string a) := fun o => cell_of_row _ B 0 _ _ _ ((heap_alloc_old _ _ hBl).trans (unhide hI).2.2)
            have y1 : ∀ o, (wr.alloc o).cell? ⟨B, 1, none⟩ = some (.string b) := fun o => cell_of_row _ B 1 _ _ _ ((heap_alloc_old _ _ hBl).trans (unhide hI).2.2)
            have HF : Hid (∀ o, St w (wr.alloc o) S w.heap.size M2 E.length E prune ∧ (wr.alloc o).heap[B]? = some (.cells #[.string a, .string b] 53 (0, 0))) := fun o => ⟨(unhide hI).2.1.below (Joins.below_alloc1 _ o), (heap_alloc_old _ _ hBl).trans (unhide hI).2.2⟩
            clear hx r3 hq
            by_cases hx1 : x.own = a
            · by_cases hx2 : x.cont = b
              · have hfin := at_some (E := E) (a := a) (b := b) ((unhide hI).1.trans ((unhide hlast).1 ⟨hx1, hx2⟩))
                have HFN := hide hfin
                clear hfin
                subst hx1
                subst hx2
                obtain ⟨_, _, oa1, oa2, ou1, ou2⟩ := hxo
                go_wp2_with fail
                refine (cn_ns _ _ _ oa1.1 oa1.2 oa2.1 oa2.2).mono ?_
                rintro e w' ⟨rfl, rfl⟩
                go_wp2_with fail
                refine (cn_ns _ _ _ ou1.1 ou1.2 ou2.1 ou2.2).mono ?_
                rintro e w' ⟨rfl, rfl⟩
                go_wp2
                go_meet
                case rel => exact ⟨by rw [(unhide HFN).1], by rw [(unhide HFN).2], unhide HF _⟩
              · have t2 : (x.cont.toList == b.toList) = false := by rw [lawA.eq_bytes]; simp [hx2]
                have HFN : Hid (lastOf E a b = lastOf (E.take k) a b) := (unhide hI).1.trans ((unhide hlast).2 (fun q => hx2 q.2))
                subst hx1
                go_wp2
                go_roundw
                case rel => exact ⟨k, by omega, rfl, rfl, by go_num, unhide HFN, unhide HF _⟩
                case measure => simp [intOf]
            · have t1 : (x.own.toList == a.toList) = false := by rw [lawA.eq_bytes]; simp [hx1]
              have HFN : Hid (lastOf E a b = lastOf (E.take k) a b) := (unhide hI).1.trans ((unhide hlast).2 (fun q => hx1 q.1))
              clear hx1
              go_wp2
              go_roundw
              case rel => exact ⟨k, by omega, rfl, rfl, by go_num, unhide HFN, unhide HF _⟩
              case measure => simp [intOf]
      case rest =>
        clear hk
        obtain ⟨rfl, rfl, hk⟩ := hcut
        obtain ⟨at', hat'⟩ : ∃ x, x = atL E a b := ⟨_, rfl⟩
        obtain ⟨un, hun⟩ : ∃ x, x = unL E a b := ⟨_, rfl⟩
        have hLb := atun_bounds E (unhide HOK) a b
        rw [← hat', ← hun] at hLb ⊢
        obtain ⟨hLb1, hLb2⟩ := hLb
        have HAT := hide hat'
        have HUN := hide hun
        clear hat' hun
        have hNb := ns_bounds h1 h2
        have hTb := ns_bounds h3 h4
        go_wp2_with fail
        refine (cn_ns _ _ _ h1.1 h1.2 h2.1 h2.2).mono ?_
        rintro e w' ⟨rfl, rfl⟩
        go_wp2_with fail
        refine (cn_ns _ _ _ h3.1 h3.2 h4.1 h4.2).mono ?_
        rintro e w' ⟨rfl, rfl⟩
        generalize nsOf s1 s2 = N at *
        generalize nsOf s3 s4 = T at *
        go_upto_region 19 with (fail)
        go_cut [29] (fun v wd => v = .bool (decide (un < N + T) || decide (10000000000 ≤ N - at')) ∧ wd = w')
        case first =>
          by_cases hl : un < N + T
          · go_wp2
            go_meet
            case rel => exact ⟨by simp [hl], by first | rfl | trivial⟩
          · have hl' : decide (un < N + T) = false := by simpa using hl
            go_wp2
            go_meet
            case rel => exact ⟨by simp [hl'], by first | rfl | trivial⟩
        case rest =>
          obtain ⟨rfl, rfl⟩ := hcut
          have HSK : Hid (Sk w wc S w.heap.size M2 n E prune B a b) := ⟨(unhide hk).1, (unhide hk).2⟩
          obtain ⟨tN, htN⟩ : ∃ tN, tN = tn N := ⟨_, rfl⟩
          obtain ⟨wt, hwt⟩ : ∃ wt, wt = (decide (un < N + T) || decide (10000000000 ≤ N - at')) := ⟨_, rfl⟩
          have HCT : Hid (∀ W : World, Calls Yba.prog 13 #[.int .i64 N] W fun e w' => e = .returned tN ∧ Below W.heap.size W w') := fun W => by rw [htN]; exact ct_any N W (by omega) (by omega)
          have HDUE : Hid (∀ W : World, Hid (Sk w W S w.heap.size M2 n E prune B a b) → Calls Yba.prog 12 #[.pointer (some ⟨S, 0, none⟩), kv a b, tN, .int .i64 T] W fun e w' => e = .returned (.bool wt) ∧ Below W.heap.size W w') := fun W hW => by
            rw [htN, hwt, unhide HAT, unhide HUN]; exact Sk.due (unhide HOK) ha hb hW hNb hTb
          obtain ⟨y0, y1, _⟩ := Sk.cells HSK
          rw [← hwt]
          clear hwt htN hk
          go_wp2_with fail
          go_region_held3 (fun W => W.cell? ⟨B, 0, none⟩ = some (.string a) ∧ W.cell? ⟨B, 1, none⟩ = some (.string b) ∧ Hid (Sk w W S w.heap.size M2 n E prune B a b))
            (first | (refine Sk.cells (Sk.drew' ?_); assumption) | (refine Sk.cells (Sk.below hb' ?_); apply Sk.of_all; assumption) | (refine Sk.cells ?_; apply Sk.of_all; assumption) | (refine Sk.cells ?_; assumption))
            (first
              | (go_at_call 13; refine (unhide HCT _).mono ?_; rintro e w' ⟨rfl, hb'⟩)
              | (go_at_call 12; refine (unhide HDUE _ (by apply Sk.of_all; assumption)).mono ?_; rintro e w' ⟨rfl, hb'⟩))
          rename_i hH
          have HST := hide (unhide (Sk.of_all hH)).st
          clear hH HSK HCT HDUE y0 y1 hb'
          have j2 : w'.cell? ⟨S, 2, none⟩ = some (.map (some w.heap.size)) := cell_of_row w' S 2 _ _ _ (unhide HST).rs
          have j3 : w'.cell? ⟨S, 3, none⟩ = some (.int .i64 prune) := cell_of_row w' S 3 _ _ _ (unhide HST).rs
          have l1 := fun ty => (unhide HST).o1.len (t := 48) (e := 65) Yba.underlying48 ty
          have l2 := fun ty => (unhide HST).o2.len (t := 48) (e := 65) Yba.underlying48 ty
          have e46 := q46
          have e48 := q48
          go_wp2
          clear j2 j3 l1 l2 e46 e48
          go_loopw [31] (fun i wr => ∃ k : Nat, k ≤ n ∧ i = .int .i64 k ∧ Hid (St w wr S w.heap.size M2 n E prune)) (fun i _ => n - (intOf i).toNat)
          case atStart => exact ⟨0, by omega, rfl, HST⟩
          case round =>
            clear HST
            obtain ⟨k, hk, rfl, HST⟩ := hrel
            by_cases hlt : k < n
            · have hj : k < E.length := by rw [← unhide HNL]; exact hlt
              obtain ⟨a1, c1, e1, hq⟩ := unhide HN
              obtain ⟨b2, off, r1, r2, r3⟩ := hq (by omega)
              rw [r1] at e1
              cases e1
              obtain ⟨x, hx⟩ : ∃ x, x = E.getD k noEnt := ⟨_, rfl⟩
              have hxm : x ∈ E := by rw [hx, List.getD_eq_getElem?_getD, List.getElem?_eq_getElem hj]; exact List.getElem_mem hj
              have hxo := unhide HOK x hxm
              have hat : ∀ W : World, Below w.heap.size w W → EntAt W b2 (off + k * 6) x := fun W hW => by rw [hx]; exact (r3 _ hj).below hW r2
              obtain ⟨y, hy⟩ := last_some hj
              rw [← hx] at hy
              have hi1 : (k : Int) < (E.length : Int) := by omega
              clear hx r3 hq
              have x0 := (hat wr (unhide HST).bel).1
              have x1 := (hat wr (unhide HST).bel).2.1
              have z0 := fun o => (hat (wr.alloc o) ((unhide HST).bel.alloc (unhide HST).bel.size o)).1
              have z1 := fun o => (hat (wr.alloc o) ((unhide HST).bel.alloc (unhide HST).bel.size o)).2.1
              have HAT2 := hide hat
              clear hat
              go_wp2
              go_region
              clear x0 x1 z0 z1
              obtain ⟨w4, hw4⟩ : ∃ w4, w4 = (wr.alloc (.cells #[.string x.own, .string x.cont] 53)).drew := ⟨_, rfl⟩
              obtain ⟨q, hq4⟩ : ∃ q, q = wr.heap.size := ⟨_, rfl⟩
              have HSK : Hid (Sk w w4 S w.heap.size M2 E.length E prune q x.own x.cont) := by
                rw [hw4, hq4]
                exact ⟨(unhide HST).below ((Joins.below_alloc1 _ _).drew), heap_alloc_new _ _⟩
              rw [← hw4, ← hq4]
              clear hw4 hq4 HST
              obtain ⟨at2, hat2⟩ : ∃ z, z = atL E x.own x.cont := ⟨_, rfl⟩
              obtain ⟨un2, hun2⟩ : ∃ z, z = unL E x.own x.cont := ⟨_, rfl⟩
              have HRD : ∀ W : World, Hid (Sk w W S w.heap.size M2 E.length E prune q x.own x.cont) → _ := fun W hW => Sk.reads (unhide HOK) hxo.1 hxo.2.1 hy hW
              rw [← hat2, ← hun2] at HRD
              obtain ⟨xa, hxa⟩ : ∃ z, z = at2 % 1000000000 := ⟨_, rfl⟩
              obtain ⟨sa, hsa⟩ : ∃ z, z = at2 / 1000000000 := ⟨_, rfl⟩
              obtain ⟨xu, hxu⟩ : ∃ z, z = un2 % 1000000000 := ⟨_, rfl⟩
              obtain ⟨su, hsu⟩ : ∃ z, z = un2 / 1000000000 := ⟨_, rfl⟩
              simp only [fv] at HRD
              rw [← hxa, ← hsa, ← hxu, ← hsu] at HRD
              have bxa : 0 ≤ xa ∧ xa < 1000000000 := by omega
              have bxu : 0 ≤ xu ∧ xu < 1000000000 := by omega
              clear hxa hsa hxu hsu hat2 hun2
              obtain ⟨j0, j1, j2, j3, _⟩ := HRD w4 HSK
              obtain ⟨k0, k1, k2, k3, _⟩ := HRD w4.drew (Sk.drew' HSK)
              have l0 := fun o => (HRD (w4.alloc o) (Sk.below (Joins.below_alloc1 _ _) HSK)).1
              have l1 := fun o => (HRD (w4.alloc o) (Sk.below (Joins.below_alloc1 _ _) HSK)).2.1
              have l2 := fun o => (HRD (w4.alloc o) (Sk.below (Joins.below_alloc1 _ _) HSK)).2.2.1
              have l3 := fun o => (HRD (w4.alloc o) (Sk.below (Joins.below_alloc1 _ _) HSK)).2.2.2.1
              have m3 := fun o => (HRD (w4.alloc o).drew (Sk.drew' (Sk.below (Joins.below_alloc1 _ _) HSK))).2.2.2.1
              have n3 := fun o => (HRD (w4.drew.alloc o) (Sk.below (Joins.below_alloc1 _ _) (Sk.drew' HSK))).2.2.2.1
              have HRD' := hide HRD
              clear HRD
              go_wp2
              go_region
              clear j0 j1 j2 j3 k0 k1 k2 k3 l0 l1 l2 l3 m3 n3
              obtain ⟨w5, hw5⟩ : ∃ w5, w5 = (w4.alloc (.cells #[.int .u64 xa, .int .i64 sa, .pointer none, .int .u64 xu, .int .i64 su, .pointer none] 65)).drew := ⟨_, rfl⟩
              obtain ⟨q2, hq2⟩ : ∃ q2, q2 = w4.heap.size := ⟨_, rfl⟩
              have HSK5 : Hid (Sk w w5 S w.heap.size M2 E.length E prune q x.own x.cont) := by rw [hw5]; exact Sk.drew' (Sk.below (Joins.below_alloc1 _ _) HSK)
              have hr2 : Hid (w5.heap[q2]? = some (.cells #[.int .u64 xa, .int .i64 sa, .pointer none, .int .u64 xu, .int .i64 su, .pointer none] 65 (0, 0))) := by rw [hw5, hq2]; exact heap_alloc_new _ _
              rw [← hw5, ← hq2]
              clear hw5 hq2 HSK
              obtain ⟨_, j1, j2, _, j4⟩ := unhide HRD' w5 HSK5
              go_upto_region 35 with (fail)
              clear j1 j2 j4 HRD'
              obtain ⟨w6, hw6⟩ : ∃ w6, w6 = w5.alloc (.cells #[.int .u64 xa, .int .i64 sa, .pointer none, .int .u64 xu, .int .i64 su, .pointer none] 65) := ⟨_, rfl⟩
              obtain ⟨q3, hq3⟩ : ∃ q3, q3 = w5.heap.size := ⟨_, rfl⟩
              have HST6 : Hid (St w w6 S w.heap.size M2 E.length E prune) := by rw [hw6]; exact (unhide HSK5).st.below (Joins.below_alloc1 _ _)
              have HPQ : Hid (Pq w6 q2 q3 xa sa xu su) := by
                rw [hw6, hq3]
                exact ⟨(heap_alloc_old _ _ (Array.getElem?_eq_some_iff.1 (unhide hr2)).1).trans (unhide hr2), heap_alloc_new _ _⟩
              rw [← hw6, ← hq3]
              clear hw6 hq3 HSK5 hr2
              have a0 := cell_of_row w6 q2 0 _ _ _ (unhide HPQ).r2
              have a1 := cell_of_row w6 q2 1 _ _ _ (unhide HPQ).r2
              have a2 := cell_of_row w6 q2 2 _ _ _ (unhide HPQ).r2
              have b0 := cell_of_row w6 q3 0 _ _ _ (unhide HPQ).r3
              have b1 := cell_of_row w6 q3 1 _ _ _ (unhide HPQ).r3
              have b2 := cell_of_row w6 q3 2 _ _ _ (unhide HPQ).r3
              simp only [List.getElem?_toArray, List.getElem?_cons_zero, List.getElem?_cons_succ] at a0 a1 a2 b0 b1 b2
              go_wp2_with fail
              refine (equal_same xa sa w6 bxa.1 bxa.2).mono ?_
              rintro e w7 ⟨rfl, hb7⟩
              have HST7 : Hid (St w w7 S w.heap.size M2 E.length E prune) := (unhide HST6).below hb7
              have HPQ7 : Hid (Pq w7 q2 q3 xa sa xu su) := (unhide HPQ).below hb7
              clear a0 a1 a2 b0 b1 b2 HST6 HPQ hb7
              have a3 := cell_of_row w7 q2 3 _ _ _ (unhide HPQ7).r2
              have a4 := cell_of_row w7 q2 4 _ _ _ (unhide HPQ7).r2
              have a5 := cell_of_row w7 q2 5 _ _ _ (unhide HPQ7).r2
              have b3 := cell_of_row w7 q3 3 _ _ _ (unhide HPQ7).r3
              have b4 := cell_of_row w7 q3 4 _ _ _ (unhide HPQ7).r3
              have b5 := cell_of_row w7 q3 5 _ _ _ (unhide HPQ7).r3
              simp only [List.getElem?_toArray, List.getElem?_cons_zero, List.getElem?_cons_succ] at a3 a4 a5 b3 b4 b5
              go_wp2_with fail
              refine (equal_same xu su w7 bxu.1 bxu.2).mono ?_
              rintro e w8 ⟨rfl, hb8⟩
              have HST8 : Hid (St w w8 S w.heap.size M2 E.length E prune) := (unhide HST7).below hb8
              clear a3 a4 a5 b3 b4 b5 HST7 HPQ7 hb8
              go_wp2
              go_roundw
              case rel => exact ⟨k + 1, by omega, by go_num, HST8⟩
              case measure => simp [intOf]; omega
            · have hfin := hide (unhide HST).bel
              go_wp2
              go_ret
              exact ⟨rfl, unhide hfin⟩

set_option maxRecDepth 100000 in
/-- More than the law looks at. -/
theorem law_large (a : Option Addr) (n c : Nat) (own cont : Str) (p s1 s2 s3 s4 prune : Int) (w : World) (hn : 65536 < n) :
    Calls Yba.prog 5 #[.slice a n c, .string own, .string cont, .int .u8 p, .int .i32 s1, .int .i32 s2, .int .i32 s3, .int .i32 s4, .int .i64 prune] w fun e w' => e = .returned (.bool true) ∧ Below w.heap.size w w' := by
  have hdec : (65536 : Int) < (n : Int) := by omega
  go_enter Yba.func5, Yba.ntmps5
  go_wp2
  go_ret
  exact ⟨rfl, Below.refl _ _⟩
end Go.Proofs.Ybulkeine.lawC
