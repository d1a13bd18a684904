/-
  (*confirming).take: the lock by the library's contracts, the map by the laws on maps; the order of the range is whatever the tape says.
-/
import Derived.Test.YbulkeineAData
import Derived.Conc.MuLone
import Derived.Maps.OwnSet
import Derived.Maps.RangeWalk
import Derived.Laws.IdiomRangeMap
import Derived.Sort.MapsRangeIn
namespace Go.Proofs.Ybulkeine.lawA
open Go.ChangeShapes Go.WideShapes Go.ChangeAt Go.RowKit
open Go.Maps (Keyed)
open Go.MuLone

theorem law9 : Keyed Yba.prog 9 := Go.Maps.string_keyed Yba.underlying9
abbrev kx (x : Str) : Lit := .string x.data.toList
abbrev OwnD (w : World) (B n : Nat) (D : DataW Unit) : Prop := w.ownsMap Yba.prog 9 (plainElem Yba.prog 4) B n D

theorem plainElem_bool_inv {P : Program} {e : TypeId} (he : P.underlying e = some .bool) {v : Value} {z : DataW Unit × List MemPlace} (h : plainElem P e v = some z) : ∃ x, v = .bool x ∧ z = (.lit (.bool x), []) := by
  unfold plainElem at h
  rw [he] at h
  cases v <;> simp at h
  exact ⟨_, rfl, h.symm⟩
theorem key_inv {x : Str} {kl : Lit} (h : keyOf Yba.prog 9 (.string x) = some kl) : kl = kx x ∧ x.size ≤ maxLen := by
  simp [keyOf, Yba.underlying9, mapKey] at h
  exact ⟨h.2.symm, h.1⟩

theorem grown_trans {a b c : World} {row : Option Nat} (h : a.grownBy b row) (k : b.grownBy c row) : a.grownBy c row :=
  ⟨k.os.trans h.os, k.tape.trans h.tape, k.output.trans h.output, Nat.le_trans h.size k.size, fun i hi hne => (k.block i (Nat.lt_of_lt_of_le hi h.size) hne).trans (h.block i hi hne)⟩
theorem grown_new {a b : World} {r : Nat} (h : a.grownBy b (some r)) {c : World} (hc : c.heap.size ≤ r) (k : c.grownBy a none) : c.grownBy b none :=
  ⟨h.os.trans k.os, h.tape.trans k.tape, h.output.trans k.output, Nat.le_trans k.size h.size, fun i hi _ => (h.block i (Nat.lt_of_lt_of_le hi k.size) (fun e => by cases e; omega)).trans (k.block i hi (by simp))⟩

/-- The lock was taken and let go: the struct's block is as it was. -/
theorem grown_restore {w w3 : World} {S : Nat} {row : Option Nat} {cs : Array Value} {t : TypeId} (hS : w.heap[S]? = some (.cells cs t (0, 0))) (h0 : cs[0]? = some (.int .i32 0)) (hSB : some S ≠ row)
    (hg : (w.setCell ⟨S, 0, none⟩ (.int .i32 1)).grownBy w3 row) : w.grownBy (w3.setCell ⟨S, 0, none⟩ (.int .i32 0)) row := by
  have hS1 := Joins.block_setCell (i := 0) hS (.int .i32 1)
  have hlt : S < (w.setCell ⟨S, 0, none⟩ (.int .i32 1)).heap.size := (Array.getElem?_eq_some_iff.1 hS1).1
  have hS3 : w3.heap[S]? = _ := (hg.block S hlt hSB).trans hS1
  refine ⟨hg.os, hg.tape, hg.output, ?_, fun i hi hne => ?_⟩
  · have := hg.size
    simpa [World.setCell] using this
  · by_cases his : i = S
    · subst his
      rw [Joins.block_setCell (i := 0) hS3 (.int .i32 0), hS]
      have : (cs.setIfInBounds 0 (.int .i32 1)).setIfInBounds 0 (.int .i32 0) = cs := by
        apply Array.ext_getElem?
        intro j
        rw [Array.getElem?_setIfInBounds, Array.getElem?_setIfInBounds]
        by_cases hj : 0 = j
        · subst hj
          have hs : 0 < cs.size := (Array.getElem?_eq_some_iff.1 h0).1
          simp [hs]
          rw [Array.getElem?_eq_getElem hs] at h0
          exact (Option.some.inj h0).symm
        · simp [hj]
      rw [this]
    · rw [Below.heap_setCell _ _ _ _ his, hg.block i (by simpa [World.setCell] using hi) hne, Below.heap_setCell _ _ _ _ his]

/-- What take tells of a map that is there. -/
def TakeOut (w : World) (B n : Nat) (D : DataW Unit) (e : Ending) (w' : World) : Prop :=
  w.grownBy w' (some B) ∧ ((Maps.size D = 0 ∧ e = .returned (.tuple #[.string noStr, .bool false]) ∧ OwnD w' B n D) ∨
    ∃ x : Str, x.size ≤ maxLen ∧ Maps.has D (kx x) = true ∧ e = .returned (.tuple #[.string x, .bool true]) ∧ OwnD w' B n (D.del (kx x)))

set_option maxHeartbeats 1000000 in
theorem take_some (S B n : Nat) (D : DataW Unit) (cs : Array Value) (t : TypeId) (w : World) (hS : w.heap[S]? = some (.cells cs t (0, 0))) (h0 : cs[0]? = some (.int .i32 0)) (h2 : cs[2]? = some (.map (some B))) (hown : OwnD w B n D) :
    Calls Yba.prog 7 #[.pointer (some ⟨S, 0, none⟩)] w (TakeOut w B n D) := by
  have hSB : S ≠ B := fun e => by
    subst e
    obtain ⟨es, clock, hb, _⟩ := hown
    rw [hS] at hb; cases hb
  have c0 : w.cell? ⟨S, 0, none⟩ = some (.int .i32 0) := (cell_of_row w S 0 cs t (0, 0) hS).trans h0
  have f0 : w.frozen? ⟨S, 0, none⟩ = false := frozen_of_row _ _ _ _ _ hS
  have hS1 := Joins.block_setCell (i := 0) hS (.int .i32 1)
  obtain ⟨w1, ew1⟩ : ∃ w1, w1 = w.setCell ⟨S, 0, none⟩ (.int .i32 1) := ⟨_, rfl⟩
  rw [← ew1] at hS1
  have hlt1 : S < w1.heap.size := (Array.getElem?_eq_some_iff.1 hS1).1
  have hown1 : OwnD w1 B n D := by rw [ew1]; exact hown.setCell (a := ⟨S, 0, none⟩) (fun e => hSB e.symm) _
  have c2 : w1.cell? ⟨S, 2, none⟩ = some (.map (some B)) := (cell_of_row w1 S 2 _ t (0, 0) hS1).trans (by rw [Array.getElem?_setIfInBounds, if_neg (by decide)]; exact h2)
  have LF := hide (lock_free Yba.muLib ⟨S, 0, none⟩ w c0 f0)
  rw [← ew1] at LF
  have HE := hide ew1
  have HOWN := hide hown1
  have HS := hide hS
  have HS1 := hide hS1
  have H0 := hide h0
  have c1' : w1.cell? ⟨S, 0, none⟩ = some (.int .i32 1) := (cell_of_row w1 S 0 _ t (0, 0) hS1).trans (by rw [Array.getElem?_setIfInBounds, if_pos rfl, if_pos (Array.getElem?_eq_some_iff.1 h0).1])
  have f1' : w1.frozen? ⟨S, 0, none⟩ = false := frozen_of_row _ _ _ _ _ hS1
  have HC1 := hide c1'
  have HF1 := hide f1'
  clear ew1 hown hown1 hS hS1 h0 h2 c0 f0 c1' f1'
  go_enter_defers Yba.func7, Yba.ntmps7
  go_wp2_with (first
    | (go_at_call 15; refine (unhide LF).mono ?_; rintro e w' ⟨rfl, hw'⟩; replace hw' := hw'.symm; subst hw')
    | (at_range; refine wpList_range_own _ rfl _ 24 rfl 9 4 law9 Yba.underlying24 _ B n D rfl (unhide HOWN) ?_; intro w0 hrg0 hg0 hs0))
  go_frame
  have c20 : w0.cell? ⟨S, 2, none⟩ = some (.map (some B)) := (World.cell?_of_block (hg0.block S hlt1 (by simp))).trans c2
  refine wp_loop_rounds 1 ?_
  rw [rounds_succ]
  have b2 : ∀ w2 : World, w0.grownBy w2 (some w1.heap.size) → w2.heap[S]? = w1.heap[S]? := fun w2 hg1 => (hg1.block S (Nat.lt_of_lt_of_le hlt1 hg0.size) (fun e => by cases e; omega)).trans (hg0.block S hlt1 (by simp))
  have HB2 := hide b2
  have HG0 := hide hg0
  have HR0 := hide hrg0
  clear b2 hg0 hrg0 hs0
  go_wp2_with (first
    | (at_next; refine wpList_next_ranges _ rfl (.tmp 16) rfl 9 law9 (plainElem Yba.prog 4) Value.string Value.bool (fun key kl hk => Go.Maps.keyOf_string_inv Yba.underlying9 hk) (fun v y hv => (plainElem_bool_inv Yba.underlying4 hv).imp fun _ h => h.1) B w1.heap.size n D (Maps.has D) (Maps.size D) rfl (unhide HR0) (fun hc0 hl0 => ?done) (fun x c kl y w2 cnt2 hkey hlk hv hat hrg1 hlt hg1 hs1 hen => have c22 : w2.cell? ⟨S, 2, none⟩ = some (.map (some B)) := (World.cell?_of_block (unhide HB2 w2 hg1)).trans c2; ?more))
    | (at_delete; refine wpList_delete_ranges _ rfl _ _ 24 9 rfl 4 law9 Yba.underlying24 (plainElem Yba.prog 4) B w1.heap.size n D _ cnt2 rfl hrg1 _ _ rfl hkey ?_; intro w3 cnt3 hrg3 hle hturn))
  · have hb0 := (unhide HG0).block S hlt1 (by simp)
    refine leaves_cons (f := 16) (args := #[.pointer (some ⟨S, 0, none⟩)]) (by simp) (by simp [go_sem]) ?_
    refine (unlock_deferred Yba.muLib ⟨S, 0, none⟩ .returning _ ((World.cell?_of_block hb0).trans (unhide HC1)) ((World.frozen?_of_block hb0).trans (unhide HF1))).mono ?_
    rintro e u' w'' ⟨rfl, rfl, rfl⟩
    exact ⟨_, results_tmp2 rfl _ _ _, grown_restore (unhide HS) (unhide H0) (by simpa using hSB) (by rw [← unhide HE]; exact (unhide HG0).but _), .inl ⟨hc0, rfl, ((unhide HR0).owns).setCell (a := ⟨S, 0, none⟩) (fun e => hSB e.symm) _⟩⟩
  · obtain ⟨rfl, hxs⟩ := key_inv hkey
    have HG := grown_new hg1 (Nat.le_refl _) (unhide HG0)
    have hb3 : w3.heap[S]? = w1.heap[S]? := (hturn.grown.block S (by have := HG.size; omega) (by simpa using hSB)).trans (unhide HB2 w2 hg1)
    refine leaves_cons (f := 16) (args := #[.pointer (some ⟨S, 0, none⟩)]) (by simp) (by simp [go_sem]) ?_
    refine (unlock_deferred Yba.muLib ⟨S, 0, none⟩ .returning _ ((World.cell?_of_block hb3).trans (unhide HC1)) ((World.frozen?_of_block hb3).trans (unhide HF1))).mono ?_
    rintro e u' w'' ⟨rfl, rfl, rfl⟩
    exact ⟨_, results_tmp2 rfl _ _ _, grown_restore (unhide HS) (unhide H0) (by simpa using hSB) (by rw [← unhide HE]; exact grown_trans (HG.but _) hturn.grown), .inr ⟨x, hxs, hlk, rfl, (hrg3.owns).setCell (a := ⟨S, 0, none⟩) (fun e => hSB e.symm) _⟩⟩

set_option maxHeartbeats 1000000 in
theorem take_nil (S : Nat) (cs : Array Value) (t : TypeId) (w : World) (hS : w.heap[S]? = some (.cells cs t (0, 0))) (h0 : cs[0]? = some (.int .i32 0)) (h2 : cs[2]? = some (.map none)) :
    Calls Yba.prog 7 #[.pointer (some ⟨S, 0, none⟩)] w fun e w' => w.grownBy w' none ∧ e = .returned (.tuple #[.string noStr, .bool false]) := by
  have c0 : w.cell? ⟨S, 0, none⟩ = some (.int .i32 0) := (cell_of_row w S 0 cs t (0, 0) hS).trans h0
  have f0 : w.frozen? ⟨S, 0, none⟩ = false := frozen_of_row _ _ _ _ _ hS
  have hS1 := Joins.block_setCell (i := 0) hS (.int .i32 1)
  obtain ⟨w1, ew1⟩ : ∃ w1, w1 = w.setCell ⟨S, 0, none⟩ (.int .i32 1) := ⟨_, rfl⟩
  rw [← ew1] at hS1
  have hlt1 : S < w1.heap.size := (Array.getElem?_eq_some_iff.1 hS1).1
  have c2 : w1.cell? ⟨S, 2, none⟩ = some (.map none) := (cell_of_row w1 S 2 _ t (0, 0) hS1).trans (by rw [Array.getElem?_setIfInBounds, if_neg (by decide)]; exact h2)
  have LF := hide (lock_free Yba.muLib ⟨S, 0, none⟩ w c0 f0)
  rw [← ew1] at LF
  have HE := hide ew1
  have HS := hide hS
  have H0 := hide h0
  have hb0 := (World.grownBy_alloc w1 (.mapIter none 0 #[] 0) none).block S hlt1 (by simp)
  have c1' : (w1.alloc (.mapIter none 0 #[] 0)).cell? ⟨S, 0, none⟩ = some (.int .i32 1) := (World.cell?_of_block hb0).trans ((cell_of_row w1 S 0 _ t (0, 0) hS1).trans (by rw [Array.getElem?_setIfInBounds, if_pos rfl, if_pos (Array.getElem?_eq_some_iff.1 h0).1]))
  have f1' : (w1.alloc (.mapIter none 0 #[] 0)).frozen? ⟨S, 0, none⟩ = false := (World.frozen?_of_block hb0).trans (frozen_of_row _ _ _ _ _ hS1)
  have HC1 := hide c1'
  have HF1 := hide f1'
  have rn := fun (w : World) => run_range_nilMap (P := Yba.prog) w 24 9 4 Yba.underlying24
  have nn := fun (ty : TypeId) (w : World) (a b : Nat) (s : Array Nat) => run_next_nilMap (P := Yba.prog) w ty a b s
  clear ew1 hS hS1 h0 h2 c0 f0 c1' f1' hb0
  go_enter_defers Yba.func7, Yba.ntmps7
  go_wp2_with (go_at_call 15; refine (unhide LF).mono ?_; rintro e w' ⟨rfl, hw'⟩; replace hw' := hw'.symm; subst hw')
  refine wp_loop_rounds 1 ?_
  rw [rounds_succ]
  go_wp2
  refine leaves_cons (f := 16) (args := #[.pointer (some ⟨S, 0, none⟩)]) (by simp) (by simp [go_sem]) ?_
  refine (unlock_deferred Yba.muLib ⟨S, 0, none⟩ .returning _ (unhide HC1) (unhide HF1)).mono ?_
  rintro e u' w'' ⟨rfl, rfl, rfl⟩
  exact ⟨_, results_tmp2 rfl _ _ _, grown_restore (unhide HS) (unhide H0) (by simp) (by rw [← unhide HE]; exact World.grownBy_alloc _ _ _), rfl⟩
end Go.Proofs.Ybulkeine.lawA
