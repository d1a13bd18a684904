/-
  LawS6738AWhole, walked.
-/
import Derived.Test.YbulkeineABuild
import Derived.RegionTactic
namespace Go.Proofs.Ybulkeine.lawA
open Go.ChangeShapes Go.WideShapes Go.ChangeAt Go.RowKit
open Go.Maps (Keyed IsMap Tidy)

theorem law_large (a : Option Addr) (n c : Nat) (av : Option Addr) (m cv : Nat) (pn pr : Int) (w : World) (hbig : 4096 < n) (hn : n ≤ 140737488355328) :
    Calls Yba.prog 3 #[.slice a n c, .slice av m cv, .int .i64 pn, .int .i64 pr] w fun e w' => e = .returned (.bool true) ∧ w' = w := by
  have h1 : (4096 : Int) < (n : Int) := by omega
  go_enter Yba.func3, Yba.ntmps3
  go_wp2
  go_ret
  exact ⟨rfl, rfl⟩

abbrev conf (d : Value) (pn pr : Int) : Array Value := #[.int .i32 0, .int .u32 0, d, .map none, .map none, .int .i64 pn, .int .i64 pr, .chan none]
theorem q24 (w : World) (r : Option Nat) : (binOp .eql 24 (.map r) (.map none)).run Yba.prog w = .ok (.bool r.isNone) w := run_eql_map_nil w _ _ _ r Yba.underlying24
theorem q35 (w : World) : (binOp .neq 35 (.map none) (.map none)).run Yba.prog w = .ok (.bool false) w := by kernel_rfl
theorem q36 (w : World) : (binOp .neq 36 (.chan none) (.chan none)).run Yba.prog w = .ok (.bool false) w := by kernel_rfl
theorem conf_cells {w : World} {d : Value} {pn pr : Int} {S : Nat} (hS : w.heap[S]? = some (.cells (conf d pn pr) 38 (0, 0))) :
    w.cell? ⟨S, 2, none⟩ = some d ∧ w.cell? ⟨S, 3, none⟩ = some (.map none) ∧ w.cell? ⟨S, 4, none⟩ = some (.map none) ∧ w.cell? ⟨S, 5, none⟩ = some (.int .i64 pn) ∧ w.cell? ⟨S, 6, none⟩ = some (.int .i64 pr) ∧ w.cell? ⟨S, 7, none⟩ = some (.chan none) :=
  ⟨cell_of_row w S 2 _ _ _ hS, cell_of_row w S 3 _ _ _ hS, cell_of_row w S 4 _ _ _ hS, cell_of_row w S 5 _ _ _ hS, cell_of_row w S 6 _ _ _ hS, cell_of_row w S 7 _ _ _ hS⟩

set_option maxRecDepth 100000 in
theorem law_nil (av : Option Addr) (m cv : Nat) (pn pr : Int) (w : World) :
    Calls Yba.prog 3 #[.slice none 0 0, .slice av m cv, .int .i64 pn, .int .i64 pr] w fun e w' => e = .returned (.bool true) ∧ Below w.heap.size w w' := by
  have HB := hide (build_nil av m cv w)
  have HT := hide (take_nil w.heap.size (conf (.map none) pn pr) 38 (w.alloc (.cells (conf (.map none) pn pr) 38)) (heap_alloc_new _ _) rfl rfl)
  have r24 := q24
  have r35 := q35
  have r36 := q36
  have ln := fun (ty : TypeId) (w : World) => Go.Maps.len_nil (w := w) Yba.underlying24 ty
  have HC : Hid (∀ w' : World, (w.alloc (.cells (conf (.map none) pn pr) 38)).grownBy w' none → w'.heap[w.heap.size]? = some (.cells (conf (.map none) pn pr) 38 (0, 0))) := fun w' h => (h.block _ (by simp) (by simp)).trans (heap_alloc_new _ _)
  go_enter Yba.func3, Yba.ntmps3
  go_wp2_with (go_at_call 6; refine (unhide HB).mono ?_; rintro e w' ⟨rfl, hw'⟩; replace hw' := hw'.symm; subst hw')
  refine (unhide HT).mono ?_
  rintro e w3 ⟨hg, rfl⟩
  obtain ⟨c2, c3, c4, c5, c6, c7⟩ := conf_cells (unhide HC w3 hg)
  have HBEL : Hid (Below w.heap.size w w3) := ((Below.refl _ _).alloc (Nat.le_refl _) _).grown hg (by simp) (fun k e => by cases e)
  clear hg HC HT HB
  go_wp2
  go_ret
  exact ⟨rfl, unhide HBEL⟩
/-- The look-up in what is left. -/
theorem look_left {w : World} {B n : Nat} {D : DataW Unit} (h : OwnD w B n D) {x : Str} (hx : x.size ≤ maxLen) :
    ∃ u : Bool, D.atKey (kx x) (.lit (.bool false)) = .lit (.bool u) ∧ (Instr.lookup 24 (.map (some B)) (.string x) true).run Yba.prog w = .ok (.tuple #[.bool u, .bool (Maps.has D (kx x))]) w := by
  obtain ⟨v, ps, hr, hv⟩ := h.look_ok law9 Yba.underlying24 (z := .bool false) (by kernel_rfl) (plainElem_bool Yba.underlying4 false) (key_mk hx)
  obtain ⟨u, rfl, hu⟩ := plainElem_bool_inv Yba.underlying4 hv
  exact ⟨u, congrArg Prod.fst hu, hr⟩

set_option maxHeartbeats 2000000 in
set_option maxRecDepth 100000 in
theorem law_some (ad : Addr) (n c : Nat) (NL : List Str) (av : Option Addr) (m cv : Nat) (VL : List Bool) (pn pr : Int) (w : World) (hN : StrsAt w (.slice (some ad) n c) NL) (hV : BoolsAt w (.slice av m cv) VL) (hbd : n ≤ 4096) (hm : m ≤ 140737488355328)
    (hsh : ∀ x ∈ NL, x.size ≤ maxLen) :
    Calls Yba.prog 3 #[.slice (some ad) n c, .slice av m cv, .int .i64 pn, .int .i64 pr] w fun e w' => e = .returned (.bool true) ∧ Below w.heap.size w w' := by
  have HB := hide (build_some ad n c NL av m cv VL w hN hV hbd hm hsh)
  have h4 : ¬ (4096 : Int) < (n : Int) := by omega
  clear hN hV hsh hm
  have r24 := q24
  have r35 := q35
  have r36 := q36
  go_enter Yba.func3, Yba.ntmps3
  go_wp2_with fail
  refine (unhide HB).mono ?_
  rintro e w1 ⟨vk, vv, keys, kv, D, rfl, hB⟩
  clear HB
  obtain ⟨ak, ck, rfl, hpk⟩ := strs_of_own hB.rk rfl
  obtain ⟨ab, cb, rfl, hpv⟩ := bools_of_own hB.rv hB.is.len.symm
  obtain ⟨B, hBe⟩ : ∃ B, B = w.heap.size := ⟨_, rfl⟩
  have hT := take_some w1.heap.size B n D (conf (.map (some B)) pn pr) 38 (w1.alloc (.cells (conf (.map (some B)) pn pr) 38)) (heap_alloc_new _ _) rfl rfl (by rw [hBe]; exact hB.map.alloc _)
  have HT := hide hT
  have HBE := hide hBe
  rw [← hBe]
  obtain ⟨nk, hnk⟩ : ∃ nk, nk = keys.length := ⟨_, rfl⟩
  have hnk4 : nk ≤ 4096 := by have := hB.le; omega
  have HNK := hide hnk
  have HB' := hide hB
  have hlen := hB.is.len
  rw [hlen, ← hnk]
  clear hT hpk hpv hBe hnk hlen
  go_wp2_with fail
  refine (unhide HT).mono ?_
  rintro e w3 ⟨hg, hout⟩
  clear HT
  have hBlt : B < w1.heap.size := by rw [unhide HBE]; exact hB.map.lt
  have hS3 : w3.heap[w1.heap.size]? = some (.cells (conf (.map (some B)) pn pr) 38 (0, 0)) := (hg.block _ (by simp) (by simp; omega)).trans (heap_alloc_new _ _)
  obtain ⟨c2, c3, c4, c5, c6, c7⟩ := conf_cells hS3
  have hrk3 := (hB.rk.alloc (.cells (conf (.map (some B)) pn pr) 38)).kept hg (own_ne hB.rk (by rw [unhide HBE]; omega))
  have hrv3 := (hB.rv.alloc (.cells (conf (.map (some B)) pn pr) 38)).kept hg (own_ne hB.rv (by rw [unhide HBE]; omega))
  have HBEL : Hid (Below w.heap.size w w3) := (hB.bel.alloc hB.bel.size _).grown hg (by have := hB.bel.size; simp; omega) (fun k e => by cases e; rw [unhide HBE]; exact Nat.le_refl _)
  have hSlt : w1.heap.size < w3.heap.size := by have := hg.size; simp at this; omega
  have HRK := hide hrk3
  have HRV := hide hrv3
  have hbn : (some B).isNone = false := rfl
  clear hrk3 hrv3 hg hS3 hB
  rcases hout with ⟨hs0, rfl, hown⟩ | ⟨x, hx, hhas, rfl, hown⟩
  · have hk0 : nk = 0 := by rw [unhide HNK, ← (unhide HB').is.size]; exact hs0
    subst hk0
    have ln := fun (ty : TypeId) => hown.len (t := 24) Yba.underlying24 ty
    rw [hs0] at ln
    clear hown hs0
    go_wp2
    go_ret
    exact ⟨rfl, unhide HBEL⟩
  · have hmem : x ∈ keys := ((unhide HB').is.has x hx).1 hhas
    rcases idx_cases keys x with ⟨hno, _⟩ | ⟨j, hj, hjx, hidx⟩
    · exact absurd hmem hno
    have hLe : LeftIs (D.del (kx x)) keys kv j := by rw [← hjx]; exact (unhide HB').is.del ((unhide HB').map.tidy law9) hj
    have hsz : Maps.size (D.del (kx x)) + 1 = nk := by rw [unhide HNK]; exact hLe.size
    have ln := fun (ty : TypeId) => hown.len (t := 24) Yba.underlying24 ty
    obtain ⟨sz, hsze⟩ : ∃ sz, sz = Maps.size (D.del (kx x)) := ⟨_, rfl⟩
    rw [← hsze] at ln hsz
    have HI := hide (index_at hidx (strs_of_own (unhide HRK) rfl) (by have := unhide HNK; omega))
    rw [← unhide HNK] at HI
    subst hsz
    have e0 : (((sz : Nat) + 1 : Nat) : Int) = (sz : Int) + 1 := by omega
    have HLE := hide hLe
    have HOWN := hide hown
    have hjn : j < sz + 1 := by rw [unhide HNK]; exact hj
    clear hsze hhas hmem hown hLe hidx hj
    go_wp2_with (go_at_call 8; refine (unhide HI).mono ?_; rintro e w' ⟨rfl, hw'⟩; replace hw' := hw'.symm; subst hw')
    obtain ⟨gk, pk, hak⟩ := Joins.ownsRow_form (unhide HRK) (by rw [← unhide HNK]; omega)
    obtain ⟨gv, pv, hav⟩ := Joins.ownsRow_form (unhide HRV) (by rw [← unhide HNK]; omega)
    have hkl : kv.length = keys.length := (unhide HB').is.len
    rw [hkl] at hav HRV
    cases hak
    cases hav
    have hKC : Hid (∀ k, k < sz + 1 → w3.cell? ⟨gk, k, none⟩ = some (.string (keys.getD k noStr))) := fun k hk => by
      have hk' : k < keys.length := by rw [← unhide HNK]; exact hk
      rw [(unhide HRK).cellAt k (by omega), List.getElem?_map, List.getD_eq_getElem?_getD, List.getElem?_eq_getElem hk']
      rfl
    have hVC : Hid (∀ k, k < sz + 1 → w3.cell? ⟨gv, k, none⟩ = some (.bool (kv.getD k false))) := fun k hk => by
      have hk' : k < keys.length := by rw [← unhide HNK]; exact hk
      rw [(unhide HRV).cellAt k (by omega), List.getElem?_map, List.getD_eq_getElem?_getD, List.getElem?_eq_getElem (by omega)]
      rfl
    have hgk : gk < w3.heap.size := ((unhide HRK).lt gk rfl).2
    have hgv : gv < w3.heap.size := ((unhide HRV).lt gv rfl).2
    clear HRK HRV hkl
    go_loopw [16] (fun i wr => ∃ k : Nat, k ≤ sz + 1 ∧ i = .int .i64 k ∧ Hid (Below w3.heap.size w3 wr)) (fun i _ => sz + 1 - (intOf i).toNat)
    case atStart => exact ⟨0, by omega, rfl, Below.refl _ _⟩
    case round =>
      obtain ⟨k, hk, rfl, hbel⟩ := hrel
      by_cases hlt : k < sz + 1
      · obtain ⟨y, hy⟩ : ∃ y, y = keys.getD k noStr := ⟨_, rfl⟩
        have d2 : wr.cell? ⟨w1.heap.size, 2, none⟩ = some (.map (some B)) := ((unhide hbel).cell (by exact hSlt)).trans c2
        have dk : wr.cell? ⟨gk, k, none⟩ = some (.string y) := by rw [hy]; exact ((unhide hbel).cell (by exact hgk)).trans (unhide hKC k hlt)
        have dv : wr.cell? ⟨gv, k, none⟩ = some (.bool (kv.getD k false)) := ((unhide hbel).cell (by exact hgv)).trans (unhide hVC k hlt)
        have hk' : k < keys.length := by rw [← unhide HNK]; exact hlt
        have hys : y.size ≤ maxLen := by rw [hy]; exact (unhide HB').is.short _ (getD_mem hk')
        have hlk : ∀ q, ∃ u : Bool, (D.del (kx x)).atKey (kx y) (.lit (.bool false)) = .lit (.bool u) ∧ (Instr.lookup 24 (.map (some B)) (.string y) true).run Yba.prog (wr.drewN q) = .ok (.tuple #[.bool u, .bool (Maps.has (D.del (kx x)) (kx y))]) (wr.drewN q) := fun q => by
          have hb := (unhide hbel).trans (Joins.below_draws _ wr q)
          exact look_left ((unhide HOWN).kept (w' := wr.drewN q) (row := none) ⟨hb.os, hb.tape, hb.output, hb.size, fun i hi _ => hb.block i hi⟩ (by simp)) hys
        have hi1 : (k : Int) < (sz : Int) + 1 := by omega
        by_cases hkj : k = j
        · have hhas : Maps.has (D.del (kx x)) (kx y) = false := by rw [hy, hkj]; exact (unhide HLE).gone
          obtain ⟨u, hu, _⟩ := hlk 0
          have hlk' : ∀ q, (Instr.lookup 24 (.map (some B)) (.string y) true).run Yba.prog (wr.drewN q) = .ok (.tuple #[.bool u, .bool false]) (wr.drewN q) := fun q => by
            obtain ⟨u', hu', hr⟩ := hlk q
            rw [hu] at hu'
            cases hu'
            rw [hhas] at hr
            exact hr
          clear hlk hu hhas hy hys hk' dv
          subst hkj
          go_wp2
          go_quiet (fail)
          go_wp2
          exact ⟨⟨k + 1, by omega, by go_num, (unhide hbel).trans (Joins.below_draws _ wr nq)⟩, by simp [intOf]; omega⟩
        · have hhas : Maps.has (D.del (kx x)) (kx y) = true := by rw [hy]; exact (unhide HLE).there k hk' hkj
          have hlk' : ∀ q, (Instr.lookup 24 (.map (some B)) (.string y) true).run Yba.prog (wr.drewN q) = .ok (.tuple #[.bool (kv.getD k false), .bool true]) (wr.drewN q) := fun q => by
            obtain ⟨u', hu', hr⟩ := hlk q
            rw [hy, (unhide HLE).at_ k hk' hkj] at hu'
            cases hu'
            rw [hhas] at hr
            exact hr
          have hne : ((k : Int) == (j : Int)) = false := by rw [beq_eq_false_iff_ne]; omega
          clear hlk hhas hy hys hk' hkj
          generalize kv.getD k false = u at *
          have huu : (u != u) = false := by cases u <;> rfl
          go_wp2
          go_quiet (fail)
          go_wp2
          exact ⟨⟨k + 1, by omega, by go_num, (unhide hbel).trans (Joins.below_draws _ wr nq)⟩, by simp [intOf]; omega⟩
      · have hi1 : ¬ (k : Int) < (sz : Int) + 1 := by omega
        have HF : Hid (Below w.heap.size w wr) := (unhide HBEL).trans (Joins.below_le (unhide hbel) (unhide HBEL).size)
        go_wp2
        go_ret
        exact ⟨rfl, unhide HF⟩
end Go.Proofs.Ybulkeine.lawA
