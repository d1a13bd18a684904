/-
  WHAT THE ROW's CELL 'laid' GIVES THE WALKS (Gl), AND THE FIRST ARGUMENT OPENED (RowsAt).
-/
import Derived.Test.YbulkeimqDoorRows
import Derived.Test.YbulkeimqDoorBLeaf
import Derived.ProofKit
import Derived.LaidMore
import Derived.OpenShut
import Derived.Stop.Joined
import Derived.Stop.LaidErr
import Derived.LaidSub
import Derived.SizedLaws
import Derived.ChangeOld
import Derived.OpenVars
import Derived.Deep.Matrix
namespace Go.Proofs.YbulkeimqDoor.lawB
open Go.ChangeShapes Go.WideShapes Go.ChangeAt Go.WideElems Go.RowKit
set_option linter.unusedVariables false
set_option maxRecDepth 100000

abbrev nm (i : Nat) : String := Rows.lawS6737BWholeSpec.vars.getD i ""
theorem g0 : Ybad.prog.globalNamed (nm 0) = some 0 := by kernel_rfl
theorem g1 : Ybad.prog.globalNamed (nm 1) = some 1 := by kernel_rfl
theorem g2 : Ybad.prog.globalNamed (nm 2) = some 2 := by kernel_rfl
theorem g3 : Ybad.prog.globalNamed (nm 3) = some 3 := by kernel_rfl
theorem g4 : Ybad.prog.globalNamed (nm 4) = some 4 := by kernel_rfl
theorem g5 : Ybad.prog.globalNamed (nm 5) = some 5 := by kernel_rfl
theorem g6 : Ybad.prog.globalNamed (nm 6) = some 6 := by kernel_rfl
theorem gN : Ybad.prog.globalNamed (nm 7) = some 8 := by kernel_rfl
theorem gF : Ybad.prog.globalNamed (nm 8) = some 7 := by kernel_rfl
theorem t0 : (Ybad.prog.globals[0]?).map (·.type) = some 27 := by kernel_rfl
theorem t1 : (Ybad.prog.globals[1]?).map (·.type) = some 27 := by kernel_rfl
theorem t2 : (Ybad.prog.globals[2]?).map (·.type) = some 27 := by kernel_rfl
theorem t3 : (Ybad.prog.globals[3]?).map (·.type) = some 27 := by kernel_rfl
theorem t4 : (Ybad.prog.globals[4]?).map (·.type) = some 27 := by kernel_rfl
theorem t5 : (Ybad.prog.globals[5]?).map (·.type) = some 27 := by kernel_rfl
theorem t6 : (Ybad.prog.globals[6]?).map (·.type) = some 27 := by kernel_rfl
theorem tF : (Ybad.prog.globals[7]?).map (·.type) = some 55 := by kernel_rfl
theorem tN : (Ybad.prog.globals[8]?).map (·.type) = some 56 := by kernel_rfl
theorem star : "*errors.errorString" = "*" ++ "errors.errorString" := by decide
theorem row57 (u : TypeId) (h : Ybad.prog.typeName? 3 u = some "*errors.errorString") : u = 57 :=
  typeName_ptr_named (nm := "errors.errorString") (by rw [← star]; kernel_rfl) (by kernel_rfl) (by decide) u (by rw [← star]; exact h)
theorem c79 : Ybad.prog.cellsOf 79 = 1 := by kernel_rfl
theorem c9 : Ybad.prog.cellsOf 9 = 1 := by kernel_rfl
theorem c5 : Ybad.prog.cellsOf 5 = 1 := by kernel_rfl
theorem c23 : Ybad.prog.cellsOf 23 = 1 := by kernel_rfl
theorem c44 : Ybad.prog.cellsOf 44 = 1 := by kernel_rfl
theorem c55 : Ybad.prog.cellsOf 55 = 2 := by kernel_rfl
theorem c56 : Ybad.prog.cellsOf 56 = 16 := by kernel_rfl

theorem sentinel_cell {n : String} {g : Nat} {r : List (String × DataW Unit)} {W : World} {text : List UInt8} (h : laidMet Ybad.prog ((n, .iface "*errors.errorString" (.ptr (.agg [.lit (.string text)]))) :: r) W)
    (hg : Ybad.prog.globalNamed n = some g) (ht : (Ybad.prog.globals[g]?).map (·.type) = some 27) : ∃ a : Addr, W.cell? ⟨g, 0, none⟩ = some (.iface 57 (.pointer (some a))) := by
  obtain ⟨a, s, hv, _⟩ := laid_sentinel h hg ht Ybad.underlying27 row57 Ybad.underlying57 Ybad.underlying79 rfl rfl Ybad.underlying9 c79 c9
  exact ⟨a, by simpa using World.var?_cell hg hv 0⟩

theorem first_row {r : List (String × DataW Unit)} {W : World} (h : laidMet Ybad.prog ((nm 8, Rows.laid_example_com_lucioles_lucioles_cbch_firstBlocks) :: r) W) :
    ∃ t fr, W.heap[7]? = some (.cells #[.int .u8 0, .int .u8 8] t fr) := by
  obtain ⟨ps, ⟨g, t, cs, f, p, q, hg, ht, hv, hd, _⟩, _⟩ := h
  obtain rfl := Option.some.inj (gF.symm.trans hg)
  obtain rfl := Option.some.inj (tF.symm.trans ht)
  obtain ⟨xs, m, _, hx, hlen, hn, hel⟩ := DataW.trod_array Ybad.underlying55 hd
  simp only [Prod.mk.injEq] at hx
  rw [c55] at hlen
  have h0 := hel 0 (by decide)
  have h1 := hel 1 (by decide)
  rw [c44] at h0 h1
  obtain ⟨l⟩ := cs
  match l, hlen with
  | [a, b], _ =>
    match xs, hn with
    | [x, y], _ =>
      obtain ⟨k0, e0, d0, _⟩ := DataW.trod_int Ybad.underlying44 (show DataW.trod _ Ybad.prog W 0 _ _ m 44 _ = some x from h0)
      obtain ⟨k1, e1, d1, _⟩ := DataW.trod_int Ybad.underlying44 (show DataW.trod _ Ybad.prog W 0 _ _ m 44 _ = some y from h1)
      rw [d0, d1] at hx
      have hx1 := hx.1
      simp only [Rows.laid_example_com_lucioles_lucioles_cbch_firstBlocks, List.map_cons, List.map_nil, DataW.agg.injEq, List.cons.injEq, DataW.lit.injEq, Lit.int.injEq, and_true, true_and] at hx1
      simp at e0 e1
      rw [e0, e1, ← hx1.1, ← hx1.2] at hv
      simp only [World.var?, gF, Option.bind_some] at hv
      split at hv
      · rename_i cs' t' fr' hh
        cases hv
        exact ⟨t', fr', hh⟩
      · cases hv

theorem names_at {r : List (String × DataW Unit)} {W : World} (h : laidMet Ybad.prog ((nm 7, Rows.laid_example_com_lucioles_lucioles_cbch_sequenceNames) :: r) W) :
    ∀ j, j < 16 → ∃ nm : ByteArray, W.cell? ⟨8, j, none⟩ = some (.string nm) ∧ nm.toList.isEmpty = resN j := by
  obtain ⟨ps, ⟨g, t, cs, f, p, q, hg, ht, hv, hd, _⟩, _⟩ := h
  obtain rfl := Option.some.inj (gN.symm.trans hg)
  obtain rfl := Option.some.inj (tN.symm.trans ht)
  obtain ⟨xs, m, _, hx, hlen, hn, hel⟩ := DataW.trod_array Ybad.underlying56 hd
  simp only [Prod.mk.injEq] at hx
  rw [c56] at hlen
  intro j hj
  have h0 := hel j hj
  rw [c9] at h0
  have hjx : j < xs.length := by omega
  rw [List.getElem?_eq_getElem hjx] at h0
  obtain ⟨s, e0, d0, _⟩ := DataW.trod_string Ybad.underlying9 h0
  have hc := World.var?_cell hg hv j
  have hj' : j < cs.toList.length := by omega
  have e1 : cs[j]? = some (.string s) := by
    have := congrArg (·[0]?) e0
    simp only [List.getElem?_take, Nat.mul_one, List.getElem?_drop, Nat.add_zero, List.getElem?_cons_zero, if_pos (Nat.zero_lt_one)] at this
    rw [← Array.getElem?_toList]
    exact this
  refine ⟨s, hc.trans e1, ?_⟩
  have e2 : (xs.map (·.1))[j]? = some (.lit (.string s.data.toList)) := by
    rw [List.getElem?_map, List.getElem?_eq_getElem hjx, d0]; rfl
  have hx1 := hx.1
  rw [Rows.laid_example_com_lucioles_lucioles_cbch_sequenceNames, DataW.agg.injEq] at hx1
  rw [← hx1] at e2
  rw [ByteArray.toList_eq]
  generalize s.data.toList = l at e2
  match j, hj with
  | 0, _ => cases e2; rfl
  | 1, _ => cases e2; rfl
  | 2, _ => cases e2; rfl
  | 3, _ => cases e2; rfl
  | 4, _ => cases e2; rfl
  | 5, _ => cases e2; rfl
  | 6, _ => cases e2; rfl
  | 7, _ => cases e2; rfl
  | 8, _ => cases e2; rfl
  | 9, _ => cases e2; rfl
  | 10, _ => cases e2; rfl
  | 11, _ => cases e2; rfl
  | 12, _ => cases e2; rfl
  | 13, _ => cases e2; rfl
  | 14, _ => cases e2; rfl
  | 15, _ => cases e2; rfl

theorem of_laid {W : World} (h : laidMetH Ybad.prog Rows.lawS6737BWholeRow.laid W) : ∃ A, Gl W A := by
  rw [MakeChecks.laidMetH_plain _ _ _ (by kernel_rfl)] at h
  have n1 := h.tail
  have n2 := n1.tail
  have n3 := n2.tail
  have n4 := n3.tail
  have n5 := n4.tail
  have n6 := n5.tail
  have n7 := n6.tail
  have n8 := n7.tail
  obtain ⟨a1, e1⟩ := sentinel_cell n2 g1 t1
  obtain ⟨a2, e2⟩ := sentinel_cell n3 g2 t2
  obtain ⟨a3, e3⟩ := sentinel_cell n4 g3 t3
  obtain ⟨a4, e4⟩ := sentinel_cell n5 g4 t4
  obtain ⟨a5, e5⟩ := sentinel_cell n6 g5 t5
  obtain ⟨a6, e6⟩ := sentinel_cell n7 g6 t6
  obtain ⟨a0, e0⟩ := sentinel_cell n8 g0 t0
  have hN := names_at h
  refine ⟨fun i => [a0, a1, a2, a3, a4, a5, a6].getD i a0, ?_, ?_, first_row n1, hN⟩
  · obtain ⟨_, h0, _⟩ := hN 0 (by decide)
    exact block_lt_of_cell h0
  · intro i hi
    match i, hi with
    | 0, _ => exact e0
    | 1, _ => exact e1
    | 2, _ => exact e2
    | 3, _ => exact e3
    | 4, _ => exact e4
    | 5, _ => exact e5
    | 6, _ => exact e6

/-! THE FIRST ARGUMENT -/
theorem bytes5 : Ybad.prog.bytesOf 5 = 1 := by kernel_rfl
theorem bytes23 : Ybad.prog.bytesOf 23 = 24 := by kernel_rfl
theorem mem_weightsAll {H : Type} {P : Program} {e : TypeId} {d : DataW H} {n : Nat} : ∀ {l : List (DataW H)}, d ∈ l → n ∈ d.weights P e → n ∈ DataW.weightsAll P e l
  | [], h, _ => by cases h
  | x :: l, h, hn => by
    simp only [DataW.weightsAll, List.mem_append]
    rcases List.mem_cons.1 h with rfl | h
    · exact .inl hn
    · exact .inr (mem_weightsAll h hn)
def rowB (A : Option Addr) (L : Nat) (zs : List Int) : Bs := match A with | none => Option.none | some _ => some (zs.take L)
theorem rows_of {H : Type} {enc : TypeId × Value → H} {W : World} {v : Value} {d : DataW H} {p : List MemPlace} (hv : ∃ a n c, v = .slice a n c)
    (h : DataW.Trod enc Ybad.prog W 0 (fun _ => true) true 22 v d p) (hsz : ∀ n ∈ d.weights Ybad.prog 22, n ≤ reachBytes) :
    ∃ (L : List Bs) (nl : Bool), RowsAt W v L nl ∧ L.length ≤ 140737488355328 ∧ ∀ o ∈ L, (bytes o).length ≤ 140737488355328 := by
  obtain ⟨fuel, hf⟩ := h
  obtain ⟨a0, n0, c0, rfl⟩ := hv
  rcases Go.Deep.open_int_rows Ybad.underlying22 Ybad.underlying23 Ybad.underlying5 c23 c5 hf with ⟨hcs, _⟩ | ⟨a, len, cap, A, L, C, Z, hcs, _, hl, hm, hx, hr⟩
  · simp [Value.cells] at hcs
    obtain ⟨rfl, rfl, rfl⟩ := hcs
    exact ⟨[], true, ⟨none, 0, rfl, rfl, fun _ => rfl, fun h => absurd h (Nat.lt_irrefl 0)⟩, by simp, by simp⟩
  · simp [Value.cells] at hcs
    obtain ⟨rfl, rfl, rfl⟩ := hcs
    simp only [Prod.mk.injEq] at hx
    obtain ⟨rfl, _⟩ := hx
    have hget : ∀ i, i < n0 → ((List.range n0).map fun r => rowB (A r) (L r) (Z r)).getD i none = rowB (A i) (L i) (Z i) := by
      intro i hi
      rw [List.getD_eq_getElem?_getD, List.getElem?_map, List.getElem?_range hi]
      rfl
    refine ⟨(List.range n0).map fun r => rowB (A r) (L r) (Z r), false, ⟨some a, c0, by simp, rfl, (fun h => by cases h), fun h0 => ?_⟩, ?_, ?_⟩
    · simp only [List.length_map, List.length_range] at h0 ⊢
      obtain ⟨b, off, rfl, hb, hcell⟩ : ∃ b off, a = ⟨b, off, none⟩ ∧ b < W.heap.size ∧ ∀ i, i < n0 → W.cell? ⟨b, off + i, none⟩ = some (.slice (A i) (L i) (C i)) := by
        obtain ⟨b, off, spot⟩ := a
        have hspot : spot = none := by simpa [Addr.add] using World.cell?_spot (hr 0 (by omega)).1
        subst hspot
        have hc : ∀ i, i < n0 → W.cell? ⟨b, off + i, none⟩ = some (.slice (A i) (L i) (C i)) := fun i hi => by
          rw [← Go.WideShapes.add_plain]
          exact (hr i (by omega)).1
        exact ⟨b, off, rfl, block_lt_of_cell (hc 0 h0), hc⟩
      refine ⟨b, off, rfl, hb, fun i hi => ⟨_, hcell i hi, ?_⟩⟩
      rw [hget i hi]
      obtain ⟨_, q1, q2, q3, q4, q5, q6⟩ := hr i (by omega)
      cases hA : A i with
      | none =>
        have := q5 hA
        have e1 : C i = 0 := this
        have e2 : L i = 0 := by omega
        rw [e1, e2]
        rfl
      | some a' =>
        obtain ⟨_, q7⟩ := q6 a' hA
        have hlen : ((Z i).take (L i)).length = L i := by rw [List.length_take]; omega
        refine ⟨a', C i, by rw [hlen], by rw [hlen]; exact q1, fun hp => ?_, fun x hx => ?_⟩
        · rw [hlen] at hp ⊢
          obtain ⟨b', off', rfl, hc'⟩ := ints_at (zs := Z i) (fun j hj => q7 j (by omega)) (by omega)
          refine ⟨b', off', rfl, block_lt_of_cell (hc' 0 (by omega)), fun j hj => ?_⟩
          rw [hc' j (by omega), List.getD_eq_getElem?_getD, List.getD_eq_getElem?_getD, List.getElem?_take_of_lt hj]
        · exact bounds_u8 (q4 x (List.mem_of_mem_take hx))
    · have := hsz ((((List.range n0).map fun r => Go.Deep.intRow (H := H) .u8 (A r) (L r) (Z r)).length + ((List.range (c0 - n0)).map fun j => Go.Deep.intRow (H := H) .u8 (A (n0 + j)) (L (n0 + j)) (Z (n0 + j))).length) * Ybad.prog.bytesOf 23) (by simp [DataW.weights, Ybad.underlying22])
      rw [bytes23] at this
      simp only [List.length_map, List.length_range, reachBytes] at this ⊢
      omega
    · intro o ho
      obtain ⟨r, hr0, rfl⟩ := List.mem_map.1 ho
      have hrn : r < n0 := List.mem_range.1 hr0
      obtain ⟨_, q1, q2, q3, q4, q5, q6⟩ := hr r (by omega)
      cases hA : A r with
      | none => simp [rowB, bytes]
      | some a' =>
        have hmem : ∀ n ∈ (Go.Deep.intRow (H := H) .u8 (A r) (L r) (Z r)).weights Ybad.prog 23, n ≤ reachBytes := fun n hn => hsz n (by
          simp only [DataW.weights, Ybad.underlying22, List.mem_cons, List.mem_append]
          exact .inr (.inl (mem_weightsAll (List.mem_map.2 ⟨r, hr0, rfl⟩) hn)))
        rw [hA] at hmem
        have := hmem (((lits (H := H) .u8 ((Z r).take (L r))).length + (lits (H := H) .u8 ((Z r).drop (L r))).length) * Ybad.prog.bytesOf 5) (by simp [Go.Deep.intRow, DataW.weights, Ybad.underlying23])
        rw [bytes5] at this
        simp only [lits, List.length_map, List.length_take, List.length_drop, reachBytes] at this
        show ((Z r).take (L r)).length ≤ _
        rw [List.length_take]
        omega

end Go.Proofs.YbulkeimqDoor.lawB
