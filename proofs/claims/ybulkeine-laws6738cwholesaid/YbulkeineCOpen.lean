/-
  The arguments of LawS6738CWhole, opened: a slice of entries of six cells.
-/
import Derived.Test.YbulkeineCBuild
import Derived.ChangeOld
import Derived.SizedLaws
import Derived.ShutString
import Derived.Deep.Slices
namespace Go.Proofs.Ybulkeine.lawC
open Go.Proofs.Ybulkeine.lawA (hide unhide Str noStr)
open Go.ChangeShapes Go.WideShapes Go.ChangeAt Go.RowKit
set_option linter.unusedVariables false

theorem own : ownKnob Yba.prog.godebug = none := by kernel_rfl
theorem c55 : Yba.prog.cellsOf 55 = 6 := by kernel_rfl
theorem c9 : Yba.prog.cellsOf 9 = 1 := by kernel_rfl
theorem c21 : Yba.prog.cellsOf 21 = 1 := by kernel_rfl

theorem i32_of {n : Int} (h : (Lit.int .i32 n).wf = true) : -2147483648 ≤ n ∧ n ≤ 2147483647 := by
  have e1 : IntKind.i32.min = -2147483648 := by decide
  have e2 : IntKind.i32.max = 2147483647 := by decide
  simp [Lit.wf, e1, e2] at h
  exact h
theorem list6 {α : Type} {cs : List α} (h : cs.length = 6) : ∃ v0 v1 v2 v3 v4 v5, cs = [v0, v1, v2, v3, v4, v5] := by
  match cs, h with
  | [v0, v1, v2, v3, v4, v5], _ => exact ⟨v0, v1, v2, v3, v4, v5, rfl⟩

/-- One entry. -/
theorem ent_open {H : Type} {enc : TypeId × Value → H} {W : World} {a : Addr} {i fuel : Nat} {cs : List Value} {x : DataW H × List MemPlace}
    (h1 : W.cells? 0 (a.add (i * 6)) 6 = some cs) (h2 : DataW.trod enc Yba.prog W 0 (fun _ => true) true fuel 55 cs = some x) :
    ∃ e : Ent, e.ok ∧ ∀ j, j < 6 → W.cell? (a.add (i * 6 + j)) = ([.string e.own, .string e.cont, .int .i32 e.a1, .int .i32 e.a2, .int .i32 e.u1, .int .i32 e.u2] : List Value)[j]? := by
  obtain ⟨_, hlen, hc⟩ := World.cells?_some h1
  obtain ⟨xs, n, _, _, _, hxl, hf⟩ := DataW.trod_struct Yba.underlying55 h2
  obtain ⟨v0, v1, v2, v3, v4, v5, rfl⟩ := list6 hlen
  obtain ⟨y0, y1, y2, y3, y4, y5, rfl⟩ := list6 (show xs.length = 6 from hxl)
  have g0 : DataW.trod enc Yba.prog W 0 (fun _ => true) true n 9 (List.take (Yba.prog.cellsOf 9) [v0, v1, v2, v3, v4, v5]) = some y0 := hf 0 _ rfl
  have g1 : DataW.trod enc Yba.prog W 0 (fun _ => true) true n 9 (List.take (Yba.prog.cellsOf 9) [v1, v2, v3, v4, v5]) = some y1 := hf 1 _ rfl
  have g2 : DataW.trod enc Yba.prog W 0 (fun _ => true) true n 21 (List.take (Yba.prog.cellsOf 21) [v2, v3, v4, v5]) = some y2 := hf 2 _ rfl
  have g3 : DataW.trod enc Yba.prog W 0 (fun _ => true) true n 21 (List.take (Yba.prog.cellsOf 21) [v3, v4, v5]) = some y3 := hf 3 _ rfl
  have g4 : DataW.trod enc Yba.prog W 0 (fun _ => true) true n 21 (List.take (Yba.prog.cellsOf 21) [v4, v5]) = some y4 := hf 4 _ rfl
  have g5 : DataW.trod enc Yba.prog W 0 (fun _ => true) true n 21 (List.take (Yba.prog.cellsOf 21) [v5]) = some y5 := hf 5 _ rfl
  simp only [c9, c21, List.take_succ_cons, List.take_zero] at g0 g1 g2 g3 g4 g5
  obtain ⟨a0, q0, _, b0⟩ := DataW.trod_string Yba.underlying9 g0
  obtain ⟨a1, q1, _, b1⟩ := DataW.trod_string Yba.underlying9 g1
  obtain ⟨a2, q2, _, b2⟩ := DataW.trod_int Yba.underlying21 g2
  obtain ⟨a3, q3, _, b3⟩ := DataW.trod_int Yba.underlying21 g3
  obtain ⟨a4, q4, _, b4⟩ := DataW.trod_int Yba.underlying21 g4
  obtain ⟨a5, q5, _, b5⟩ := DataW.trod_int Yba.underlying21 g5
  cases q0
  cases q1
  cases q2
  cases q3
  cases q4
  cases q5
  refine ⟨⟨a0, a1, a2, a3, a4, a5⟩, ⟨b0, b1, i32_of b2, i32_of b3, i32_of b4, i32_of b5⟩, fun j hj => ?_⟩
  rw [← Go.Deep.add_add]
  exact hc j hj

theorem ents_open {H : Type} {enc : TypeId × Value → H} {W : World} {v : Value} {d : DataW H} {p : List MemPlace} (hv : ∃ a n c, v = .slice a n c)
    (h : DataW.Trod enc Yba.prog W 0 (fun _ => true) true 46 v d p) :
    v = .slice none 0 0 ∨ ∃ a n c E, v = .slice (some a) n c ∧ EntsAt W v E ∧ ∀ e ∈ E, e.ok := by
  obtain ⟨fuel, hf⟩ := h
  obtain ⟨a0, n0, c0, rfl⟩ := hv
  rcases Go.Deep.open_slice Yba.underlying46 hf with ⟨hcs, _⟩ | ⟨a, len, cap, m, n, D, Pl, hcs, _, hl, hm, hmm, hx, hr⟩
  · simp [Value.cells] at hcs
    obtain ⟨rfl, rfl, rfl⟩ := hcs
    exact .inl rfl
  · simp [Value.cells] at hcs
    obtain ⟨rfl, rfl, rfl⟩ := hcs
    simp only [if_true] at hmm
    subst hmm
    rw [c55] at hr
    have inh : Inhabited Ent := ⟨noEnt⟩
    obtain ⟨F, hF⟩ := Go.Deep.choose_lt (α := Ent) (n := m) (p := fun i e => e.ok ∧ ∀ j, j < 6 → W.cell? (a.add (i * 6 + j)) = ([.string e.own, .string e.cont, .int .i32 e.a1, .int .i32 e.a2, .int .i32 e.u1, .int .i32 e.u2] : List Value)[j]?) (fun i hi => by
      obtain ⟨cs', h1, h2⟩ := hr i hi
      exact ent_open h1 h2)
    have hget : ∀ i, i < n0 → ((List.range n0).map F).getD i noEnt = F i := fun i hi => by
      rw [List.getD_eq_getElem?_getD, List.getElem?_map, List.getElem?_range hi]; rfl
    refine .inr ⟨a, n0, m, (List.range n0).map F, rfl, ⟨some a, m, by simp, fun hp => ?_⟩, fun x hx => ?_⟩
    · simp only [List.length_map, List.length_range] at hp ⊢
      obtain ⟨b, off, spot⟩ := a
      have h00 := (hF 0 (by omega)).2 0 (by omega)
      have hspot : spot = none := by simpa [Addr.add] using World.cell?_spot (h00.trans rfl)
      subst hspot
      have hc : ∀ i j, i < n0 → j < 6 → W.cell? ⟨b, off + i * 6 + j, none⟩ = ([.string (F i).own, .string (F i).cont, .int .i32 (F i).a1, .int .i32 (F i).a2, .int .i32 (F i).u1, .int .i32 (F i).u2] : List Value)[j]? := fun i j hi hj => by
        rw [← (hF i (by omega)).2 j hj, Go.WideShapes.add_plain, Nat.add_assoc]
      refine ⟨b, off, rfl, block_lt_of_cell (hc 0 0 hp (by omega)), fun i hi => ?_⟩
      rw [hget i hi]
      exact ⟨hc i 0 hi (by omega), hc i 1 hi (by omega), hc i 2 hi (by omega), hc i 3 hi (by omega), hc i 4 hi (by omega), hc i 5 hi (by omega)⟩
    · obtain ⟨i, hi, rfl⟩ := List.mem_map.1 hx
      exact (hF i (by have := List.mem_range.1 hi; omega)).1
end Go.Proofs.Ybulkeine.lawC
