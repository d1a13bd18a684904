/-
  The arguments of the two laws on take, opened: []string and []bool.
-/
import Derived.Test.YbulkeineAData
import Derived.ChangeOld
import Derived.SizedLaws
import Derived.Deep.Grids
namespace Go.Proofs.Ybulkeine.lawA
open Go.ChangeShapes Go.WideShapes Go.ChangeAt Go.RowKit
set_option linter.unusedVariables false

theorem own : ownKnob Yba.prog.godebug = none := by kernel_rfl
theorem laidOut : laidOutB Yba.prog = true := by kernel_rfl
theorem c9 : Yba.prog.cellsOf 9 = 1 := by kernel_rfl
theorem c4 : Yba.prog.cellsOf 4 = 1 := by kernel_rfl
theorem bytes9 : Yba.prog.bytesOf 9 = 16 := by kernel_rfl
theorem bytes4 : Yba.prog.bytesOf 4 = 1 := by kernel_rfl

theorem at_plain {W : World} {a : Addr} {V : Nat → Value} {n : Nat} (h : ∀ i, i < n → W.cell? (a.add i) = some (V i)) (hp : 0 < n) :
    ∃ b off, a = ⟨b, off, none⟩ ∧ b < W.heap.size ∧ ∀ i, i < n → W.cell? ⟨b, off + i, none⟩ = some (V i) := by
  obtain ⟨b, off, spot⟩ := a
  have hspot : spot = none := by simpa [Addr.add] using World.cell?_spot (h 0 hp)
  subst hspot
  have hc : ∀ i, i < n → W.cell? ⟨b, off + i, none⟩ = some (V i) := fun i hi => by
    rw [← Go.WideShapes.add_plain]; exact h i hi
  exact ⟨b, off, rfl, block_lt_of_cell (hc 0 hp), hc⟩

theorem strs_open {H : Type} {enc : TypeId × Value → H} {W : World} {v : Value} {d : DataW H} {p : List MemPlace} (hv : ∃ a n c, v = .slice a n c)
    (h : DataW.Trod enc Yba.prog W 0 (fun _ => true) true 22 v d p) (hsz : ∀ n ∈ d.weights Yba.prog 22, n ≤ reachBytes) :
    v = .slice none 0 0 ∨ ∃ a n c L, v = .slice (some a) n c ∧ StrsAt W v L ∧ n = L.length ∧ n ≤ 140737488355328 ∧ ∀ x ∈ L, x.size ≤ maxLen := by
  obtain ⟨fuel, hf⟩ := h
  obtain ⟨a0, n0, c0, rfl⟩ := hv
  rcases Go.Deep.open_slice1 Yba.underlying22 c9 hf with ⟨hcs, _⟩ | ⟨a, len, cap, m, n, V, D, Pl, hcs, _, hl, hm, hmm, hx, hr⟩
  · simp [Value.cells] at hcs
    obtain ⟨rfl, rfl, rfl⟩ := hcs
    exact .inl rfl
  · simp [Value.cells] at hcs
    obtain ⟨rfl, rfl, rfl⟩ := hcs
    simp only [if_true] at hmm
    subst hmm
    obtain ⟨S, hS⟩ := Go.Deep.choose_lt (α := Str) (n := m) (p := fun i s => V i = .string s ∧ s.size ≤ maxLen) (fun i hi => by
      obtain ⟨s, h1, _, h3⟩ := DataW.trod_string Yba.underlying9 (hr i hi).2
      exact ⟨s, by simpa using h1, h3⟩)
    have hget : ∀ i, i < n0 → ((List.range n0).map S).getD i noStr = S i := fun i hi => by
      rw [List.getD_eq_getElem?_getD, List.getElem?_map, List.getElem?_range hi]; rfl
    refine .inr ⟨a, n0, m, (List.range n0).map S, rfl, ⟨some a, m, by simp, fun hp => ?_⟩, by simp, ?_, fun x hx => ?_⟩
    · simp only [List.length_map, List.length_range] at hp ⊢
      obtain ⟨b, off, rfl, hb, hc⟩ := at_plain (n := n0) (fun i hi => (hr i (by omega)).1) hp
      exact ⟨b, off, rfl, hb, fun i hi => by rw [hc i hi, hget i hi, (hS i (by omega)).1]⟩
    · cases hx
      have := hsz ((((List.range n0).map D).length + ((List.range (m - n0)).map fun j => D (n0 + j)).length) * Yba.prog.bytesOf 9) (by simp [DataW.weights, Yba.underlying22])
      rw [bytes9] at this
      simp only [List.length_map, List.length_range, reachBytes] at this
      omega
    · obtain ⟨i, hi, rfl⟩ := List.mem_map.1 hx
      exact (hS i (by have := List.mem_range.1 hi; omega)).2

theorem bools_open {H : Type} {enc : TypeId × Value → H} {W : World} {v : Value} {d : DataW H} {p : List MemPlace} (hv : ∃ a n c, v = .slice a n c)
    (h : DataW.Trod enc Yba.prog W 0 (fun _ => true) true 23 v d p) (hsz : ∀ n ∈ d.weights Yba.prog 23, n ≤ reachBytes) :
    ∃ a n c L, v = .slice a n c ∧ BoolsAt W v L ∧ n = L.length ∧ n ≤ 140737488355328 := by
  obtain ⟨fuel, hf⟩ := h
  obtain ⟨a0, n0, c0, rfl⟩ := hv
  rcases Go.Deep.open_bools Yba.underlying23 Yba.underlying4 c4 hf with ⟨hcs, _⟩ | ⟨a, len, cap, B, hcs, _, hl, hm, hx, hr⟩
  · simp [Value.cells] at hcs
    obtain ⟨rfl, rfl, rfl⟩ := hcs
    exact ⟨none, 0, 0, [], rfl, ⟨none, 0, rfl, fun h => absurd h (Nat.lt_irrefl 0)⟩, rfl, by omega⟩
  · simp [Value.cells] at hcs
    obtain ⟨rfl, rfl, rfl⟩ := hcs
    have hget : ∀ i, i < n0 → ((List.range n0).map B).getD i false = B i := fun i hi => by
      rw [List.getD_eq_getElem?_getD, List.getElem?_map, List.getElem?_range hi]; rfl
    refine ⟨some a, n0, c0, (List.range n0).map B, rfl, ⟨some a, c0, by simp, fun hp => ?_⟩, by simp, ?_⟩
    · simp only [List.length_map, List.length_range] at hp ⊢
      obtain ⟨b, off, rfl, hb, hc⟩ := at_plain (n := n0) (fun i hi => hr i (by omega)) hp
      exact ⟨b, off, rfl, hb, fun i hi => by rw [hc i hi, hget i hi]⟩
    · simp only [Prod.mk.injEq] at hx
      obtain ⟨rfl, _⟩ := hx
      have := hsz _ (by unfold Go.Deep.boolRow; simp only [DataW.weights, Yba.underlying23]; exact List.mem_cons_self)
      rw [bytes4] at this
      simp only [List.length_map, List.length_range, reachBytes] at this
      omega
end Go.Proofs.Ybulkeine.lawA
