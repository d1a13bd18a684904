/-
  'Rows.LawS6742AWholeSaid' PROVED.
-/
import Derived.Test.YbulkeipiWLaw
import Derived.ChangeOld
import Derived.SizedLaws
import Derived.ShutString
namespace Go.Proofs.Ybulkeipi.lawW
open Go.ChangeShapes Go.WideShapes Go.ChangeAt Go.RowKit
open Go.ChangeMaps (open_string shut_string)
open Go.Proofs.Ybulkeipi.lawS (Came noStr)
set_option linter.unusedVariables false

theorem own : ownKnob Yba.prog.godebug = none := by kernel_rfl
theorem laidOut : laidOutB Yba.prog = true := by kernel_rfl
theorem c9 : Yba.prog.cellsOf 9 = 1 := by kernel_rfl

theorem ints_open {H : Type} {enc : TypeId × Value → H} {W : World} {v : Value} {d : DataW H} {p : List MemPlace} (hv : ∃ a n c, v = .slice a n c)
    (h : DataW.Trod enc Yba.prog W 0 (fun _ => true) true 22 v d p) :
    ∃ a n c z, v = .slice a n c ∧ Came W a n z ∧ n ≤ maxLen ∧ (a = none → n = 0 ∧ c = 0) := by
  obtain ⟨a0, len0, cap0, rfl⟩ := hv
  obtain ⟨fuel, hf⟩ := h
  rcases open_ints Yba.underlying22 Yba.underlying3 (by kernel_rfl) hf with ⟨hcs, _⟩ | ⟨x, l, c, zs, hcs, _, hl, hm, hz, _, hcell, hwz⟩
  · simp [Value.cells] at hcs
    obtain ⟨rfl, rfl, rfl⟩ := hcs
    exact ⟨none, 0, 0, fun _ => 0, rfl, fun h => absurd h (Nat.lt_irrefl 0), Nat.zero_le _, fun _ => ⟨rfl, rfl⟩⟩
  · simp [Value.cells] at hcs
    obtain ⟨rfl, rfl, rfl⟩ := hcs
    refine ⟨_, _, _, fun i => zs.getD i 0, rfl, fun hp => ?_, by omega, fun h => by cases h⟩
    have hz' : zs.length = cap0 := by simpa using hz
    obtain ⟨b, off, rfl, hc⟩ := ints_at hcell (by omega)
    exact ⟨b, off, rfl, block_lt_of_cell (hc 0 (by omega)), fun i hi => hc i (by omega)⟩

theorem at_plain {W : World} {a : Addr} {V : Nat → Value} {n : Nat} (h : ∀ i, i < n → W.cell? (a.add i) = some (V i)) (hp : 0 < n) :
    ∃ b off, a = ⟨b, off, none⟩ ∧ b < W.heap.size ∧ ∀ i, i < n → W.cell? ⟨b, off + i, none⟩ = some (V i) := by
  obtain ⟨b, off, spot⟩ := a
  have hspot : spot = none := by simpa [Addr.add] using World.cell?_spot (h 0 hp)
  subst hspot
  have hc : ∀ i, i < n → W.cell? ⟨b, off + i, none⟩ = some (V i) := fun i hi => by
    rw [← Go.WideShapes.add_plain]; exact h i hi
  exact ⟨b, off, rfl, block_lt_of_cell (hc 0 hp), hc⟩

theorem strs_open {H : Type} {enc : TypeId × Value → H} {W : World} {v : Value} {d : DataW H} {p : List MemPlace} (hv : ∃ a n c, v = .slice a n c)
    (h : DataW.Trod enc Yba.prog W 0 (fun _ => true) true 23 v d p) :
    ∃ a n c z, v = .slice a n c ∧ CameS W a n z ∧ n ≤ maxLen := by
  obtain ⟨a0, len0, cap0, rfl⟩ := hv
  obtain ⟨fuel, hf⟩ := h
  rcases open_strings Yba.underlying23 Yba.underlying9 c9 hf with ⟨hcs, _⟩ | ⟨x, l, c, ss, hcs, _, hl, hm, hz, _, hcell, _⟩
  · simp [Value.cells] at hcs
    obtain ⟨rfl, rfl, rfl⟩ := hcs
    exact ⟨none, 0, 0, fun _ => noStr, rfl, fun h => absurd h (Nat.lt_irrefl 0), Nat.zero_le _⟩
  · simp [Value.cells] at hcs
    obtain ⟨rfl, rfl, rfl⟩ := hcs
    have hz' : ss.length = cap0 := by simpa using hz
    refine ⟨_, _, _, fun i => ss.getD i ByteArray.empty, rfl, fun hp => ?_, by omega⟩
    obtain ⟨b, off, rfl, hb, hc⟩ := at_plain (n := len0) (V := fun i => .string (ss.getD i ByteArray.empty)) (fun i hi => hcell i (by omega)) hp
    exact ⟨b, off, rfl, hb, hc⟩

set_option maxRecDepth 100000 in
theorem lifted (os : Os) (started : os.Started) (H : Type) (enc : TypeId × Value → H) :
    ReturnsInHanded {} Yba.checked os 3 .any (Rows.lawS6742AWholeSpec.pre6 enc Yba.prog Yba.f3 Rows.lawS6742AWholeRow.domain false) (Rows.lawS6742AWholeSpec.post enc Yba.prog Yba.f3 false true false false) := by
  refine returnsInHanded_of_change_sized (C := Yba.checked) own started (by kernel_rfl) Yba.func3
    (ChangeSpec.witness6 (enc := enc) (C := Yba.checked) false ⟨#[], #[.slice none 0 0, .slice none 0 0, .slice none 0 0, .string ⟨#[]⟩, .int .i64 0, .int .i64 0], []⟩ 8 (by kernel_rfl) (by kernel_rfl) (by kernel_rfl) (by kernel_rfl)) ?_
  intro W base args ds gs before hval0 hW hcnd0 hsz0 hholds
  have hval : ∀ (j : Nat) t v, Yba.f3.params[j]? = some t → args[j]? = some v → Value.okWide Yba.prog W .any base t v := hval0
  have hsz : (DataW.weightsEach Yba.prog (Yba.f3.params.toList ++ Rows.lawS6742AWholeSpec.plain.varTypes Yba.prog) (ds ++ gs)).all (· ≤ reachBytes) = true := hsz0
  have hW' := hW
  obtain ⟨p, q, hA0, hV, rfl, hfz, hnd⟩ := hW
  have hA : DataW.TrodAll enc Yba.prog W 0 (fun _ => true) true Yba.f3.params.toList args.toList ds p := hA0
  rw [Yba.params3] at hA hval hsz
  obtain ⟨v0, vs0, d0, ds0, p0, q0, hargs, rfl, rfl, h0, r0⟩ := trodAll_cons hA
  obtain ⟨v1, vs1, d1, ds1, p1, q1, rfl, rfl, rfl, h1, r1⟩ := trodAll_cons r0
  obtain ⟨v2, vs2, d2, ds2, p2, q2, rfl, rfl, rfl, h2, r2⟩ := trodAll_cons r1
  obtain ⟨v3, vs3, d3, ds3, p3, q3, rfl, rfl, rfl, h3, r3⟩ := trodAll_cons r2
  obtain ⟨v4, vs4, d4, ds4, p4, q4, rfl, rfl, rfl, h4, r4⟩ := trodAll_cons r3
  obtain ⟨v5, vs5, d5, ds5, p5, q5, rfl, rfl, rfl, h5, r5⟩ := trodAll_cons r4
  obtain ⟨rfl, rfl, rfl⟩ := trodAll_nil r5
  obtain rfl : args = #[v0, v1, v2, v3, v4, v5] := by cases args; simp_all
  obtain ⟨rfl, rfl⟩ := trodVars_none hV
  have k0 := h0
  have lt0 : ∀ x ∈ p0, x.block < W.heap.size := by obtain ⟨m, hm⟩ := k0; exact DataW.trod_lt m _ _ _ hm
  have k1 := h1
  have lt1 : ∀ x ∈ p1, x.block < W.heap.size := by obtain ⟨m, hm⟩ := k1; exact DataW.trod_lt m _ _ _ hm
  have k2 := h2
  have lt2 : ∀ x ∈ p2, x.block < W.heap.size := by obtain ⟨m, hm⟩ := k2; exact DataW.trod_lt m _ _ _ hm
  have k3 := h3
  have lt3 : ∀ x ∈ p3, x.block < W.heap.size := by obtain ⟨m, hm⟩ := k3; exact DataW.trod_lt m _ _ _ hm
  have k4 := h4
  have lt4 : ∀ x ∈ p4, x.block < W.heap.size := by obtain ⟨m, hm⟩ := k4; exact DataW.trod_lt m _ _ _ hm
  have k5 := h5
  have lt5 : ∀ x ∈ p5, x.block < W.heap.size := by obtain ⟨m, hm⟩ := k5; exact DataW.trod_lt m _ _ _ hm
  obtain ⟨a0, n0, c0, R, rfl, hR, hn0, hnil⟩ := ints_open (okWide_slice Yba.underlying22 (hval 0 22 v0 rfl rfl)) h0
  obtain ⟨a1, n1, c1, Z, rfl, hZ, hn1, _⟩ := ints_open (okWide_slice Yba.underlying22 (hval 1 22 v1 rfl rfl)) h1
  obtain ⟨a2, n2, c2, Y, rfl, hY, hn2⟩ := strs_open (okWide_slice Yba.underlying23 (hval 2 23 v2 rfl rfl)) h2
  obtain ⟨game, rfl, rfl, rfl, _⟩ := open_string Yba.underlying9 (hval 3 9 v3 rfl rfl) h3
  obtain ⟨seed, rfl, rfl, rfl, _⟩ := open_int Yba.underlying2 (hval 4 2 v4 rfl rfl) h4
  obtain ⟨turns, rfl, rfl, rfl, _⟩ := open_int Yba.underlying3 (hval 5 3 v5 rfl rfl) h5
  clear hA0 hval0 hsz0 hsz hcnd0
  have fin : Calls Yba.prog 3 #[.slice a0 n0 c0, .slice a1 n1 c1, .slice a2 n2 c2, .string game, .int .i64 seed, .int .i64 turns] W fun e w' => e = .returned (.bool true) ∧ Below W.heap.size W w' := by
    cases a0 with
    | none => obtain ⟨rfl, rfl⟩ := hnil rfl; exact law_nil a1 n1 c1 a2 n2 c2 game seed turns W
    | some x0 =>
      by_cases hbd : n0 ≤ 1048576
      · exact law_some x0 n0 c0 R a1 n1 c1 Z a2 n2 c2 Y game seed turns W hR hZ hY hbd hn1 hn2
      · exact law_large (some x0) n0 c0 a1 n1 c1 a2 n2 c2 game seed turns W (by omega)
  refine fin.mono fun e W' ⟨he, bel⟩ => ?_
  subst he
  exact ⟨_, rfl, _, _, _, [], _, [], hW', trodAll_mk1 (shut_bool Yba.underlying4 _), (trodAll_cons_mk (Below.trod laidOut (by kernel_rfl) (of_decide_eq_true (by kernel_rfl)) k0 bel lt0) (trodAll_cons_mk (Below.trod laidOut (by kernel_rfl) (of_decide_eq_true (by kernel_rfl)) k1 bel lt1) (trodAll_cons_mk (Below.trod laidOut (by kernel_rfl) (of_decide_eq_true (by kernel_rfl)) k2 bel lt2) (trodAll_cons_mk (Below.trod laidOut (by kernel_rfl) (of_decide_eq_true (by kernel_rfl)) k3 bel lt3) (trodAll_cons_mk (Below.trod laidOut (by kernel_rfl) (of_decide_eq_true (by kernel_rfl)) k4 bel lt4) (trodAll_cons_mk (Below.trod laidOut (by kernel_rfl) (of_decide_eq_true (by kernel_rfl)) k5 bel lt5) trodAll_mk0)))))), rfl, bel.frame _, fun h => by cases h⟩

theorem over : Rows.lawS6742AWholeRow.holds Yba.pinned (OpenSpec.ofChange Rows.lawS6742AWholeSpec) :=
  OpenClaim.holds_of_wide 3 Yba.f3 rfl rfl rfl rfl rfl rfl rfl ⟨rfl, rfl, rfl, rfl, rfl⟩ rfl rfl rfl rfl rfl (by kernel_rfl) Yba.func3 (by kernel_rfl)
    (of_decide_eq_true (by kernel_rfl)) (by unfold Func.isWrapper; first | (rw [if_pos (by decide +kernel)]; kernel_rfl) | (rw [if_neg (by decide +kernel)]; exact ⟨rfl, rfl⟩))
    (fun os started H enc _ => lifted os started H enc)

/-- THE STATEMENT -/
theorem proved : Rows.LawS6742AWholeSaid := over
end Go.Proofs.Ybulkeipi.lawW
