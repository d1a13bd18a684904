/-
  'Rows.LawS6737CWholeSaid' PROVED: the frame is the tool's shell for this function, its walk filled (YbulkeimqCLaw), its builder the sized one.
-/
import Derived.Test.YbulkeimqRows
import Derived.Test.YbulkeimqCLaw
import Derived.WalkKit
import Derived.ProofKit
import Derived.OpenShut
import Derived.ShutString
import Derived.ChangeOld
import Derived.Below
import Derived.SizedLaws
namespace Go.Proofs.Ybulkeimq.lawS6737CWhole
open Go.ChangeShapes Go.WideShapes Go.ChangeAt Go.RowKit
open Go.ChangeMaps (open_string shut_string)
set_option linter.unusedVariables false

theorem own : ownKnob Yba.prog.godebug = none := by kernel_rfl
theorem laidOut : laidOutB Yba.prog = true := by kernel_rfl
theorem bytes5 : Yba.prog.bytesOf 5 = 1 := by kernel_rfl
theorem bytes23 : Yba.prog.bytesOf 23 = 2 := by kernel_rfl

theorem came_of {k : IntKind} {W : World} {x : Addr} {len cap : Nat} {zs : List Int} (hl : len ≤ cap) (hz : zs.length = cap) (hcell : ∀ i, i < zs.length → W.cell? (x.add i) = some (.int k (zs.getD i 0))) : Came k W (some x) len (zs.take len) := by
  refine ⟨by simp; omega, fun hp => ?_⟩
  obtain ⟨b, off, rfl, hc⟩ := ints_at hcell (by omega)
  refine ⟨b, off, rfl, block_lt_of_cell (hc 0 (by omega)), fun j hj => ?_⟩
  rw [hc j (by omega)]
  rw [List.getD_eq_getElem?_getD, List.getD_eq_getElem?_getD, List.getElem?_take_of_lt hj]
theorem came_nil {k : IntKind} {W : World} : Came k W none 0 [] := ⟨rfl, fun h => absurd h (Nat.lt_irrefl 0)⟩
theorem wf_take {zs : List Int} (len : Nat) (h : ∀ n ∈ zs, (Lit.int .u16 n).wf = true) : ∀ j, 0 ≤ (zs.take len).getD j 0 ∧ (zs.take len).getD j 0 ≤ 65535 := by
  intro j
  rw [List.getD_eq_getElem?_getD]
  exact range_u16 (fun n hn => h n (List.mem_of_mem_take hn)) j

/-! ### THE ROW's STEP: WRITTEN OUT: LEAVE IT -/
set_option maxRecDepth 100000 in
theorem lifted (os : Os) (started : os.Started) (H : Type) (enc : TypeId × Value → H) :
    ReturnsInHanded {} Yba.checked os 4 .any (Rows.lawS6737CWholeSpec.pre6 enc Yba.prog Yba.f4 Rows.lawS6737CWholeRow.domain false) (Rows.lawS6737CWholeSpec.post enc Yba.prog Yba.f4 false true false false) := by
  refine returnsInHanded_of_change_sized (C := Yba.checked) own started (by kernel_rfl) Yba.func4
    (ChangeSpec.witness6 (enc := enc) (C := Yba.checked) false ⟨#[], #[.slice none 0 0, .slice none 0 0], []⟩ 8 (by kernel_rfl) (by kernel_rfl) (by kernel_rfl) (by kernel_rfl)) ?_
  intro W base args ds gs before hval0 hW hcnd0 hsz0 hholds
  have hval : ∀ (j : Nat) t v, Yba.f4.params[j]? = some t → args[j]? = some v → Value.okWide Yba.prog W .any base t v := hval0
  have hsz : (DataW.weightsEach Yba.prog (Yba.f4.params.toList ++ Rows.lawS6737CWholeSpec.plain.varTypes Yba.prog) (ds ++ gs)).all (· ≤ reachBytes) = true := hsz0
  have hW' := hW
  obtain ⟨p, q, hA0, hV, rfl, hfz, hnd⟩ := hW
  have hA : DataW.TrodAll enc Yba.prog W 0 (fun _ => true) true Yba.f4.params.toList args.toList ds p := hA0
  rw [Yba.params4] at hA hval hsz
  obtain ⟨v0, vs0, d0, ds0, p0, q0, hargs, rfl, rfl, h0, r0⟩ := trodAll_cons hA
  obtain ⟨v1, vs1, d1, ds1, p1, q1, rfl, rfl, rfl, h1, r1⟩ := trodAll_cons r0
  obtain ⟨rfl, rfl, rfl⟩ := trodAll_nil r1
  obtain rfl : args = #[v0, v1] := by cases args; simp_all
  obtain ⟨rfl, rfl⟩ := trodVars_none hV
  obtain ⟨a0, len0, cap0, rfl⟩ := okWide_slice Yba.underlying34 (hval 0 34 v0 rfl rfl)
  have k0 := h0
  have lt0 : ∀ x ∈ p0, x.block < W.heap.size := by obtain ⟨m, hm⟩ := k0; exact DataW.trod_lt m _ _ _ hm
  obtain ⟨X, hX, hlen0⟩ : ∃ X, Came .u8 W a0 len0 X ∧ len0 ≤ 140737488355328 := by
    obtain ⟨fuel, hf⟩ := h0
    rcases open_ints Yba.underlying34 Yba.underlying5 (by kernel_rfl) hf with ⟨hcs, _⟩ | ⟨x, l, c, zs, hcs, _, hl, hm, hz, hx, hcell, hwz⟩
    · simp [Value.cells] at hcs
      obtain ⟨rfl, rfl, rfl⟩ := hcs
      exact ⟨[], came_nil, by omega⟩
    · simp [Value.cells] at hcs
      obtain ⟨rfl, rfl, rfl⟩ := hcs
      simp only [Prod.mk.injEq] at hx
      obtain ⟨rfl, _⟩ := hx
      have hzc : zs.length = cap0 := by simpa using hz
      have := sized_slice hsz (j := 0) (t := 34) (e := 5) rfl rfl Yba.underlying34
      rw [bytes5] at this
      simp only [lits, List.length_map, List.length_take, List.length_drop, reachBytes] at this
      exact ⟨_, came_of hl hzc hcell, by omega⟩
  obtain ⟨a1, len1, cap1, rfl⟩ := okWide_slice Yba.underlying35 (hval 1 35 v1 rfl rfl)
  have k1 := h1
  have lt1 : ∀ x ∈ p1, x.block < W.heap.size := by obtain ⟨m, hm⟩ := k1; exact DataW.trod_lt m _ _ _ hm
  obtain ⟨Y, hY, hwY, hlen1⟩ : ∃ Y, Came .u16 W a1 len1 Y ∧ (∀ j, 0 ≤ Y.getD j 0 ∧ Y.getD j 0 ≤ 65535) ∧ len1 ≤ 140737488355328 := by
    obtain ⟨fuel, hf⟩ := h1
    rcases open_ints Yba.underlying35 Yba.underlying23 (by kernel_rfl) hf with ⟨hcs, _⟩ | ⟨x, l, c, zs, hcs, _, hl, hm, hz, hx, hcell, hwz⟩
    · simp [Value.cells] at hcs
      obtain ⟨rfl, rfl, rfl⟩ := hcs
      exact ⟨[], came_nil, fun j => by simp, by omega⟩
    · simp [Value.cells] at hcs
      obtain ⟨rfl, rfl, rfl⟩ := hcs
      simp only [Prod.mk.injEq] at hx
      obtain ⟨rfl, _⟩ := hx
      have hzc : zs.length = cap1 := by simpa using hz
      have := sized_slice hsz (j := 1) (t := 35) (e := 23) rfl rfl Yba.underlying35
      rw [bytes23] at this
      simp only [lits, List.length_map, List.length_take, List.length_drop, reachBytes] at this
      exact ⟨_, came_of hl hzc hcell, wf_take _ hwz, by omega⟩
  clear hA0 hval0 hsz0 hsz hcnd0
  by_cases hbd : len0 + len1 ≤ 1048576
  · refine (walk_small a0 len0 cap0 X a1 len1 cap1 Y W hX hY hbd hwY).mono fun e W' ⟨he, bel⟩ => ?_
    subst he
    exact ⟨_, rfl, _, _, _, [], _, [], hW', trodAll_mk1 (shut_bool Yba.underlying4 _), (trodAll_cons_mk (Below.trod laidOut (by kernel_rfl) (of_decide_eq_true (by kernel_rfl)) k0 bel lt0) (trodAll_cons_mk (Below.trod laidOut (by kernel_rfl) (of_decide_eq_true (by kernel_rfl)) k1 bel lt1) trodAll_mk0)), rfl, bel.frame _, fun h => by cases h⟩
  · refine (walk_large a0 len0 cap0 a1 len1 cap1 W hbd hlen0 hlen1).mono fun e W' ⟨he, bel⟩ => ?_
    subst he
    exact ⟨_, rfl, _, _, _, [], _, [], hW', trodAll_mk1 (shut_bool Yba.underlying4 _), (trodAll_cons_mk (Below.trod laidOut (by kernel_rfl) (of_decide_eq_true (by kernel_rfl)) k0 bel lt0) (trodAll_cons_mk (Below.trod laidOut (by kernel_rfl) (of_decide_eq_true (by kernel_rfl)) k1 bel lt1) trodAll_mk0)), rfl, bel.frame _, fun h => by cases h⟩

theorem over : Rows.lawS6737CWholeRow.holds Yba.pinned (OpenSpec.ofChange Rows.lawS6737CWholeSpec) :=
  OpenClaim.holds_of_wide 4 Yba.f4 rfl rfl rfl rfl rfl rfl rfl ⟨rfl, rfl, rfl, rfl, rfl⟩ rfl rfl rfl rfl rfl (by kernel_rfl) Yba.func4 (by kernel_rfl)
    (of_decide_eq_true (by kernel_rfl)) (by unfold Func.isWrapper; first | (rw [if_pos (by decide +kernel)]; kernel_rfl) | (rw [if_neg (by decide +kernel)]; exact ⟨rfl, rfl⟩))
    (fun os started H enc _ => lifted os started H enc)

/-- THE STATEMENT -/
theorem proved : Rows.LawS6737CWholeSaid := over
end Go.Proofs.Ybulkeimq.lawS6737CWhole
