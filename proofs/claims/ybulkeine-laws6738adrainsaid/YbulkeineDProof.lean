/-
  'Rows.LawS6738ADrainSaid' PROVED.
-/
import Derived.Test.YbulkeineDLaw
import Derived.Test.YbulkeineAOpen
namespace Go.Proofs.Ybulkeine.lawD
open Go.Proofs.Ybulkeine.lawA
open Go.ChangeShapes Go.WideShapes Go.ChangeAt Go.RowKit
set_option linter.unusedVariables false

set_option maxRecDepth 100000 in
theorem lifted (os : Os) (started : os.Started) (H : Type) (enc : TypeId × Value → H) :
    ReturnsInHanded {} Yba.checked os 4 .any (Rows.lawS6738ADrainSpec.pre6 enc Yba.prog Yba.f4 Rows.lawS6738ADrainRow.domain false) (Rows.lawS6738ADrainSpec.post enc Yba.prog Yba.f4 false true false false) := by
  refine returnsInHanded_of_change_sized (C := Yba.checked) own started (by kernel_rfl) Yba.func4
    (ChangeSpec.witness6 (enc := enc) (C := Yba.checked) false ⟨#[], #[.slice none 0 0, .slice none 0 0], []⟩ 8 (by kernel_rfl) (by kernel_rfl) (by kernel_rfl) (by kernel_rfl)) ?_
  intro W base args ds gs before hval0 hW hcnd0 hsz0 hholds
  have hval : ∀ (j : Nat) t v, Yba.f4.params[j]? = some t → args[j]? = some v → Value.okWide Yba.prog W .any base t v := hval0
  have hsz : (DataW.weightsEach Yba.prog (Yba.f4.params.toList ++ Rows.lawS6738ADrainSpec.plain.varTypes Yba.prog) (ds ++ gs)).all (· ≤ reachBytes) = true := hsz0
  have hW' := hW
  obtain ⟨p, q, hA0, hV, rfl, hfz, hnd⟩ := hW
  have hA : DataW.TrodAll enc Yba.prog W 0 (fun _ => true) true Yba.f4.params.toList args.toList ds p := hA0
  rw [Yba.params4] at hA hval hsz
  obtain ⟨v0, vs0, d0, ds0, p0, q0, hargs, rfl, rfl, h0, r0⟩ := trodAll_cons hA
  obtain ⟨v1, vs1, d1, ds1, p1, q1, rfl, rfl, rfl, h1, r1⟩ := trodAll_cons r0
  obtain ⟨rfl, rfl, rfl⟩ := trodAll_nil r1
  obtain rfl : args = #[v0, v1] := by cases args; simp_all
  obtain ⟨rfl, rfl⟩ := trodVars_none hV
  have k0 := h0
  have lt0 : ∀ x ∈ p0, x.block < W.heap.size := by obtain ⟨m, hm⟩ := k0; exact DataW.trod_lt m _ _ _ hm
  have k1 := h1
  have lt1 : ∀ x ∈ p1, x.block < W.heap.size := by obtain ⟨m, hm⟩ := k1; exact DataW.trod_lt m _ _ _ hm
  have o0 := strs_open (okWide_slice Yba.underlying22 (hval 0 22 v0 rfl rfl)) h0 (fun n hn => of_decide_eq_true (List.all_eq_true.1 hsz n (DataW.weights_mem_each (j := 0) rfl rfl n hn)))
  obtain ⟨a1, n1, c1, VL, rfl, hB1, hn1, hb1⟩ := bools_open (okWide_slice Yba.underlying23 (hval 1 23 v1 rfl rfl)) h1 (fun n hn => of_decide_eq_true (List.all_eq_true.1 hsz n (DataW.weights_mem_each (j := 1) rfl rfl n hn)))
  clear hA0 hval0 hsz0 hsz hcnd0
  have fin : Calls Yba.prog 4 #[v0, .slice a1 n1 c1] W fun e w' => e = .returned (.bool true) ∧ Below W.heap.size W w' := by
    rcases o0 with rfl | ⟨a0, n0, c0, NL, rfl, hS, hn0, hb0, hsh⟩
    · exact drain_nil a1 n1 c1 W
    · by_cases hbd : n0 ≤ 4096
      · exact drain_some a0 n0 c0 NL a1 n1 c1 VL W hS hB1 hbd hb1 hsh
      · exact (drain_large (some a0) n0 c0 a1 n1 c1 W (by omega) hb0).mono fun e w' ⟨h, hw⟩ => ⟨h, hw ▸ Below.refl _ _⟩
  refine fin.mono fun e W' ⟨he, bel⟩ => ?_
  subst he
  exact ⟨_, rfl, _, _, _, [], _, [], hW', trodAll_mk1 (shut_bool Yba.underlying4 _), (trodAll_cons_mk (Below.trod laidOut (by kernel_rfl) (of_decide_eq_true (by kernel_rfl)) k0 bel lt0) (trodAll_cons_mk (Below.trod laidOut (by kernel_rfl) (of_decide_eq_true (by kernel_rfl)) k1 bel lt1) trodAll_mk0)), rfl, bel.frame _, fun h => by cases h⟩

theorem over : Rows.lawS6738ADrainRow.holds Yba.pinned (OpenSpec.ofChange Rows.lawS6738ADrainSpec) :=
  OpenClaim.holds_of_wide 4 Yba.f4 rfl rfl rfl rfl rfl rfl rfl ⟨rfl, rfl, rfl, rfl, rfl⟩ rfl rfl rfl rfl rfl (by kernel_rfl) Yba.func4 (by kernel_rfl)
    (of_decide_eq_true (by kernel_rfl)) (by unfold Func.isWrapper; first | (rw [if_pos (by decide +kernel)]; kernel_rfl) | (rw [if_neg (by decide +kernel)]; exact ⟨rfl, rfl⟩))
    (fun os started H enc _ => lifted os started H enc)

/-- THE STATEMENT -/
theorem proved : Rows.LawS6738ADrainSaid := over
end Go.Proofs.Ybulkeine.lawD
