/-
  LawS6738ADrain, walked: repeated takes hand out every due key once.
-/
import Derived.Test.YbulkeineALaw
namespace Go.Proofs.Ybulkeine.lawA
open Go.ChangeShapes Go.WideShapes Go.ChangeAt Go.RowKit
open Go.Maps (Keyed IsMap Tidy)

theorem drain_large (a : Option Addr) (n c : Nat) (av : Option Addr) (m cv : Nat) (w : World) (hbig : 4096 < n) (hn : n ≤ 140737488355328) :
    Calls Yba.prog 4 #[.slice a n c, .slice av m cv] w fun e w' => e = .returned (.bool true) ∧ w' = w := by
  have h1 : (4096 : Int) < (n : Int) := by omega
  go_enter Yba.func4, Yba.ntmps4
  go_wp2
  go_ret
  exact ⟨rfl, rfl⟩

/-- What is still due when 'got' has been handed out. -/
structure DrainIs (D : DataW Unit) (keys got : List Str) : Prop where
  has : ∀ x : Str, x.size ≤ maxLen → (Maps.has D (kx x) = true ↔ x ∈ keys ∧ x ∉ got)
  size : Maps.size D + got.length = keys.length

theorem DrainIs.start {D : DataW Unit} {keys : List Str} {kv : List Bool} (h : MapIs D keys kv) : DrainIs D keys [] :=
  ⟨fun x hx => by simpa using h.has x hx, by simpa using h.size⟩
theorem DrainIs.next {D : DataW Unit} {keys got : List Str} (h : DrainIs D keys got) (hD : Tidy D) {x : Str} (hhas : Maps.has D (kx x) = true) : DrainIs (D.del (kx x)) keys (got ++ [x]) := by
  refine ⟨fun y hy => ?_, ?_⟩
  · by_cases e : y = x
    · subst e
      rw [Go.Maps.has_del_same]
      simp
    · rw [Go.Maps.has_del_other (fun q => e (kx_inj q)), h.has y hy]
      simp [e]
  · have := Go.Maps.size_del (k := kx x) hD
    rw [hhas, if_pos rfl] at this
    have := h.size
    rw [List.length_append, List.length_singleton]
    omega

structure Drn (w wr : World) (S B n : Nat) (vk vg : Value) (keys got : List Str) (D : DataW Unit) : Prop where
  map : OwnD wr B n D
  row : wr.heap[S]? = some (.cells (conf (.map (some B)) 0 0) 38 (0, 0))
  rk : wr.ownsRow (B + 1) 9 1 vk keys.length (keys.map Value.string)
  low : ∀ g, vk.ownBlock = some g → g < S
  rg : wr.ownsRow (S + 1) 9 1 vg got.length (got.map Value.string)
  is : DrainIs D keys got
  bel : Below w.heap.size w wr
  big : S + 1 ≤ wr.heap.size
  le : w.heap.size ≤ B ∧ B < S

section
variable {w wr w1 w2 : World} {S B n : Nat} {vk vg vg' : Value} {keys got : List Str} {D D' : DataW Unit} {x : Str} {o : Obj}
theorem Drn.rk1 (h : Drn w wr S B n vk vg keys got D) (hg : wr.grownBy w1 (some B)) : w1.ownsRow (B + 1) 9 1 vk keys.length (keys.map Value.string) := h.rk.kept hg (own_ne h.rk (by omega))
theorem Drn.rg1 (h : Drn w wr S B n vk vg keys got D) (hg : wr.grownBy w1 (some B)) : w1.ownsRow (S + 1) 9 1 vg got.length (got.map Value.string) := h.rg.kept hg (own_ne h.rg (by have := h.le; omega))
theorem Drn.big1 (h : Drn w wr S B n vk vg keys got D) (hg : wr.grownBy w1 (some B)) : S + 1 ≤ (w1.alloc o).heap.size := by have := h.big; have := hg.size; simp; omega
theorem Drn.bel1 (h : Drn w wr S B n vk vg keys got D) (hg : wr.grownBy w1 (some B)) : Below w.heap.size w w1 := h.bel.grown hg h.bel.size (fun k e => by cases e; exact h.le.1)
theorem Drn.row1 (h : Drn w wr S B n vk vg keys got D) (hg : wr.grownBy w1 (some B)) : w1.heap[S]? = some (.cells (conf (.map (some B)) 0 0) 38 (0, 0)) := (hg.block S (by have := h.big; omega) (by have := h.le; simp; omega)).trans h.row
theorem Drn.next (h : Drn w wr S B n vk vg keys got D) (hg : wr.grownBy w1 (some B)) (hm : OwnD w1 B n (D.del (kx x))) (hhas : Maps.has D (kx x) = true)
    (h2 : (w1.alloc o).grownBy w2 vg.ownBlock) (hr : w2.ownsRow (S + 1) 9 1 vg' (got.length + 1) (got.map Value.string ++ [.string x])) : Drn w w2 S B n vk vg' keys (got ++ [x]) (D.del (kx x)) := by
  have hle := h.le
  have r1 := h.rg1 hg
  have hlow : ∀ k, vg.ownBlock = some k → S + 1 ≤ k := row_big r1
  refine ⟨(hm.alloc o).kept h2 (map_ne r1 (by omega)), ?_, ((h.rk1 hg).alloc o).kept h2 ?_, h.low, ?_, h.is.next (h.map.tidy law9) hhas, ?_, ?_, h.le⟩
  · refine (h2.block S (by have := h.big1 (o := o) hg; omega) (fun e => by have := hlow S e.symm; omega)).trans ?_
    rw [heap_alloc_old _ _ (by have := h.big; have := hg.size; omega)]
    exact h.row1 hg
  · cases q : vk.ownBlock with
    | none => exact .inl rfl
    | some g => exact .inr (fun e => by have := hlow g e.symm; have := h.low g q; omega)
  · rw [List.length_append, List.length_singleton, List.map_append]; exact hr
  · have b1 := h.bel1 hg
    exact (b1.alloc b1.size o).grown h2 (by have := b1.size; simp; omega) (fun k e => by have := hlow k e; omega)
  · have := h.big1 (o := o) hg; have := h2.size; omega
end

theorem contains_yes {v : Value} {l : List Str} {x : Str} {w : World} (hm : x ∈ l) (h : StrsAt w v l) (hbd : l.length ≤ 65536) :
    Calls Yba.prog 9 #[v, .string x] w fun e w' => e = .returned (.bool true) ∧ w' = w := by
  have := contains_any v l x w h hbd
  rcases idx_cases l x with ⟨hno, _⟩ | ⟨j, _, _, hidx⟩
  · exact absurd hm hno
  · rw [hidx, decide_eq_true (by omega)] at this
    exact this
theorem contains_no {v : Value} {l : List Str} {x : Str} {w : World} (hm : x ∉ l) (h : StrsAt w v l) (hbd : l.length ≤ 65536) :
    Calls Yba.prog 9 #[v, .string x] w fun e w' => e = .returned (.bool false) ∧ w' = w := by
  have := contains_any v l x w h hbd
  rcases idx_cases l x with ⟨_, hidx⟩ | ⟨j, hj, hjx, _⟩
  · rw [hidx, decide_eq_false (by omega)] at this
    exact this
  · exact absurd (hjx ▸ getD_mem hj) hm

set_option maxRecDepth 100000 in
theorem drain_nil (av : Option Addr) (m cv : Nat) (w : World) :
    Calls Yba.prog 4 #[.slice none 0 0, .slice av m cv] w fun e w' => e = .returned (.bool true) ∧ Below w.heap.size w w' := by
  have HB := hide (build_nil av m cv w)
  have HT := hide (take_nil w.heap.size (conf (.map none) 0 0) 38 (w.alloc (.cells (conf (.map none) 0 0) 38)) (heap_alloc_new _ _) rfl rfl)
  have ln := fun (ty : TypeId) (w : World) => Go.Maps.len_nil (w := w) Yba.underlying24 ty
  have HC : Hid (∀ w' : World, (w.alloc (.cells (conf (.map none) 0 0) 38)).grownBy w' none → w'.heap[w.heap.size]? = some (.cells (conf (.map none) 0 0) 38 (0, 0))) := fun w' h => (h.block _ (by simp) (by simp)).trans (heap_alloc_new _ _)
  go_enter Yba.func4, Yba.ntmps4
  go_wp2_with (go_at_call 6; refine (unhide HB).mono ?_; rintro e w' ⟨rfl, hw'⟩; replace hw' := hw'.symm; subst hw')
  refine wp_loop_rounds 1 ?_
  rw [rounds_succ]
  go_wp2_with fail
  refine (unhide HT).mono ?_
  rintro e w3 ⟨hg, rfl⟩
  obtain ⟨c2, c3, c4, c5, c6, c7⟩ := conf_cells (unhide HC w3 hg)
  have HBEL : Hid (Below w.heap.size w w3) := ((Below.refl _ _).alloc (Nat.le_refl _) _).grown hg (by simp) (fun k e => by cases e)
  clear hg HC HT HB
  go_wp2
  go_ret
  exact ⟨rfl, unhide HBEL⟩

set_option maxHeartbeats 2000000 in
set_option maxRecDepth 100000 in
theorem drain_some (ad : Addr) (n c : Nat) (NL : List Str) (av : Option Addr) (m cv : Nat) (VL : List Bool) (w : World) (hN : StrsAt w (.slice (some ad) n c) NL) (hV : BoolsAt w (.slice av m cv) VL) (hbd : n ≤ 4096) (hm : m ≤ 140737488355328)
    (hsh : ∀ x ∈ NL, x.size ≤ maxLen) :
    Calls Yba.prog 4 #[.slice (some ad) n c, .slice av m cv] w fun e w' => e = .returned (.bool true) ∧ Below w.heap.size w w' := by
  have HB := hide (build_some ad n c NL av m cv VL w hN hV hbd hm hsh)
  have h4 : ¬ (4096 : Int) < (n : Int) := by omega
  clear hN hV hsh hm
  obtain ⟨i9, hi9, hz90, hz91, hz92⟩ := info_parts info9
  go_enter Yba.func4, Yba.ntmps4
  go_wp2_with fail
  refine (unhide HB).mono ?_
  rintro e w1 ⟨vk, vv, keys, kv, D, rfl, hB⟩
  clear HB
  obtain ⟨ak, ck, rfl, hpk⟩ := strs_of_own hB.rk rfl
  obtain ⟨B, hBe⟩ : ∃ B, B = w.heap.size := ⟨_, rfl⟩
  obtain ⟨S, hSe⟩ : ∃ S, S = w1.heap.size := ⟨_, rfl⟩
  have hBS : B < S := by rw [hBe, hSe]; exact hB.map.lt
  have hD0 : Drn w (w1.alloc (.cells (conf (.map (some B)) 0 0) 38)) S B n (.slice ak keys.length ck) (.slice none 0 0) keys [] D :=
    ⟨by rw [hBe]; exact hB.map.alloc _, by rw [hSe]; exact heap_alloc_new _ _, by rw [hBe]; exact hB.rk.alloc _, fun g q => by rw [hSe]; exact (hB.rk.lt g q).2, World.ownsRow_nil _ _ _ _, DrainIs.start hB.is, hB.bel.alloc hB.bel.size _, by rw [hSe]; simp, by omega, hBS⟩
  obtain ⟨nk, hnk⟩ : ∃ nk, nk = keys.length := ⟨_, rfl⟩
  have hnk4 : nk ≤ 4096 := by have := hB.le; omega
  have HNK := hide hnk
  have HD0 := hide hD0
  rw [← hBe, ← hnk]
  rw [← hnk] at HD0
  have HSE := hide hSe
  clear hB hpk hBe hnk hD0 hSe
  go_wp2
  rw [← unhide HSE]
  go_loopw [9, 10] (fun vg i wr => ∃ k : Nat, k ≤ nk ∧ i = .int .i64 k ∧ ∃ got D, Hid (got.length = k) ∧ Hid (Drn w wr S B n (.slice ak nk ck) vg keys got D)) (fun _ i _ => nk - (intOf i).toNat)
  case atStart => exact ⟨0, by omega, rfl, [], D, rfl, HD0⟩
  case round =>
    clear HD0
    obtain ⟨k, hk, rfl, got, D', hgl, hD⟩ := hrel
    have HT := hide (take_some S B n D' (conf (.map (some B)) 0 0) 38 wr (unhide hD).row rfl rfl (unhide hD).map)
    by_cases hlt : k < nk
    · have hi1 : (k : Int) < (nk : Int) := by omega
      go_wp2_with fail
      refine (unhide HT).mono ?_
      rintro e w2 ⟨hg, hout⟩
      clear HT
      rcases hout with ⟨hs0, _⟩ | ⟨x, hx, hhas, rfl, hown⟩
      · exfalso
        have h1 := (unhide hD).is.size
        have h2 := unhide hgl
        have h3 := unhide HNK
        omega
      have hmem := ((unhide hD).is.has x hx).1 hhas
      have HC1 := hide (contains_yes (w := w2) hmem.1 (strs_of_own ((unhide hD).rk1 hg) rfl) (by have := unhide HNK; omega))
      have HC2 := hide (contains_no (w := w2) hmem.2 (strs_of_own ((unhide hD).rg1 hg) rfl) (by have := unhide hgl; omega))
      go_wp2_with (first
        | (go_at_call 9; refine (unhide HC1).mono ?_; rintro e w' ⟨rfl, hw'⟩; replace hw' := hw'.symm; subst hw')
        | (go_at_call 9; refine (unhide HC2).mono ?_; rintro e w' ⟨rfl, hw'⟩; replace hw' := hw'.symm; subst hw')
        | (at_builtin; refine wpList_append_own_at _ rfl (.tmp 52) (.tmp 54) 22 rfl (S + 1) 9 i9 (.string ⟨#[]⟩) 1 16 Yba.underlying22 hi9 hz90 hz91 hz92 rfl (by decide) u9 got.length (got.map Value.string) rfl (((unhide hD).rg1 hg).alloc _) ⟨w2.heap.size, 0, none⟩ 1 1 [.string x] rfl rfl (cell_one_new _ _ _) (by simp [Value.oneCell']) (by have := unhide hgl; unfold maxLen; omega) (by have := unhide hgl; omega) ((unhide hD).big1 hg) ?_; intro vg' w3 hrg3 hgrow3 hnil3 hloc3))
      exact ⟨⟨k + 1, by omega, by go_num, _, _, by show _ = _; rw [List.length_append, unhide hgl]; rfl, (unhide hD).next hg hown hhas hgrow3 hrg3⟩, by simp [intOf]; omega⟩
    · have hi1 : ¬ (k : Int) < (nk : Int) := by omega
      have hkn : k = nk := by omega
      subst hkn
      have hs : Maps.size D' = 0 := by
        have h1 := (unhide hD).is.size
        have h2 := unhide hgl
        have h3 := unhide HNK
        omega
      obtain ⟨ag, cg, hvg, _⟩ := strs_of_own (unhide hD).rg rfl
      rw [unhide hgl] at hvg
      subst hvg
      go_wp2_with fail
      refine (unhide HT).mono ?_
      rintro e w2 ⟨hg, hout⟩
      clear HT
      rcases hout with ⟨_, rfl, hown⟩ | ⟨x, hx, hhas, _⟩
      · obtain ⟨c2, c3, c4, c5, c6, c7⟩ := conf_cells ((unhide hD).row1 hg)
        have ln := fun (ty : TypeId) => hown.len (t := 24) Yba.underlying24 ty
        rw [hs] at ln
        have HF : Hid (Below w.heap.size w w2) := (unhide hD).bel1 hg
        clear hown hg hs
        go_wp2
        go_ret
        exact ⟨rfl, unhide HF⟩
      · exfalso
        have := Go.Maps.size_del (k := kx x) ((unhide hD).map.tidy law9)
        rw [hhas, if_pos rfl] at this
        omega
end Go.Proofs.Ybulkeine.lawA
