/-
  zzs6738abuild: the map, its keys in order of first appearance, and their values.
-/
import Derived.Test.YbulkeineATake
import Derived.Maps.AppendAt
import Derived.Deep.DeepCutAuto
import Derived.Lib.OwnKind
import Derived.Laws.OwnMore
import Derived.OwnWalk
namespace Go.Proofs.Ybulkeine.lawA
open Go.ChangeShapes Go.WideShapes Go.ChangeAt Go.RowKit
open Go.Maps (Keyed IsMap Tidy)

theorem kx_inj {x y : Str} (h : kx x = kx y) : x = y := bytes_inj (Lit.string.inj h)
theorem key_mk {x : Str} (h : x.size ≤ maxLen) : keyOf Yba.prog 9 (.string x) = some (kx x) := Go.WideMaps.keyOf_string_mk Yba.underlying9 h
theorem key_lit {x : Str} (h : x.size ≤ maxLen) : WideAt.IsKeyLit (kx x) := law9.key (key_mk h)

/-- THE PLAIN WORD: D holds just the keys, each with its value. -/
structure MapIs (D : DataW Unit) (keys : List Str) (kv : List Bool) : Prop where
  nodup : keys.Nodup
  len : kv.length = keys.length
  size : Maps.size D = keys.length
  short : ∀ x ∈ keys, x.size ≤ maxLen
  has : ∀ x : Str, x.size ≤ maxLen → (Maps.has D (kx x) = true ↔ x ∈ keys)
  at_ : ∀ j, j < keys.length → ∀ z, D.atKey (kx (keys.getD j noStr)) z = .lit (.bool (kv.getD j false))

theorem MapIs.empty : MapIs (.map []) [] [] := ⟨.nil, rfl, rfl, by simp, fun x _ => by simp [Maps.has], fun j hj => absurd hj (Nat.not_lt_zero j)⟩

theorem getD_mem {l : List Str} {j : Nat} (h : j < l.length) : l.getD j noStr ∈ l := by
  rw [List.getD_eq_getElem?_getD, List.getElem?_eq_getElem h]; exact List.getElem_mem h
theorem getD_inj {l : List Str} (hn : l.Nodup) {i j : Nat} (hi : i < l.length) (hj : j < l.length) (h : l.getD i noStr = l.getD j noStr) : i = j := by
  rw [List.getD_eq_getElem?_getD, List.getElem?_eq_getElem hi, List.getD_eq_getElem?_getD, List.getElem?_eq_getElem hj] at h
  have hp := List.pairwise_iff_getElem.1 hn
  rcases Nat.lt_trichotomy i j with q | q | q
  · exact absurd h (hp i j hi hj q)
  · exact q
  · exact absurd h.symm (hp j i hj hi q)

theorem idx_cases (l : List Str) (x : Str) : (x ∉ l ∧ idx l x = -1) ∨ ∃ j, j < l.length ∧ l.getD j noStr = x ∧ idx l x = j := by
  unfold idx
  cases h : l.findIdx? (fun y => decide (x = y)) with
  | none =>
    left
    refine ⟨fun hx => ?_, rfl⟩
    have := (List.findIdx?_eq_none_iff.1 h) x hx
    simp at this
  | some i =>
    right
    obtain ⟨hi, h1, _⟩ := List.findIdx?_eq_some_iff_getElem.1 h
    refine ⟨i, hi, ?_, rfl⟩
    rw [List.getD_eq_getElem?_getD, List.getElem?_eq_getElem hi]
    exact (of_decide_eq_true h1).symm

theorem getD_snoc_lt {α : Type} (l : List α) (x d : α) {j : Nat} (h : j < l.length) : (l ++ [x]).getD j d = l.getD j d := by
  rw [List.getD_eq_getElem?_getD, List.getD_eq_getElem?_getD, List.getElem?_append_left h]
theorem getD_snoc_eq {α : Type} (l : List α) (x d : α) : (l ++ [x]).getD l.length d = x := by
  rw [List.getD_eq_getElem?_getD, List.getElem?_append_right (Nat.le_refl _)]; simp

theorem MapIs.new {D : DataW Unit} {keys : List Str} {kv : List Bool} (h : MapIs D keys kv) (hD : Tidy D) {x : Str} (hx : x.size ≤ maxLen) (hn : x ∉ keys) (v : Bool) : MapIs (D.put (kx x) (.lit (.bool v))) (keys ++ [x]) (kv ++ [v]) := by
  have hno : Maps.has D (kx x) = false := by
    cases q : Maps.has D (kx x) with
    | false => rfl
    | true => exact absurd ((h.has x hx).1 q) hn
  refine ⟨?_, by simp [h.len], ?_, ?_, fun y hy => ?_, fun j hj z => ?_⟩
  · rw [List.nodup_append]
    exact ⟨h.nodup, by simp, fun a ha b hb => by simp at hb; subst hb; exact fun e => hn (e ▸ ha)⟩
  · rw [Go.Maps.size_put hD, hno, h.size]; simp
  · intro y hy
    rcases List.mem_append.1 hy with hy | hy
    · exact h.short y hy
    · simp at hy; subst hy; exact hx
  · by_cases e : y = x
    · subst e
      rw [Go.Maps.has_put_same hD.isMap (key_lit hx)]
      simp
    · rw [Go.Maps.has_put_other (fun q => e (kx_inj q)), h.has y hy]
      simp [e]
  · rw [List.length_append, List.length_singleton] at hj
    rcases Nat.lt_succ_iff_lt_or_eq.1 hj with hj | rfl
    · rw [getD_snoc_lt _ _ _ hj, getD_snoc_lt _ _ _ (by rw [h.len]; exact hj), Go.Maps.atKey_put_other (fun q => hn (by rw [← kx_inj q]; exact getD_mem hj)), h.at_ j hj]
    · rw [getD_snoc_eq, ← h.len, getD_snoc_eq, Go.Maps.atKey_put_same hD.isMap (key_lit hx)]

theorem MapIs.again {D : DataW Unit} {keys : List Str} {kv : List Bool} (h : MapIs D keys kv) (hD : Tidy D) {i : Nat} (hi : i < keys.length) (v : Bool) : MapIs (D.put (kx (keys.getD i noStr)) (.lit (.bool v))) keys (kv.set i v) := by
  have hm := getD_mem hi
  have hx := h.short _ hm
  refine ⟨h.nodup, by simp [h.len], ?_, h.short, fun y hy => ?_, fun j hj z => ?_⟩
  · rw [Go.Maps.size_put hD, (h.has _ hx).2 hm]; simpa using h.size
  · by_cases e : y = keys.getD i noStr
    · subst e
      rw [Go.Maps.has_put_same hD.isMap (key_lit hx)]
      exact ⟨fun _ => hm, fun _ => rfl⟩
    · rw [Go.Maps.has_put_other (fun q => e (kx_inj q))]
      exact h.has y hy
  · by_cases e : j = i
    · subst e
      rw [Go.Maps.atKey_put_same hD.isMap (key_lit hx), List.getD_eq_getElem?_getD, List.getElem?_set_self (by rw [h.len]; exact hj)]
      rfl
    · rw [Go.Maps.atKey_put_other (fun q => e (getD_inj h.nodup hj hi (kx_inj q))), h.at_ j hj, List.getD_eq_getElem?_getD, List.getD_eq_getElem?_getD, List.getElem?_set_ne (fun q => e q.symm)]

/-- What is left when one key has been taken. -/
structure LeftIs (D : DataW Unit) (keys : List Str) (kv : List Bool) (i : Nat) : Prop where
  size : Maps.size D + 1 = keys.length
  gone : Maps.has D (kx (keys.getD i noStr)) = false
  there : ∀ j, j < keys.length → j ≠ i → Maps.has D (kx (keys.getD j noStr)) = true
  at_ : ∀ j, j < keys.length → j ≠ i → ∀ z, D.atKey (kx (keys.getD j noStr)) z = .lit (.bool (kv.getD j false))

theorem MapIs.del {D : DataW Unit} {keys : List Str} {kv : List Bool} (h : MapIs D keys kv) (hD : Tidy D) {i : Nat} (hi : i < keys.length) : LeftIs (D.del (kx (keys.getD i noStr))) keys kv i := by
  have hm := getD_mem hi
  have hx := h.short _ hm
  refine ⟨?_, Go.Maps.has_del_same, fun j hj hne => ?_, fun j hj hne z => ?_⟩
  · have := Go.Maps.size_del (k := kx (keys.getD i noStr)) hD
    rw [(h.has _ hx).2 hm] at this
    rw [← h.size]; simpa using this
  · rw [Go.Maps.has_del_other (fun q => hne (getD_inj h.nodup hj hi (kx_inj q))), (h.has _ (h.short _ (getD_mem hj))).2 (getD_mem hj)]
  · rw [Go.Maps.atKey_del_other (fun q => hne (getD_inj h.nodup hj hi (kx_inj q))), h.at_ j hj]

theorem info9 : (Yba.prog.info? 9).map (fun i => (i.zero, i.size, i.bytes)) = some (some (.string ⟨#[]⟩), 1, 16) := by kernel_rfl
theorem info4 : (Yba.prog.info? 4).map (fun i => (i.zero, i.size, i.bytes)) = some (some (.bool false), 1, 1) := by kernel_rfl

theorem strs_of_own {w : World} {base : Nat} {v : Value} {l : List Str} {n : Nat} (h : w.ownsRow base 9 1 v n (l.map Value.string)) (hn : n = l.length) : StrsAt w v l := by
  subst hn
  rcases Joins.ownsRow_forms h with ⟨rfl, h0⟩ | ⟨g, cap, rfl⟩
  · exact ⟨none, 0, by rw [h0], fun hp => by omega⟩
  · refine ⟨_, cap, rfl, fun hp => ⟨g, 0, rfl, (h.lt g rfl).2, fun i hi => ?_⟩⟩
    rw [Nat.zero_add, h.cellAt i (by omega), List.getElem?_map, List.getD_eq_getElem?_getD, List.getElem?_eq_getElem hi]
    rfl
theorem bools_of_own {w : World} {base : Nat} {v : Value} {l : List Bool} {n : Nat} (h : w.ownsRow base 4 1 v n (l.map Value.bool)) (hn : n = l.length) : BoolsAt w v l := by
  subst hn
  rcases Joins.ownsRow_forms h with ⟨rfl, h0⟩ | ⟨g, cap, rfl⟩
  · exact ⟨none, 0, by rw [h0], fun hp => by omega⟩
  · refine ⟨_, cap, rfl, fun hp => ⟨g, 0, rfl, (h.lt g rfl).2, fun i hi => ?_⟩⟩
    rw [Nat.zero_add, h.cellAt i (by omega), List.getElem?_map, List.getD_eq_getElem?_getD, List.getElem?_eq_getElem hi]
    rfl

/-- The two rows and the map behind k rounds. -/
structure Built (w wr : World) (k : Nat) (vk vv : Value) (keys : List Str) (kv : List Bool) (D : DataW Unit) : Prop where
  map : OwnD wr w.heap.size k D
  is : MapIs D keys kv
  le : keys.length ≤ k
  rk : wr.ownsRow (w.heap.size + 1) 9 1 vk keys.length (keys.map Value.string)
  rv : wr.ownsRow (w.heap.size + 1) 4 1 vv keys.length (kv.map Value.bool)
  bel : Below w.heap.size w wr
  big : w.heap.size + 1 ≤ wr.heap.size

theorem Built.start (w : World) : Built w (w.alloc (.map #[] 0)) 0 (.slice none 0 0) (.slice none 0 0) [] [] (.map []) :=
  ⟨World.ownsMap_made _ _ _ _, MapIs.empty, Nat.le_refl _, World.ownsRow_nil _ _ _ _, World.ownsRow_nil _ _ _ _, (Below.refl _ _).alloc (Nat.le_refl _) _, by simp⟩

theorem own_ne {w : World} {base e size n : Nat} {v : Value} {xs : List Value} (h : w.ownsRow base e size v n xs) {b : Nat} (hb : b < base) : v.ownBlock = none ∨ v.ownBlock ≠ some b := by
  cases q : v.ownBlock with
  | none => exact .inl rfl
  | some g => exact .inr (fun e => by have := (h.lt g q).1; cases e; omega)
theorem own_apart {w : World} {base e1 e2 s1 s2 n1 n2 : Nat} {v1 v2 : Value} {xs ys : List Value} (h1 : w.ownsRow base e1 s1 v1 n1 xs) (h2 : w.ownsRow base e2 s2 v2 n2 ys) (hne : e1 ≠ e2) : v1.ownBlock = none ∨ v1.ownBlock ≠ v2.ownBlock := by
  cases q : v1.ownBlock with
  | none => exact .inl rfl
  | some g =>
    refine .inr (fun e => ?_)
    obtain ⟨c, fz, k1⟩ := Lib.ownsRow_kind h1 g q
    obtain ⟨c', fz', k2⟩ := Lib.ownsRow_kind h2 g e.symm
    rw [k1] at k2
    cases k2
    exact hne rfl

theorem map_ne {w : World} {base e size n : Nat} {v : Value} {xs : List Value} (h : w.ownsRow base e size v n xs) {b : Nat} (hb : b < base) : some b ≠ v.ownBlock := fun e => by have := (h.lt b e.symm).1; omega

section
variable {w wc w1 w2 w3 : World} {k : Nat} {vk vv vk' vv' : Value} {keys : List Str} {kv : List Bool} {D : DataW Unit} {x : Str} {v : Bool} {o o' : Obj}
theorem Built.rk1 (h : Built w wc k vk vv keys kv D) (h1 : wc.grownBy w1 (some w.heap.size)) : w1.ownsRow (w.heap.size + 1) 9 1 vk keys.length (keys.map Value.string) := h.rk.kept h1 (own_ne h.rk (by omega))
theorem Built.rv1 (h : Built w wc k vk vv keys kv D) (h1 : wc.grownBy w1 (some w.heap.size)) : w1.ownsRow (w.heap.size + 1) 4 1 vv keys.length (kv.map Value.bool) := h.rv.kept h1 (own_ne h.rv (by omega))
theorem Built.big1 (h : Built w wc k vk vv keys kv D) (h1 : wc.grownBy w1 (some w.heap.size)) : w.heap.size + 1 ≤ (w1.alloc o).heap.size := by have := h.big; have := h1.size; simp; omega
theorem Built.rv2 (h : Built w wc k vk vv keys kv D) (h1 : wc.grownBy w1 (some w.heap.size)) (h2 : (w1.alloc o).grownBy w2 vk.ownBlock) : w2.ownsRow (w.heap.size + 1) 4 1 vv keys.length (kv.map Value.bool) :=
  ((h.rv1 h1).alloc o).kept h2 (own_apart (h.rv1 h1) (h.rk1 h1) (by decide))
theorem Built.big2 (h : Built w wc k vk vv keys kv D) (h1 : wc.grownBy w1 (some w.heap.size)) (h2 : (w1.alloc o).grownBy w2 vk.ownBlock) : w.heap.size + 1 ≤ (w2.alloc o').heap.size := by have := h.big; have := h1.size; have := h2.size; simp at *; omega
theorem row_big {w : World} {base e size n : Nat} {v : Value} {xs : List Value} (h : w.ownsRow base e size v n xs) : ∀ k, v.ownBlock = some k → base ≤ k := fun k q => (h.lt k q).1
theorem Built.new (h : Built w wc k vk vv keys kv D) (hx : x.size ≤ maxLen) (hn : x ∉ keys) (hm : OwnD w1 w.heap.size (k + 1) (D.put (kx x) (.lit (.bool v)))) (h1 : wc.grownBy w1 (some w.heap.size))
    (hk : w2.ownsRow (w.heap.size + 1) 9 1 vk' (keys.length + 1) (keys.map Value.string ++ [.string x])) (h2 : (w1.alloc o).grownBy w2 vk.ownBlock)
    (hv : w3.ownsRow (w.heap.size + 1) 4 1 vv' (keys.length + 1) (kv.map Value.bool ++ [.bool v])) (h3 : (w2.alloc o').grownBy w3 vv.ownBlock) :
    Built w w3 (k + 1) vk' vv' (keys ++ [x]) (kv ++ [v]) (D.put (kx x) (.lit (.bool v))) := by
  have r2 := h.rv2 h1 h2
  have hB := h.big
  have s1 := h1.size
  have s2 : w1.heap.size + 1 ≤ w2.heap.size := by have := h2.size; simpa using this
  refine ⟨((hm.alloc o).kept h2 (map_ne (h.rk1 h1) (by omega))).alloc o' |>.kept h3 (map_ne r2 (by omega)), h.is.new (h.map.tidy law9) hx hn v, ?_, ?_, ?_, ?_, ?_⟩
  · have := h.le; simp; omega
  · rw [List.length_append, List.length_singleton, List.map_append]
    exact (hk.alloc o').kept h3 (own_apart hk r2 (by decide))
  · rw [List.length_append, List.length_singleton, List.map_append]
    exact hv
  · have b1 := h.bel.grown h1 h.bel.size (fun k e => by cases e; exact Nat.le_refl _)
    have b2 := (b1.alloc b1.size o).grown h2 (by have := b1.size; simp; omega) (fun k e => by have := row_big (h.rk1 h1) k e; omega)
    exact (b2.alloc b2.size o').grown h3 (by have := b2.size; simp; omega) (fun k e => by have := row_big r2 k e; omega)
  · have := h3.size; simp at this; omega
theorem Built.again (h : Built w wc k vk vv keys kv D) {j g cap : Nat} (hj : j < keys.length) (hjx : keys.getD j noStr = x) (hm : OwnD w1 w.heap.size (k + 1) (D.put (kx x) (.lit (.bool v)))) (h1 : wc.grownBy w1 (some w.heap.size))
    (hvv : vv = .slice (some ⟨g, 0, none⟩) keys.length cap) : Built w (w1.setCell ⟨g, j, none⟩ (.bool v)) (k + 1) vk vv keys (kv.set j v) (D.put (kx x) (.lit (.bool v))) := by
  subst hvv
  subst hjx
  have r1 := h.rv1 h1
  have hg := (r1.lt g rfl).1
  obtain ⟨q1, q2⟩ := r1.stored j (.bool v)
  refine ⟨hm.setCell (a := ⟨g, j, none⟩) (by show w.heap.size ≠ g; omega) _, h.is.again (h.map.tidy law9) hj v, by have := h.le; omega, (h.rk1 h1).kept q2 (own_apart (h.rk1 h1) r1 (by decide)), ?_, ?_, ?_⟩
  · rw [List.map_set]; exact q1
  · have b1 := h.bel.grown h1 h.bel.size (fun k e => by cases e; exact Nat.le_refl _)
    exact b1.setCell (by show w.heap.size ≤ g; omega) _
  · have := h.big; have := h1.size; have := q2.size; omega
end

theorem index_at {v : Value} {l : List Str} {x : Str} {w : World} {i : Int} (hi : idx l x = i) (h : StrsAt w v l) (hbd : l.length ≤ 65536) :
    Calls Yba.prog 8 #[v, .string x] w fun e w' => e = .returned (.int .i64 i) ∧ w' = w := hi ▸ index_any v l x w h hbd

set_option maxHeartbeats 1000000 in
set_option maxRecDepth 100000 in
theorem build_some (ad : Addr) (n c : Nat) (NL : List Str) (av : Option Addr) (m cv : Nat) (VL : List Bool) (w : World) (hN : StrsAt w (.slice (some ad) n c) NL) (hV : BoolsAt w (.slice av m cv) VL) (hbd : n ≤ 4096) (hm : m ≤ 140737488355328)
    (hsh : ∀ x ∈ NL, x.size ≤ maxLen) :
    Calls Yba.prog 6 #[.slice (some ad) n c, .slice av m cv] w fun e w' => ∃ vk vv keys kv D, e = .returned (.tuple #[.map (some w.heap.size), vk, vv]) ∧ Built w w' n vk vv keys kv D := by
  obtain ⟨a1, c1, e1, hp⟩ := hN
  obtain ⟨a2, c2, e2, hq⟩ := hV
  cases e1
  cases e2
  obtain ⟨n, hn⟩ : ∃ n, n = NL.length := ⟨_, rfl⟩
  obtain ⟨m, hmm⟩ : ∃ m, m = VL.length := ⟨_, rfl⟩
  have HP := hide hp
  have HQ := hide hq
  have HN := hide hn
  have HM := hide hmm
  have HSH := hide hsh
  rw [← hn] at hbd ⊢
  rw [← hmm] at hm ⊢
  clear hp hq hn hmm hsh
  have q1 := fun (a : Option Addr) (n c : Nat) (w : World) => Lib.run_eql_slice_nil (P := Yba.prog) w 22 9 a n c 0 0 Yba.underlying22
  have hmm := @run_makeMap Yba.prog
  obtain ⟨i9, hi9, hz90, hz91, hz92⟩ := info_parts info9
  obtain ⟨i4, hi4, hz40, hz41, hz42⟩ := info_parts info4
  go_enter Yba.func6, Yba.ntmps6
  go_wp2
  go_loopw [8, 9, 10] (fun vk vv i wr => ∃ k : Nat, k ≤ n ∧ i = .int .i64 k ∧ ∃ keys kv D, Hid (Built w wr k vk vv keys kv D)) (fun _ _ i _ => n - (intOf i).toNat)
  case atStart => exact ⟨0, by omega, rfl, _, _, _, Built.start w⟩
  case round =>
    obtain ⟨k, hk, rfl, keys, kv, D, hB⟩ := hrel
    by_cases hlt : k < n
    · have hL : k < NL.length := by rw [← unhide HN]; exact hlt
      obtain ⟨b, off, ha, hb, hc⟩ := unhide HP (by omega)
      obtain ⟨x, hx⟩ : ∃ x, x = NL.getD k noStr := ⟨_, rfl⟩
      have hck : wr.cell? ⟨b, off + k, none⟩ = some (.string x) := by rw [hx]; exact ((unhide hB).bel.cell (by exact hb)).trans (hc k hL)
      have hxs : x.size ≤ maxLen := by rw [hx]; exact unhide HSH _ (getD_mem hL)
      cases ha
      have hi1 : (k : Int) < (n : Int) := by omega
      clear hc hL hx
      go_upto_if 27 with (fail)
      go_cut [11] (fun s11 wc => ∃ v : Bool, s11 = .bool v ∧ wc = wr)
      case first =>
        by_cases hm0 : m = 0
        · subst hm0
          go_wp2
          go_meet
          case rel => exact ⟨_, rfl, by first | rfl | trivial⟩
        · have hm1 : (0 : Int) < (m : Int) := by omega
          have hM : m = VL.length := unhide HM
          obtain ⟨b2, o2, ha2, hb2, hc2⟩ := unhide HQ (by omega)
          have hr : k % m < m := Nat.mod_lt _ (by omega)
          have hrem : Int.tmod (k : Int) (m : Int) = ((k % m : Nat) : Int) := by rw [Int.tmod_eq_emod_of_nonneg (by omega)]; rfl
          have hcv := hc2 (k % m) (by omega)
          have hcv' : wr.cell? ⟨b2, o2 + k % m, none⟩ = some (.bool (VL.getD (k % m) false)) := ((unhide hB).bel.cell (by exact hb2)).trans hcv
          generalize VL.getD (k % m) false = v at hcv'
          cases ha2
          clear hcv hc2 hM
          go_wp2
          go_meet
          case rel => exact ⟨_, rfl, by first | rfl | trivial⟩
      case rest =>
        obtain ⟨v, rfl, rfl⟩ := hcut
        have hkey := key_mk hxs
        have hMap := (unhide hB).map
        have hck1 : ∀ w1 : World, wc.grownBy w1 (some w.heap.size) → w1.cell? ⟨b, off + k, none⟩ = some (.string x) := fun w1 h1 => h1.cell hck (by simp; omega)
        have hst1 : ∀ w1 : World, wc.grownBy w1 (some w.heap.size) → StrsAt w1 u8 keys := fun w1 h1 => strs_of_own ((unhide hB).rk.kept h1 (own_ne (unhide hB).rk (by omega))) rfl
        have hkl : keys.length ≤ 4096 := by have := (unhide hB).le; omega
        rcases idx_cases keys x with ⟨hno, hidx⟩ | ⟨j, hj, hjx, hidx⟩
        · go_wp2_with (first
            | (at_mapUpdate; refine wpList_mapUpdate_own _ rfl _ _ _ 24 rfl 9 4 law9 Yba.underlying24 _ w.heap.size k D rfl hMap (by unfold maxLen; omega) _ _ _ rfl rfl hkey _ [] (plainElem_bool Yba.underlying4 v) ?_; intro w1 hown1 hgrow1; have hc1 := hck1 w1 hgrow1)
            | (go_at_call 8; refine (index_at hidx (hst1 w1 hgrow1) (by omega)).mono ?_; rintro e w' ⟨rfl, hw'⟩; replace hw' := hw'.symm; subst hw')
            | (at_builtin; refine wpList_append_own_at _ rfl (.tmp 49) (.tmp 54) 22 rfl (w.heap.size + 1) 9 i9 (.string ⟨#[]⟩) 1 16 Yba.underlying22 hi9 hz90 hz91 hz92 rfl (by decide) u8 keys.length (keys.map Value.string) rfl (((unhide hB).rk1 hgrow1).alloc _) ⟨w1.heap.size, 0, none⟩ 1 1 [.string x] rfl rfl (cell_one_new _ _ _) (by simp [Value.oneCell']) (by unfold maxLen; omega) (by omega) ((unhide hB).big1 hgrow1) ?_; intro vk' w2 hrk2 hgrow2 hnil2 hloc2)
            | (at_builtin; refine wpList_append_own_at _ rfl (.tmp 56) (.tmp 58) 23 rfl (w.heap.size + 1) 4 i4 (.bool false) 1 1 Yba.underlying23 hi4 hz40 hz41 hz42 rfl (by decide) u9 keys.length (kv.map Value.bool) rfl (((unhide hB).rv2 hgrow1 hgrow2).alloc _) ⟨w2.heap.size, 0, none⟩ 1 1 [.bool v] rfl rfl (cell_one_new _ _ _) (by simp [Value.oneCell']) (by unfold maxLen; omega) (by omega) ((unhide hB).big2 hgrow1 hgrow2) ?_; intro vv' w3 hrv3 hgrow3 hnil3 hloc3))
          exact ⟨⟨k + 1, by omega, by go_num, _, _, _, (unhide hB).new hxs hno hown1 hgrow1 hrk2 hgrow2 hrv3 hgrow3⟩, by simp [intOf]; omega⟩
        · obtain ⟨g, cap, hu9⟩ := Joins.ownsRow_form (unhide hB).rv (by omega)
          subst hu9
          have hjk : (j : Int) < (keys.length : Int) := by omega
          have hcv1 : ∀ w1 : World, wc.grownBy w1 (some w.heap.size) → w1.cell? ⟨g, j, none⟩ = some (.bool (kv.getD j false)) := fun w1 h1 => by
            rw [((unhide hB).rv1 h1).cellAt j (by omega), List.getElem?_map, List.getD_eq_getElem?_getD, List.getElem?_eq_getElem (by rw [(unhide hB).is.len]; exact hj)]
            rfl
          have hfv1 : ∀ w1 : World, wc.grownBy w1 (some w.heap.size) → w1.frozen? ⟨g, j, none⟩ = false := fun w1 h1 => ((unhide hB).rv1 h1).frozenAt j
          go_wp2_with (first
            | (at_mapUpdate; refine wpList_mapUpdate_own _ rfl _ _ _ 24 rfl 9 4 law9 Yba.underlying24 _ w.heap.size k D rfl hMap (by unfold maxLen; omega) _ _ _ rfl rfl hkey _ [] (plainElem_bool Yba.underlying4 v) ?_; intro w1 hown1 hgrow1; have hc1 := hck1 w1 hgrow1; have hc2 := hcv1 w1 hgrow1; have hf2 := hfv1 w1 hgrow1)
            | (go_at_call 8; refine (index_at hidx (hst1 w1 hgrow1) (by omega)).mono ?_; rintro e w' ⟨rfl, hw'⟩; replace hw' := hw'.symm; subst hw'))
          exact ⟨⟨k + 1, by omega, by go_num, _, _, _, (unhide hB).again hj hjx hown1 hgrow1 rfl⟩, by simp [intOf]; omega⟩
    · have em : k = n := by omega
      subst em
      go_wp2
      exact bodyPost_ret (v := .tuple #[.map (some w.heap.size), u8, u9]) (by simp [results, Yba.results6, go_sem]) rfl ⟨_, _, _, _, _, rfl, unhide hB⟩

theorem build_nil (av : Option Addr) (m cv : Nat) (w : World) :
    Calls Yba.prog 6 #[.slice none 0 0, .slice av m cv] w fun e w' => e = .returned (.tuple #[.map none, .slice none 0 0, .slice none 0 0]) ∧ w' = w := by
  have q1 := fun (a : Option Addr) (n c : Nat) (w : World) => Lib.run_eql_slice_nil (P := Yba.prog) w 22 9 a n c 0 0 Yba.underlying22
  go_enter Yba.func6, Yba.ntmps6
  go_wp2
  exact bodyPost_ret (v := .tuple #[.map none, .slice none 0 0, .slice none 0 0]) (by simp [results, Yba.results6, go_sem]) rfl ⟨rfl, rfl⟩
end Go.Proofs.Ybulkeine.lawA
