import Derived.Test.YbulkeimqDoorBData
import Derived.WalkSpells
import Derived.Laws.CopyOwn
namespace Go.Proofs.YbulkeimqDoor.lawB
open Go.ChangeShapes Go.WideShapes Go.ChangeAt Go.RowKit

theorem info5 : (Ybad.prog.info? 5).map (fun i => (i.zero, i.size, i.bytes)) = some (some (.int .u8 0), 1, 1) := by kernel_rfl
theorem info23 : (Ybad.prog.info? 23).map (fun i => (i.zero, i.size, i.bytes)) = some (some (.slice none 0 0), 1, 24) := by kernel_rfl

abbrev u8s (l : List Int) : List Value := l.map (Value.int .u8)
theorem getElem?_u8s (L : List Int) (j : Nat) (h : j < L.length) : (u8s L)[j]? = some (.int .u8 (L.getD j 0)) := by
  simp [u8s, List.getD_eq_getElem?_getD, List.getElem?_eq_getElem h]
theorem u8s_one (l : List Int) : ∀ u ∈ u8s l, u.oneCell' = true := by
  intro u hu
  obtain ⟨x, _, rfl⟩ := List.mem_map.1 hu
  rfl
abbrev nilS : Value := .slice none 0 0

/-- The slice leads above block G. -/
def Above (G : Nat) (s : Value) : Prop := ∀ a n c, s = .slice (some a) n c → 0 < n → G < a.block

/-- The first k cells of the new row G read as L's first; the others are nil. -/
def Filled (w : World) (G : Nat) (L : List Bs) (k : Nat) (S : List Value) : Prop :=
  S.length = L.length ∧ w.heap[G]? = some (.cells S.toArray 23 (0, 0)) ∧ (∀ j, j < k → BytesAt w (S.getD j nilS) (L.getD j none) ∧ Above G (S.getD j nilS)) ∧ ∀ j, k ≤ j → S.getD j nilS = nilS

theorem Filled.cell {w : World} {G k : Nat} {L : List Bs} {S : List Value} (h : Filled w G L k S) (j : Nat) (hj : j < L.length) : w.cell? ⟨G, j, none⟩ = some (S.getD j nilS) := by
  rw [cell_of_row w G j _ _ _ h.2.1]
  have : j < S.length := by rw [h.1]; exact hj
  simp [List.getD_eq_getElem?_getD, List.getElem?_eq_getElem this]

theorem bytes_setCell {w : World} {G i : Nat} {s x : Value} {o : Bs} (h : BytesAt w s o) (ha : Above G s) : BytesAt (w.setCell ⟨G, i, none⟩ x) s o := by
  cases o with
  | none => exact h
  | some l =>
    obtain ⟨a, cap, rfl, hc, hp, hx⟩ := h
    refine ⟨a, cap, rfl, hc, fun h0 => ?_, hx⟩
    obtain ⟨b, off, rfl, hbl, hcell⟩ := hp h0
    have hG := ha _ _ _ rfl h0
    refine ⟨b, off, rfl, by simpa using hbl, fun j hj => ?_⟩
    rw [World.cell?_setCell_other _ _ _ _ (by intro e; cases e; exact Nat.lt_irrefl _ hG)]
    exact hcell j hj

/-- One cell more. -/
theorem Filled.step {w w1 : World} {G k : Nat} {L : List Bs} {S : List Value} {x : Value} (h : Filled w G L k S) (hk : k < L.length) (hb : Below w.heap.size w w1) (hx : BytesAt w1 x (L.getD k none)) (hxa : Above G x) :
    Filled (w1.setCell ⟨G, k, none⟩ x) G L (k + 1) (S.set k x) := by
  have hG : G < w.heap.size := lt_of_block h.2.1
  refine ⟨by simp [h.1], ?_, ?_, ?_⟩
  · have := Joins.block_setCell (i := k) ((hb.block G hG).trans h.2.1) x
    simpa using this
  · intro j hj
    by_cases e : j = k
    · subst e
      have : (S.set j x).getD j nilS = x := by rw [List.getD_eq_getElem?_getD, List.getElem?_set_self (by rw [h.1]; exact hk)]; rfl
      rw [this]
      exact ⟨bytes_setCell hx hxa, hxa⟩
    · have : (S.set k x).getD j nilS = S.getD j nilS := by rw [List.getD_eq_getElem?_getD, List.getElem?_set_ne (by omega), ← List.getD_eq_getElem?_getD]
      rw [this]
      obtain ⟨q1, q2⟩ := h.2.2.1 j (by omega)
      exact ⟨bytes_setCell (q1.below hb) q2, q2⟩
  · intro j hj
    have : (S.set k x).getD j nilS = S.getD j nilS := by rw [List.getD_eq_getElem?_getD, List.getElem?_set_ne (by omega), ← List.getD_eq_getElem?_getD]
    rw [this]
    exact h.2.2.2 j (by omega)
/-- A nil one: nothing is written. -/
theorem Filled.skip {w : World} {G k : Nat} {L : List Bs} {S : List Value} (h : Filled w G L k S) (hn : L.getD k none = none) : Filled w G L (k + 1) S := by
  refine ⟨h.1, h.2.1, fun j hj => ?_, fun j hj => h.2.2.2 j (by omega)⟩
  by_cases e : j = k
  · subst e
    rw [hn, h.2.2.2 j (Nat.le_refl _)]
    exact ⟨rfl, fun a n c e => by cases e⟩
  · exact h.2.2.1 j (by omega)
theorem Filled.rows {w : World} {G : Nat} {L : List Bs} {S : List Value} (h : Filled w G L L.length S) : RowsAt w (.slice (some ⟨G, 0, none⟩) L.length L.length) L false := by
  refine ⟨_, _, rfl, rfl, fun e => (by cases e), fun _ => ⟨G, 0, rfl, lt_of_block h.2.1, fun i hi => ?_⟩⟩
  exact ⟨_, by rw [Nat.zero_add]; exact h.cell i hi, (h.2.2.1 i hi).1⟩
theorem rowMadeS {w : World} {B G L : Nat} {e : TypeId} {z : Value} (h : w.ownsRow B e 1 (.slice (some ⟨G, 0, none⟩) L L) L (madeCells #[z] L).toList) : w.heap[G]? = some (.cells (List.replicate L z).toArray e (0, 0)) := by
  rcases h.2 with ⟨h0, _⟩ | ⟨g, cap, cur, hv, _, hh, _, _, hs, ht⟩
  · cases h0
  · cases hv
    rw [hh]
    have e : cur.toList = List.replicate L z := by
      rw [List.take_of_length_le (by simp [hs])] at ht
      rw [ht]
      exact toList_madeCells_one z L
    rw [← e]
theorem Filled.start {w : World} {G : Nat} {L : List Bs} (h : w.heap[G]? = some (.cells (List.replicate L.length nilS).toArray 23 (0, 0))) : Filled w G L 0 (List.replicate L.length nilS) :=
  ⟨by simp, h, fun j hj => by omega, fun j _ => by simp [List.getD_eq_getElem?_getD, List.getElem?_replicate]; split <;> rfl⟩

theorem news_of {w : World} {a : Addr} {l : List Int} (hp : 0 < l.length → ∃ b off, a = ⟨b, off, none⟩ ∧ b < w.heap.size ∧ ∀ j, j < l.length → w.cell? ⟨b, off + j, none⟩ = some (.int .u8 (l.getD j 0))) :
    ∀ j u, (u8s l)[j]? = some u → w.cell? (a.add j) = some u := by
  intro j u hu
  have hj : j < l.length := by
    rcases Nat.lt_or_ge j l.length with h | h
    · exact h
    · rw [List.getElem?_eq_none (by simpa [u8s] using h)] at hu; cases hu
  obtain ⟨b, off, rfl, _, hc⟩ := hp (by omega)
  rw [getElem?_u8s l j hj] at hu
  cases hu
  rw [add_plain]
  exact hc j hj
theorem owns_empty (w : World) : (w.alloc (.cells #[] 5)).ownsRow w.heap.size 5 1 (.slice (some ⟨w.heap.size, 0, none⟩) 0 0) 0 [] :=
  ⟨rfl, .inr ⟨w.heap.size, 0, #[], rfl, Nat.le_refl _, heap_alloc_new _ _, Nat.le_refl _, by unfold maxLen; omega, rfl, rfl⟩⟩
/-- A row of the call's own, as bytes. -/
theorem bytes_own {w : World} {B N : Nat} {v : Value} {l : List Int} (h : w.ownsRow B 5 1 v N (u8s l)) (hN : N = l.length) (hv : v ≠ .slice none 0 0) (hx : ∀ x ∈ l, 0 ≤ x ∧ x ≤ 255) :
    (∃ g cap, v = .slice (some ⟨g, 0, none⟩) l.length cap) ∧ BytesAt w v (some l) ∧ ∀ G, G < B → Above G v := by
  subst hN
  have h' := h
  rcases h'.2 with ⟨h0, _⟩ | ⟨g, cap, cur, rfl, hB, hh, hc, _, _, _⟩
  · exact absurd h0 hv
  · refine ⟨⟨g, cap, rfl⟩, ⟨_, cap, rfl, hc, fun _ => ⟨g, 0, rfl, lt_of_block hh, fun j hj => ?_⟩, hx⟩, ?_⟩
    · rw [Nat.zero_add, h.cellAt j (by omega), getElem?_u8s l j hj]
    · intro G hG a n c e _
      cases e
      exact Nat.lt_of_lt_of_le hG hB

set_option maxHeartbeats 1000000 in
theorem clone_nil (L : List Bs) (w : World) (hL : L = []) (cap : Nat) :
    Calls Ybad.prog 4 #[.slice none 0 cap] w fun e w' => ∃ v', e = .returned v' ∧ RowsAt w' v' L true ∧ Below w.heap.size w w' := by
  subst hL
  have q1 := fun (a : Option Addr) (n c : Nat) (w : World) => Lib.run_eql_slice_nil (P := Ybad.prog) w 22 23 a n c 0 0 Ybad.underlying22
  go_enter Ybad.func4, Ybad.ntmps4
  go_wp2
  go_ret
  exact ⟨_, rfl, ⟨none, 0, rfl, rfl, fun _ => rfl, fun h => absurd h (Nat.lt_irrefl 0)⟩, Below.refl _ _⟩

set_option maxHeartbeats 1000000 in
theorem clone_some (a : Addr) (cap : Nat) (L : List Bs) (w : World) (h : RowsAt w (.slice (some a) L.length cap) L false) (hbd : L.length ≤ 65536) (hsz : ∀ o ∈ L, (bytes o).length ≤ 1048576) :
    Calls Ybad.prog 4 #[.slice (some a) L.length cap] w fun e w' => ∃ v', e = .returned v' ∧ RowsAt w' v' L false ∧ Below w.heap.size w w' := by
  obtain ⟨a', cap', ev, _, _, hp⟩ := h
  cases ev
  obtain ⟨i23, hi23, hz23, hs23, hb23⟩ := info_parts info23
  obtain ⟨i5, hi5, hz5, hs5, hb5⟩ := info_parts info5
  obtain ⟨n, hn⟩ : ∃ n, n = L.length := ⟨_, rfl⟩
  have HP := hide hp
  have HS := hide hsz
  have HN := hide hn
  rw [← hn] at hbd ⊢
  clear hp hsz hn
  have q1 := fun (a : Option Addr) (n c : Nat) (w : World) => Lib.run_eql_slice_nil (P := Ybad.prog) w 22 23 a n c 0 0 Ybad.underlying22
  have q2 := fun (a : Option Addr) (n c : Nat) (w : World) => run_neq_slice_nil_any (P := Ybad.prog) w 23 5 a n c 0 0 Ybad.underlying23
  go_enter Ybad.func4, Ybad.ntmps4
  go_wp2_with (at_make; refine wpList_make_full _ rfl (.tmp 8) (.tmp 8) 22 rfl w.heap.size 23 i23 (.slice none 0 0) 1 Ybad.underlying22 hi23 hz23 hs23 .i64 .i64 _ _ n rfl rfl ?m1 ?m2 ?m3 ?m4 ?m5 ?_)
  case m1 => rfl
  case m2 => rfl
  case m3 => rw [hb23]; omega
  case m4 => unfold maxLen; omega
  case m5 => exact Nat.le_refl _
  intro w1 hown1 hgrow1
  have hB1 : Below w.heap.size w w1 := (Below.refl _ _).grown hgrow1 (Nat.le_refl _) (fun j hj => by cases hj)
  have hF1 : Hid (Filled w1 w.heap.size L 0 (List.replicate L.length nilS)) := Filled.start (by rw [← unhide HN]; exact rowMadeS hown1)
  clear hown1 hgrow1
  go_wp2
  go_loopw [4] (fun i wr => ∃ k : Nat, k ≤ n ∧ i = .int .i64 k ∧ Below w.heap.size w wr ∧ ∃ S, Hid (Filled wr w.heap.size L k S)) (fun i _ => n - (intOf i).toNat)
  case atStart => exact ⟨0, by omega, rfl, hB1, _, hF1⟩
  case round =>
    obtain ⟨k, hk, rfl, hbel, S, hF⟩ := hrel
    by_cases hlt : k < n
    · have hL : k < L.length := by rw [← unhide HN]; exact hlt
      obtain ⟨b1, o1, ha1, hb1, hc1⟩ := unhide HP (by omega)
      obtain ⟨s1, hs1, hB1⟩ := hc1 k hL
      have e1 : wr.cell? ⟨b1, o1 + k, none⟩ = some s1 := (hbel.cell (by exact hb1)).trans hs1
      have hi1 : (k : Int) < (n : Int) := by omega
      have ha1' : a = ⟨b1, o1, none⟩ := by injection ha1
      subst ha1'
      cases hLk : L.getD k none with
      | none =>
        rw [hLk] at hB1
        rw [show s1 = .slice none 0 0 from hB1] at e1
        have hF' : Hid (Filled wr w.heap.size L (k + 1) S) := (unhide hF).skip hLk
        clear hB1 hLk hs1 hc1 hL hb1 ha1 hF
        go_wp2
        go_roundw
        case rel => exact ⟨k + 1, by omega, by go_num, hbel, S, hF'⟩
        case measure => simp [intOf]; omega
      | some l =>
        rw [hLk] at hB1
        have hlen : l.length ≤ 1048576 := by
          have := unhide HS (L.getD k none) (by rw [List.getD_eq_getElem?_getD, List.getElem?_eq_getElem hL]; exact List.getElem_mem hL)
          rw [hLk] at this
          exact this
        have hB1r := hB1.below hbel
        obtain ⟨p1, d1, es1, hcap1, hpp, hxx⟩ := hB1r
        rw [es1] at e1
        have e1' : ∀ o, (wr.alloc o).cell? ⟨b1, o1 + k, none⟩ = some (.slice (some p1) l.length d1) := fun o => (((Below.refl wr.heap.size wr).alloc (Nat.le_refl _) o).cell (Nat.lt_of_lt_of_le hb1 hbel.size)).trans e1
        have HLk := hide hLk
        have HPP := hide hpp
        have HXX := hide hxx
        have hGr : w.heap.size < wr.heap.size := lt_of_block (unhide hF).2.1
        clear hLk hpp hxx hs1 hc1 hB1 es1 hb1 ha1
        go_wp2_with (at_builtin; refine wpList_append_own _ rfl (.tmp 23) (.tmp 27) 23 rfl wr.heap.size 5 i5 (.int .u8 0) 1 1 Ybad.underlying23 hi5 hz5 hs5 hb5 rfl (by decide) (.slice (some ⟨wr.heap.size, 0, none⟩) 0 0) 0 [] rfl (owns_empty wr) p1 l.length d1 (u8s l) rfl ?c1 ?c2 (u8s_one _) ?c3 ?c4 ?c5 ?_)
        case c1 => simp [u8s]
        case c2 => exact news_of (fun h0 => by
          obtain ⟨b, off, rfl, hbl, hcell⟩ := unhide HPP h0
          exact ⟨b, off, rfl, by simp; omega, fun j hj => (((Below.refl wr.heap.size wr).alloc (Nat.le_refl _) _).cell (by exact hbl)).trans (hcell j hj)⟩)
        case c3 => unfold maxLen; omega
        case c4 => omega
        case c5 => simp
        intro v' w2 hown2 hgrow2 hnil2
        have hb2 : Below wr.heap.size wr w2 := ((Below.refl _ _).alloc (Nat.le_refl _) _).grown hgrow2 (by simp) (fun j hj => by cases hj; exact Nat.le_refl _)
        obtain ⟨⟨g', cap'', ev'⟩, hBv, hAv⟩ := bytes_own (l := l) (by simpa using hown2) (by simp) (fun e => hnil2 e) (unhide HXX)
        rw [ev'] at hBv hAv ⊢
        have hF' : Hid (Filled (w2.setCell ⟨w.heap.size, k, none⟩ (.slice (some ⟨g', 0, none⟩) l.length cap'')) w.heap.size L (k + 1) (S.set k (.slice (some ⟨g', 0, none⟩) l.length cap''))) :=
          (unhide hF).step hL hb2 (by rw [unhide HLk]; exact hBv) (hAv _ hGr)
        have cG : w2.cell? ⟨w.heap.size, k, none⟩ = some (S.getD k nilS) := (hb2.cell (by exact hGr)).trans ((unhide hF).cell k hL)
        have fz : w2.frozen? ⟨w.heap.size, k, none⟩ = false := (hb2.frozen (by exact hGr)).trans (frozen_of_row wr _ _ _ _ (unhide hF).2.1)
        have hbel2 : Below w.heap.size w w2 := hbel.trans (Joins.below_le hb2 (by omega))
        generalize S.getD k nilS = zz at cG
        clear hown2 hgrow2 hnil2 hBv hAv hF hb2 hbel hL
        go_wp2
        go_roundw
        case rel => exact ⟨k + 1, by omega, by go_num, hbel2.setCell (Nat.le_refl _) _, _, hF'⟩
        case measure => simp [intOf]; omega
    · have e : k = L.length := by rw [← unhide HN]; omega
      have hfin : Hid (RowsAt wr (.slice (some ⟨w.heap.size, 0, none⟩) n n) L false) := by
        have := (unhide hF)
        rw [e] at this
        rw [unhide HN]
        exact this.rows
      clear hF e
      go_wp2
      go_ret
      exact ⟨_, rfl, unhide hfin, hbel⟩

theorem clone_any (v : Value) (L : List Bs) (nl : Bool) (w : World) (h : RowsAt w v L nl) (hbd : L.length ≤ 65536) (hsz : ∀ o ∈ L, (bytes o).length ≤ 1048576) :
    Calls Ybad.prog 4 #[v] w fun e w' => ∃ v', e = .returned v' ∧ RowsAt w' v' L nl ∧ Below w.heap.size w w' := by
  have h' := h
  obtain ⟨a, cap, rfl, hn, hl, _⟩ := h'
  cases a with
  | none =>
    have : nl = true := hn.symm
    subst this
    have e := hl rfl
    rw [e] at *
    exact clone_nil [] w rfl cap
  | some a =>
    have : nl = false := hn.symm
    subst this
    exact clone_some a cap L w h hbd hsz
end Go.Proofs.YbulkeimqDoor.lawB
