import Derived.Test.YbulkeimqRows
import Derived.Test.YbulkeimqCPlain
import Derived.WalkKit
import Derived.WalkLawsBesides
import Derived.ProofKit
import Derived.OpenShut
import Derived.Below
import Derived.Deep.QuietTactic
import Derived.BigQuiet
import Derived.ArgAppend
import Derived.Laws.CopyOwn
import Derived.Lib.SmallJoins
namespace Go.Proofs.Ybulkeimq.lawS6737CWhole
open Go.ChangeShapes Go.WideShapes Go.ChangeAt Go.RowKit

theorem info5 : (Yba.prog.info? 5).map (fun i => (i.zero, i.size, i.bytes)) = some (some (.int .u8 0), 1, 1) := by kernel_rfl
theorem hide {p : Prop} (h : p) : Hid p := h
theorem unhide {p : Prop} (h : Hid p) : p := h

abbrev u8s (l : List Int) : List Value := l.map (Value.int .u8)

/-- v is the slice that came in (k = 0), or a row of the call's own. -/
def Held (w wr : World) (g n : Nat) (xs zs : List Int) (v : Value) (k : Nat) : Prop :=
  (k = 0 ∧ v = .slice (some ⟨g, 0, none⟩) n n) ∨ (0 < k ∧ wr.ownsRow w.heap.size 5 1 v (n + 3 * k) (u8s (xs ++ packTo zs k)))

/-- What the caller is told of the result. -/
def Out (w w' : World) (v : Value) (L : List Int) : Prop :=
  (∃ g' cap', v = .slice (some ⟨g', 0, none⟩) L.length cap' ∧ ∀ j, j < L.length → w'.cell? ⟨g', j, none⟩ = some (.int .u8 (L.getD j 0))) ∧ Below w.heap.size w w'

theorem getElem?_u8s (L : List Int) (j : Nat) (h : j < L.length) : (u8s L)[j]? = some (.int .u8 (L.getD j 0)) := by
  simp [u8s, List.getD_eq_getElem?_getD, List.getElem?_eq_getElem h]

theorem out_own {w w' : World} {v : Value} {L : List Int} {N : Nat} (h : w'.ownsRow w.heap.size 5 1 v N (u8s L)) (hN : N = L.length) (hp : 0 < N) (hb : Below w.heap.size w w') : Out w w' v L := by
  subst hN
  obtain ⟨g', cap', rfl⟩ := Joins.ownsRow_form h hp
  refine ⟨⟨g', cap', rfl, fun j hj => ?_⟩, hb⟩
  rw [h.cellAt j (by omega), getElem?_u8s L j hj]

theorem olds_of {w : World} {g n : Nat} {xs : List Int} (hn : xs.length = n) (h : ∀ j, j < n → w.cell? ⟨g, j, none⟩ = some (.int .u8 (xs.getD j 0))) :
    ∀ b, some (⟨g, 0, none⟩ : Addr) = some b → ∀ j u, (u8s xs)[j]? = some u → w.cell? (b.add j) = some u := by
  intro b hb j u hu
  cases hb
  have hj : j < xs.length := by
    rcases Nat.lt_or_ge j xs.length with h | h
    · exact h
    · rw [List.getElem?_eq_none (by simpa [u8s] using h)] at hu; cases hu
  rw [getElem?_u8s xs j hj] at hu
  cases hu
  rw [add_plain, Nat.zero_add]
  exact h j (by omega)

theorem u8s_one (l : List Int) : ∀ u ∈ u8s l, u.oneCell' = true := by
  intro u hu
  obtain ⟨x, _, rfl⟩ := List.mem_map.1 hu
  rfl

theorem cells_new (w : World) (l : List Int) : ∀ j u, (u8s l)[j]? = some u → (w.alloc (.cells (u8s l).toArray 5)).cell? ((⟨w.heap.size, 0, none⟩ : Addr).add j) = some u := by
  intro j u hu
  have := cell_of_row (w.alloc (.cells (u8s l).toArray 5)) w.heap.size j (u8s l).toArray 5 (0, 0) (heap_alloc_new _ _)
  rw [add_plain, Nat.zero_add, this]
  simpa using hu

theorem own_base {w : World} {B n gg cc : Nat} {L : List Value} (h : w.ownsRow B 5 1 (.slice (some ⟨gg, 0, none⟩) n cc) n L) (_ : 0 < n) : B ≤ gg := by
  rcases h.2 with ⟨h0, _⟩ | ⟨g, cap, cur, hv, hg, _⟩
  · cases h0
  · cases hv; exact hg

theorem held_step {w w1 : World} {B' : Nat} {g n k m : Nat} {xs zs : List Int} {v' : Value} {x y : Int} (hk : m = n + 3 * k) (hB : w.heap.size ≤ B')
    (hx : x = zs.getD (2 * k) 0) (hy : y = zs.getD (2 * k + 1) 0) (h : w1.ownsRow B' 5 1 v' (m + 3) (u8s (xs ++ packTo zs k) ++ u8s (pk x y))) : Held w w1 g n xs zs v' (k + 1) := by
  refine .inr ⟨by omega, ?_⟩
  have := Joins.ownsRow_le h hB
  rw [hk] at this
  rw [show n + 3 * (k + 1) = n + 3 * k + 3 by omega]
  simpa [packTo, u8s, hx, hy] using this

set_option maxHeartbeats 1000000 in
theorem append_any (g n len1 cap1 b off : Nat) (xs zs : List Int) (w : World)
    (hn : xs.length = n) (hz : zs.length = len1) (hpos : 0 < len1) (hbd : n + len1 ≤ 1048576) (hgB : g < w.heap.size) (hbB : b < w.heap.size)
    (hd : ∀ j, j < n → w.cell? ⟨g, j, none⟩ = some (.int .u8 (xs.getD j 0)))
    (hcz : ∀ j, j < len1 → w.cell? ⟨b, off + j, none⟩ = some (.int .u16 (zs.getD j 0)))
    (hwz : ∀ j, 0 ≤ zs.getD j 0 ∧ zs.getD j 0 ≤ 65535) :
    Calls Yba.prog 8 #[.slice (some ⟨g, 0, none⟩) n n, .slice (some ⟨b, off, none⟩) len1 cap1] w fun e w' => ∃ v, e = .returned v ∧ Out w w' v (xs ++ packed zs) := by
  obtain ⟨i0, hi, hz0, hz1, hz2⟩ := info_parts info5
  have HN := hide hn
  have HZ := hide hz
  have HD := hide hd
  have HC := hide hcz
  have HW := hide hwz
  clear hn hz hd hcz hwz
  go_enter Yba.func8, Yba.ntmps8
  go_wp2
  go_loopw [0, 5] (fun v i wr => ∃ k i' : Nat, Hid (i' = 2 * k) ∧ i' ≤ len1 ∧ i = .int .i64 i' ∧ Below w.heap.size w wr ∧ Hid (Held w wr g n xs zs v k)) (fun _ i _ => len1 - (intOf i).toNat)
  case atStart => exact ⟨0, 0, rfl, by omega, rfl, Below.refl _ _, .inl ⟨rfl, rfl⟩⟩
  case round =>
    obtain ⟨k, i', hik, hk, rfl, hbel, hheld⟩ := hrel
    by_cases hlt : i' + 1 < len1
    · obtain ⟨x, hx⟩ : ∃ x, x = zs.getD i' 0 := ⟨_, rfl⟩
      obtain ⟨y, hy⟩ : ∃ y, y = zs.getD (i' + 1) 0 := ⟨_, rfl⟩
      have c0 : wr.cell? ⟨b, off + i', none⟩ = some (.int .u16 x) := by rw [hx]; exact (hbel.cell (by exact hbB)).trans (unhide HC i' (by omega))
      have c1 : wr.cell? ⟨b, off + (i' + 1), none⟩ = some (.int .u16 y) := by rw [hy]; exact (hbel.cell (by exact hbB)).trans (unhide HC (i' + 1) (by omega))
      obtain ⟨hx0, hx1⟩ : 0 ≤ x ∧ x ≤ 65535 := by rw [hx]; exact unhide HW _
      obtain ⟨hy0, hy1⟩ : 0 ≤ y ∧ y ≤ 65535 := by rw [hy]; exact unhide HW _
      have HX := hide hx
      have HY := hide hy
      clear hx hy
      have h01 : (i' : Int) + 1 < (len1 : Int) := by omega
      have h00 : (i' : Int) < (len1 : Int) := by omega
      have hwr : IntKind.i64.wrap ((i' : Int) + 1) = (i' : Int) + 1 := by rw [IntKind.wrap_i64]; omega
      rcases unhide hheld with ⟨hk0, hv⟩ | ⟨hk0, hown⟩
      · subst hv
        clear hheld
        go_wp2
        go_quiet (fail)
        go_wp2_with (at_builtin; refine wpList_append_grows _ rfl (.tmp 25) (.tmp 38) 34 rfl 5 i0 (.int .u8 0) 1 1 Yba.underlying34 hi hz0 hz1 hz2 rfl (by decide) (some ⟨g, 0, none⟩) n n (u8s xs) rfl (by intro h; cases h) ?a1 ?a2 ⟨wr.heap.size, 0, none⟩ 3 3 (u8s (pk x y)) rfl ?a3 ?a4 (u8s_one _) (by omega) (by unfold maxLen; omega) (by omega) ?_)
        case a1 => simp [u8s, unhide HN]
        case a2 => exact olds_of (unhide HN) (fun j hj => (((hbel.trans (Joins.below_draws _ wr nq)).alloc (by have := hbel.size; simpa using this) _).cell (by exact hgB)).trans (unhide HD j hj))
        case a3 => rfl
        case a4 => exact cells_new (wr.drewN nq) (pk x y)
        intro v' w1 hown1 hgrow1
        have R : Hid (Held w w1 g n xs zs v' (k + 1)) := held_step (B' := wr.heap.size + 1) (m := n) (x := x) (y := y) (by omega) (by have := hbel.size; simp; omega) (by rw [unhide HX, unhide hik]) (by rw [unhide HY, unhide hik]) (by simpa [hk0, packTo] using hown1)
        have hbel1 : Below w.heap.size w w1 := ((hbel.trans (Joins.below_draws _ wr nq)).alloc (by have := hbel.size; simpa using this) _).grown hgrow1 (by have := hbel.size; simp; omega) (fun j hj => by cases hj)
        clear hown1 hgrow1 hbel hk0
        go_wp2
        go_roundw
        case rel => exact ⟨k + 1, i' + 2, by show i' + 2 = 2 * (k + 1); have := unhide hik; omega, by omega, by go_num, hbel1, R⟩
        case measure => simp [intOf]; omega
      · clear hheld
        obtain ⟨gg, cc, hv⟩ := Joins.ownsRow_form hown (by omega)
        subst hv
        go_wp2
        go_quiet (fail)
        go_wp2_with (at_builtin; refine wpList_append_own _ rfl (.tmp 25) (.tmp 38) 34 rfl w.heap.size 5 i0 (.int .u8 0) 1 1 Yba.underlying34 hi hz0 hz1 hz2 rfl (by decide) (.slice (some ⟨gg, 0, none⟩) (n + 3 * k) cc) (n + 3 * k) (u8s (xs ++ packTo zs k)) rfl (World.ownsRow.alloc (w := wr.drewN nq) hown _) ⟨wr.heap.size, 0, none⟩ 3 3 (u8s (pk x y)) rfl ?b3 ?b4 (u8s_one _) ?b5 ?b6 ?b7 ?_)
        case b3 => rfl
        case b4 => exact cells_new (wr.drewN nq) (pk x y)
        case b5 => have := unhide hik; unfold maxLen; omega
        case b6 => have := unhide hik; omega
        case b7 => have := hbel.size; simp; omega
        intro v' w1 hown1 hgrow1 _
        have R : Hid (Held w w1 g n xs zs v' (k + 1)) := held_step (B' := w.heap.size) (m := n + 3 * k) (x := x) (y := y) rfl (by omega) (by rw [unhide HX, unhide hik]) (by rw [unhide HY, unhide hik]) (by simpa [u8s] using hown1)
        have hgg : w.heap.size ≤ gg := own_base hown (by omega)
        have hbel1 : Below w.heap.size w w1 := ((hbel.trans (Joins.below_draws _ wr nq)).alloc (by have := hbel.size; simpa using this) _).grown hgrow1 (by have := hbel.size; simp; omega) (fun j hj => by cases hj; exact hgg)
        clear hown1 hgrow1 hbel hk0 hown
        go_wp2
        go_roundw
        case rel => exact ⟨k + 1, i' + 2, by show i' + 2 = 2 * (k + 1); have := unhide hik; omega, by omega, by go_num, hbel1, R⟩
        case measure => simp [intOf]; omega
    · by_cases heq : i' = len1
      · -- no length is left
        have hk0 : 0 < k := by have := unhide hik; omega
        have hdone : Out w wr u0 (xs ++ packed zs) := by
          rcases unhide hheld with ⟨h0, _⟩ | ⟨_, hown⟩
          · omega
          · rw [packed_even zs k (by rw [unhide HZ, ← heq]; exact unhide hik)]
            exact out_own hown (by simp [packTo_length, unhide HN]) (by omega) hbel
        have HO := hide hdone
        clear hdone hheld hbel
        subst heq
        have heven : ((i' : Int) % 2 == 1) = false := by have := unhide hik; rw [beq_eq_false_iff_ne]; omega
        go_wp2
        go_ret
        exact ⟨_, rfl, unhide HO⟩
      · -- one is left
        have hl1 : len1 = i' + 1 := by omega
        obtain ⟨x, hx⟩ : ∃ x, x = zs.getD i' 0 := ⟨_, rfl⟩
        have c0 : wr.cell? ⟨b, off + i', none⟩ = some (.int .u16 x) := by rw [hx]; exact (hbel.cell (by exact hbB)).trans (unhide HC i' (by omega))
        obtain ⟨hx0, hx1⟩ : 0 ≤ x ∧ x ≤ 65535 := by rw [hx]; exact unhide HW _
        have HX := hide hx
        clear hx
        have hodd : (((i' : Int) + 1) % 2 == 1) = true := by have := unhide hik; rw [beq_iff_eq]; omega
        have hpk : packed zs = packTo zs k ++ pk1 x := by rw [packed_odd zs k (by rw [unhide HZ, hl1, unhide hik]), unhide HX, unhide hik]
        have HP := hide hpk
        clear hpk
        subst hl1
        rcases unhide hheld with ⟨hk0, hv⟩ | ⟨hk0, hown⟩
        · subst hv
          clear hheld
          go_wp2_with (at_builtin; refine wpList_append_grows _ rfl (.tmp 50) (.tmp 57) 34 rfl 5 i0 (.int .u8 0) 1 1 Yba.underlying34 hi hz0 hz1 hz2 rfl (by decide) (some ⟨g, 0, none⟩) n n (u8s xs) rfl (by intro h; cases h) ?d1 ?d2 ⟨wr.heap.size, 0, none⟩ 2 2 (u8s (pk1 x)) rfl ?d3 ?d4 (u8s_one _) (by omega) (by unfold maxLen; omega) (by omega) ?_)
          case d1 => simp [u8s, unhide HN]
          case d2 => exact olds_of (unhide HN) (fun j hj => ((hbel.alloc (by have := hbel.size; simpa using this) _).cell (by exact hgB)).trans (unhide HD j hj))
          case d3 => rfl
          case d4 => exact cells_new wr (pk1 x)
          intro v' w1 hown1 hgrow1
          have hbel1 : Below w.heap.size w w1 := (hbel.alloc (by have := hbel.size; simpa using this) _).grown hgrow1 (by have := hbel.size; simp; omega) (fun j hj => by cases hj)
          have hdone : Out w w1 v' (xs ++ packed zs) := by
            rw [unhide HP, hk0]
            exact out_own (N := n + 2) (Joins.ownsRow_le (base := wr.heap.size + 1) (by simpa [u8s, packTo] using hown1) (by have := hbel.size; omega)) (by simp [packTo, pk1, unhide HN]) (by omega) hbel1
          have HO := hide hdone
          clear hdone hown1 hgrow1 hbel hbel1 hk0
          go_wp2
          go_ret
          exact ⟨_, rfl, unhide HO⟩
        · clear hheld
          obtain ⟨gg, cc, hv⟩ := Joins.ownsRow_form hown (by omega)
          subst hv
          go_wp2_with (at_builtin; refine wpList_append_own _ rfl (.tmp 50) (.tmp 57) 34 rfl w.heap.size 5 i0 (.int .u8 0) 1 1 Yba.underlying34 hi hz0 hz1 hz2 rfl (by decide) (.slice (some ⟨gg, 0, none⟩) (n + 3 * k) cc) (n + 3 * k) (u8s (xs ++ packTo zs k)) rfl (hown.alloc _) ⟨wr.heap.size, 0, none⟩ 2 2 (u8s (pk1 x)) rfl ?f3 ?f4 (u8s_one _) ?f5 ?f6 ?f7 ?_)
          case f3 => rfl
          case f4 => exact cells_new wr (pk1 x)
          case f5 => have := unhide hik; unfold maxLen; omega
          case f6 => have := unhide hik; omega
          case f7 => have := hbel.size; simp; omega
          intro v' w1 hown1 hgrow1 _
          have hgg : w.heap.size ≤ gg := own_base hown (by omega)
          have hbel1 : Below w.heap.size w w1 := (hbel.alloc (by have := hbel.size; simpa using this) _).grown hgrow1 (by have := hbel.size; simp; omega) (fun j hj => by cases hj; exact hgg)
          have hdone : Out w w1 v' (xs ++ packed zs) := by
            rw [unhide HP]
            exact out_own (N := n + 3 * k + 2) (by simpa [u8s] using hown1) (by simp [packTo_length, pk1, unhide HN]; omega) (by omega) hbel1
          have HO := hide hdone
          clear hdone hown1 hgrow1 hbel hbel1 hk0 hown
          go_wp2
          go_ret
          exact ⟨_, rfl, unhide HO⟩

/-- No length at all: what came in goes back. -/
theorem append_none (g n cap1 : Nat) (a1 : Option Addr) (xs : List Int) (w : World) (hn : xs.length = n)
    (hd : ∀ j, j < n → w.cell? ⟨g, j, none⟩ = some (.int .u8 (xs.getD j 0))) :
    Calls Yba.prog 8 #[.slice (some ⟨g, 0, none⟩) n n, .slice a1 0 cap1] w fun e w' => ∃ v, e = .returned v ∧ Out w w' v (xs ++ packed []) := by
  have hdone : Out w w (.slice (some ⟨g, 0, none⟩) n n) (xs ++ packed []) := by
    rw [show packed [] = [] from rfl, List.append_nil]
    exact ⟨⟨g, n, by rw [hn], fun j hj => hd j (by omega)⟩, Below.refl _ _⟩
  have HO := hide hdone
  clear hdone hd hn
  go_enter Yba.func8, Yba.ntmps8
  go_wp2
  refine wp_loop_rounds 1 ?_
  rw [rounds_succ]
  go_wp2
  go_ret
  exact ⟨_, rfl, unhide HO⟩
end Go.Proofs.Ybulkeimq.lawS6737CWhole
