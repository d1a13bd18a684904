/-
  LawS6742AWhole, walked.
-/
import Derived.Test.YbulkeipiWRanks
import Derived.Test.YbulkeipiSLaw
import Derived.Laws.CopyOwn
import Derived.Laws.StructEq
namespace Go.Proofs.Ybulkeipi.lawW
open Go.ChangeShapes Go.WideShapes Go.ChangeAt Go.RowKit
open Go.Proofs.Ybulkeipi.lawS (hide unhide mk22 cell_of_row frozen_of_row madeSize noStr fld28 Came eq22 bOf)

theorem info28 : (Yba.prog.info? 28).map (fun i => (i.zero, i.size, i.bytes)) = some (some (.agg #[.int .i64 0, .string noStr, .string noStr, .pointer none, .int .i64 0, .int .i64 0]), 6, 64) := by kernel_rfl

/-- The cells of n zero players. -/
def zeros (n : Nat) : Array Value := madeCells #[.int .i64 0, .string noStr, .string noStr, .pointer none, .int .i64 0, .int .i64 0] (n * 6)

theorem mk24 (w : World) (n : Nat) (hn : n ≤ 1048576) : (Instr.makeSlice 24 (.int .i64 n) (.int .i64 n)).run Yba.prog w = .ok (.slice (some ⟨w.heap.size, 0, none⟩) n n) (w.alloc (.cells (zeros n) 28)) := by
  have h := info28
  cases hi : Yba.prog.info? 28 with
  | none => rw [hi] at h; cases h
  | some i =>
    rw [hi] at h
    simp only [Option.map_some, Option.some.injEq, Prod.mk.injEq] at h
    obtain ⟨hz, hs, hb⟩ := h
    have := run_make w 24 28 i _ Yba.underlying24 hi hz .i64 .i64 n n (by omega) (Int.le_refl _) (by rw [hb]; omega) (by omega)
    rw [this, hs]
    simp [Value.cells, zeros]

/-- Plain cells. -/
def One (cs : Array Value) : Prop := ∀ (j : Nat) (v : Value), cs[j]? = some v → v.oneCell' = true

theorem zeros_size (n : Nat) : (zeros n).size = n * 6 := madeSize _ _
theorem zeros_one (n : Nat) : One (zeros n) := by
  intro j v h
  obtain ⟨hj, rfl⟩ := Array.getElem?_eq_some_iff.1 h
  simp only [zeros, madeCells, Array.getElem_map, Array.getElem_range]
  have h6 : j % 6 = 0 ∨ j % 6 = 1 ∨ j % 6 = 2 ∨ j % 6 = 3 ∨ j % 6 = 4 ∨ j % 6 = 5 := by omega
  show Value.oneCell' (#[Value.int .i64 0, .string noStr, .string noStr, .pointer none, .int .i64 0, .int .i64 0][j % 6]!) = true
  rcases h6 with h | h | h | h | h | h <;> rw [h] <;> rfl
theorem One.set {cs : Array Value} (h : One cs) (i : Nat) {u : Value} (hu : u.oneCell' = true) : One (cs.setIfInBounds i u) := by
  intro j v hv
  rw [Array.getElem?_setIfInBounds] at hv
  by_cases e : i = j
  · rw [if_pos e] at hv
    by_cases q : i < cs.size
    · rw [if_pos q] at hv; cases hv; exact hu
    · rw [if_neg q] at hv; cases hv
  · rw [if_neg e] at hv; exact h j v hv

/-- 'copy' of a whole row of n players into another. -/
theorem copy24 (w : World) (ty : TypeId) (G P n : Nat) (cur cs : Array Value) (hG : w.heap[G]? = some (.cells cur 28 (0, 0))) (hcur : cur.size = n * 6) (hP : w.heap[P]? = some (.cells cs 28 (0, 0))) (hcs : cs.size = n * 6) (h1 : One cs) :
    (Builtin.copy_ #[24, 24] ty #[.slice (some ⟨G, 0, none⟩) n n, .slice (some ⟨P, 0, none⟩) n n]).run Yba.prog w = .ok (goInt n) (w.setRow G cs) := by
  have hl := run_loadCells_list (P := Yba.prog) w ⟨P, 0, none⟩ cs.toList (fun j v hv => by
    have : (⟨P, 0, none⟩ : Addr).add j = ⟨P, j, none⟩ := by unfold Addr.add; split <;> simp_all
    rw [this, cell_of_row _ _ _ _ _ _ hP]; simpa using hv)
  have hst := run_storeCells_at Yba.prog G 0 28 cs.toList 0 cur w hG (by simp; omega) (fun v hv => by
    obtain ⟨j, hj, rfl⟩ := List.mem_iff_getElem.1 hv
    exact h1 j _ (by simp))
  have hs := info28
  cases hq : Yba.prog.info? 28 with
  | none => simp [hq] at hs
  | some i =>
    have hi : i.size = 6 := by simp [hq] at hs; exact hs.2.1
    have hd : List.drop cs.size cur.toList = [] := List.drop_eq_nil_of_le (by simp; omega)
    simp only [Array.length_toList, hcs] at hl
    simp [hd] at hst
    simp [Builtin.copy_, run_underlying Yba.underlying24, Builtin.lenOf, Builtin.firstCells, sizeOf, typeInfo, hq, hi, hl, hst]

/-- The row of players at block P, the first k laid. -/
def Laid (w : World) (P n k : Nat) (cs : Array Value) (C : Nat → ByteArray) (S R : Nat → Int) : Prop :=
  w.heap[P]? = some (.cells cs 28 (0, 0)) ∧ cs.size = n * 6 ∧ One cs ∧ ∀ i, i < k → Ply w P i (C i) (S i) (R i)

theorem Laid.lt {w : World} {P n k : Nat} {cs : Array Value} {C : Nat → ByteArray} {S R : Nat → Int} (h : Laid w P n k cs C S R) : P < w.heap.size := (Array.getElem?_eq_some_iff.1 h.1).1
theorem Laid.frozen {w : World} {P n k : Nat} {cs : Array Value} {C : Nat → ByteArray} {S R : Nat → Int} (h : Laid w P n k cs C S R) (j : Nat) : w.frozen? ⟨P, j, none⟩ = false := frozen_of_row _ _ _ _ _ h.1
theorem Laid.some {w : World} {P n k : Nat} {cs : Array Value} {C : Nat → ByteArray} {S R : Nat → Int} (h : Laid w P n k cs C S R) {j : Nat} (hj : j < n * 6) : ∃ u, w.cell? ⟨P, j, none⟩ = some u :=
  ⟨_, (cell_of_row _ _ _ _ _ _ h.1).trans (Array.getElem?_eq_getElem (by have := h.2.1; omega))⟩
theorem Laid.block {w w' : World} {P n k : Nat} {cs : Array Value} {C : Nat → ByteArray} {S R : Nat → Int} (h : Laid w P n k cs C S R) (hb : w'.heap[P]? = w.heap[P]?) : Laid w' P n k cs C S R := by
  refine ⟨hb.trans h.1, h.2.1, h.2.2.1, fun i hi => ?_⟩
  obtain ⟨e0, e1, e2, e3, e4, e5⟩ := h.2.2.2 i hi
  exact ⟨(World.cell?_of_block hb).trans e0, (World.cell?_of_block hb).trans e1, (World.cell?_of_block hb).trans e2, (World.cell?_of_block hb).trans e3, (World.cell?_of_block hb).trans e4, (World.cell?_of_block hb).trans e5⟩

theorem Ply.move {w w' : World} {P G i : Nat} {cs : Array Value} {c : ByteArray} {s r : Int} (h : Ply w P i c s r) (hP : w.heap[P]? = some (.cells cs 28 (0, 0))) (hG : w'.heap[G]? = some (.cells cs 28 (0, 0))) : Ply w' G i c s r := by
  have q : ∀ o, w'.cell? ⟨G, o, none⟩ = w.cell? ⟨P, o, none⟩ := fun o => (cell_of_row _ _ o _ _ _ hG).trans (cell_of_row _ _ o _ _ _ hP).symm
  exact ⟨(q _).trans h.e0, (q _).trans h.e1, (q _).trans h.e2, (q _).trans h.e3, (q _).trans h.e4, (q _).trans h.e5⟩

/-- Six cells written. -/
def put6 (w : World) (P k : Nat) (c : ByteArray) (s r : Int) : World :=
  (((((w.setCell ⟨P, k * 6, none⟩ (.int .i64 (k + 1))).setCell ⟨P, k * 6 + 1, none⟩ (.string c)).setCell ⟨P, k * 6 + 2, none⟩ (.string noStr)).setCell ⟨P, k * 6 + 3, none⟩ (.pointer none)).setCell ⟨P, k * 6 + 4, none⟩ (.int .i64 s)).setCell ⟨P, k * 6 + 5, none⟩ (.int .i64 r)

theorem Laid.step {w : World} {P n k : Nat} {cs : Array Value} {C : Nat → ByteArray} {S R : Nat → Int} (h : Laid w P n k cs C S R) (hk : k < n) :
    ∃ cs', Laid (put6 w P k (C k) (S k) (R k)) P n (k + 1) cs' C S R := by
  obtain ⟨h1, h2, h3, h4⟩ := h
  have hb := Joins.block_setCell (i := k * 6 + 5) (Joins.block_setCell (i := k * 6 + 4) (Joins.block_setCell (i := k * 6 + 3) (Joins.block_setCell (i := k * 6 + 2) (Joins.block_setCell (i := k * 6 + 1) (Joins.block_setCell (i := k * 6) h1 (.int .i64 (k + 1))) (.string (C k))) (.string noStr)) (.pointer none)) (.int .i64 (S k))) (.int .i64 (R k))
  refine ⟨_, hb, by simpa using h2, (((((h3.set _ rfl).set _ rfl).set _ rfl).set _ rfl).set _ rfl).set _ rfl, fun i hi => ?_⟩
  have hc : ∀ j, (put6 w P k (C k) (S k) (R k)).cell? ⟨P, j, none⟩ = _ := fun j => cell_of_row _ _ j _ _ _ hb
  by_cases e : i = k
  · subst e
    constructor <;> rw [hc] <;> simp only [Array.getElem?_setIfInBounds, Array.size_setIfInBounds, h2]
    · rw [if_neg (by omega), if_neg (by omega), if_neg (by omega), if_neg (by omega), if_neg (by omega), if_pos trivial, if_pos (by omega)]
    · rw [if_neg (by omega), if_neg (by omega), if_neg (by omega), if_neg (by omega), if_pos trivial, if_pos (by omega)]
    · rw [if_neg (by omega), if_neg (by omega), if_neg (by omega), if_pos trivial, if_pos (by omega)]
    · rw [if_neg (by omega), if_neg (by omega), if_pos trivial, if_pos (by omega)]
    · rw [if_neg (by omega), if_pos trivial, if_pos (by omega)]
    · rw [if_pos trivial, if_pos (by omega)]
  · have ho : ∀ j, j < 6 → (put6 w P k (C k) (S k) (R k)).cell? ⟨P, i * 6 + j, none⟩ = w.cell? ⟨P, i * 6 + j, none⟩ := fun j hj => by
      rw [hc]; simp only [Array.getElem?_setIfInBounds]
      rw [if_neg (by omega), if_neg (by omega), if_neg (by omega), if_neg (by omega), if_neg (by omega), if_neg (by omega)]
      exact (cell_of_row _ _ _ _ _ _ h1).symm
    obtain ⟨e0, e1, e2, e3, e4, e5⟩ := h4 i (by omega)
    exact ⟨(ho 0 (by omega)).trans e0, (ho 1 (by omega)).trans e1, (ho 2 (by omega)).trans e2, (ho 3 (by omega)).trans e3, (ho 4 (by omega)).trans e4, (ho 5 (by omega)).trans e5⟩

theorem put6_below {w0 w : World} {B P : Nat} (h : Below B w0 w) (hP : B ≤ P) (k : Nat) (c : ByteArray) (s r : Int) : Below B w0 (put6 w P k c s r) :=
  (((((h.setCell hP _).setCell hP _).setCell hP _).setCell hP _).setCell hP _).setCell hP _

/-- The commands that came in. -/
def CameS (w : World) (a : Option Addr) (n : Nat) (z : Nat → ByteArray) : Prop :=
  0 < n → ∃ b o, a = some ⟨b, o, none⟩ ∧ b < w.heap.size ∧ ∀ i, i < n → w.cell? ⟨b, o + i, none⟩ = some (.string (z i))
def cOf (m : Nat) (Z : Nat → ByteArray) (i : Nat) : ByteArray := if 0 < m then Z (i % m) else noStr

theorem ne22 (a : Addr) (n c : Nat) (w : World) : (binOp .neq 22 (.slice (some a) n c) (.slice none 0 0)).run Yba.prog w = .ok (.bool true) w := by kernel_rfl
theorem ne22n (w : World) : (binOp .neq 22 (.slice none 0 0) (.slice none 0 0)).run Yba.prog w = .ok (.bool false) w := by kernel_rfl

theorem ptrEq (d : Nat) (w : World) : (Op.equalIn (d + 1) 26 (.pointer none) (.pointer none)).run Yba.prog w = .ok true w := by
  simp [Op.equalIn, run_underlying Yba.underlying26]
theorem neq28 (a : Int) (b c : ByteArray) (e f : Int) (w : World) : (binOp .neq 28 (.agg #[.int .i64 a, .string b, .string c, .pointer none, .int .i64 e, .int .i64 f]) (.agg #[.int .i64 a, .string b, .string c, .pointer none, .int .i64 e, .int .i64 f])).run Yba.prog w = .ok (.bool false) w := by
  have hp : Yba.prog.stoodInHeld 28 = false := by kernel_rfl
  rw [run_neq_struct, run_equalIn_struct w 9999 28 _ _ (by simp [Program.fieldsOf, Yba.underlying28]) hp]
  simp [go_sem, Program.fieldsOf, Yba.underlying28, Op.eqFields, Yba.underlying3, Yba.underlying9, Yba.underlying25, ptrEq]
theorem guard28 : Yba.prog.eqGuardType Yba.prog.depth 28 = false := by kernel_rfl

set_option maxRecDepth 100000 in
set_option maxHeartbeats 1000000 in
theorem law_some (x0 : Addr) (n c0 : Nat) (R : Nat → Int) (a1 : Option Addr) (m c1 : Nat) (Z : Nat → Int) (a2 : Option Addr) (l c2 : Nat) (Y : Nat → ByteArray) (game : ByteArray) (seed turns : Int) (w : World)
    (h0 : Came w (some x0) n R) (h1 : Came w a1 m Z) (h2 : CameS w a2 l Y) (hn : n ≤ 1048576) (hm : m ≤ maxLen) (hl : l ≤ maxLen) :
    Calls Yba.prog 3 #[.slice (some x0) n c0, .slice a1 m c1, .slice a2 l c2, .string game, .int .i64 seed, .int .i64 turns] w fun e w' => e = .returned (.bool true) ∧ Below w.heap.size w w' := by
  have hmk := fun w => mk24 w n hn
  have hne := ne22
  have H0 := hide h0
  have H1 := hide h1
  have H2 := hide h2
  clear h0 h1 h2
  have hdec : decide ((1048576 : Int) < (n : Int)) = false := by simp; omega
  obtain ⟨w1, ew1⟩ : ∃ w1, w1 = w.alloc (.cells (zeros n) 28) := ⟨_, rfl⟩
  have hB1 : Below w.heap.size w w1 := by rw [ew1]; exact Joins.below_alloc1 _ _
  have hR1 : Hid (Laid w1 w.heap.size n 0 (zeros n) (cOf l Y) (bOf m Z) R) := ⟨by rw [ew1]; exact heap_alloc_new _ _, zeros_size n, zeros_one n, fun i hi => absurd hi (Nat.not_lt_zero i)⟩
  have HE := hide ew1
  clear ew1
  go_enter Yba.func3, Yba.ntmps3
  go_wp2
  rw [← unhide HE]
  clear HE hmk hne
  go_loopw [14] (fun i wr => ∃ k : Nat, k ≤ n ∧ i = .int .i64 k ∧ Below w.heap.size w wr ∧ Hid (∃ cs, Laid wr w.heap.size n k cs (cOf l Y) (bOf m Z) R)) (fun i _ => n - (intOf i).toNat)
  case atStart => exact ⟨0, by omega, rfl, hB1, _, hR1⟩
  case round =>
    obtain ⟨k, hk, rfl, hbel, hst⟩ := hrel
    clear hB1 hR1
    by_cases hlt : k < n
    · obtain ⟨b0, o0, ha0, hb0, hc0⟩ := unhide H0 (by omega)
      have e0 : wr.cell? ⟨b0, o0 + k, none⟩ = some (.int .i64 (R k)) := (hbel.cell (by exact hb0)).trans (hc0 _ hlt)
      have hi1 : (k : Int) < (n : Int) := by omega
      cases ha0
      clear hc0
      go_upto_if 45 with (fail)
      go_cut [15] (fun p wc => p = .pointer (some ⟨wr.heap.size, 0, none⟩) ∧ wc = wr.alloc (.cells #[.int .i64 (k + 1), .string noStr, .string noStr, .pointer none, .int .i64 (bOf m Z k), .int .i64 (R k)] 28))
      case first =>
        by_cases hm0 : m = 0
        · subst hm0
          go_wp2
          go_meet
          case rel => exact ⟨rfl, by first | rfl | trivial⟩
        · have hm1 : (0 : Int) < (m : Int) := by omega
          obtain ⟨b2, o2, ha2, hb2, hc2⟩ := unhide H1 (by omega)
          have hr : k % m < m := Nat.mod_lt _ (by omega)
          have hs : w.heap.size ≤ wr.heap.size := hbel.size
          have e2 : ∀ o, (wr.alloc o).cell? ⟨b2, o2 + k % m, none⟩ = some (.int .i64 (bOf m Z k)) := fun o => by
            rw [bOf, if_pos (by omega)]; exact ((hbel.alloc hbel.size o).cell (by exact hb2)).trans (hc2 _ hr)
          have hrem : Int.tmod (k : Int) (m : Int) = ((k % m : Nat) : Int) := by rw [Int.tmod_eq_emod_of_nonneg (by omega)]; rfl
          subst ha2
          clear hc2 hb2
          go_wp2
          go_meet
          case rel => exact ⟨rfl, by first | rfl | trivial⟩
      case rest =>
        obtain ⟨rfl, rfl⟩ := hcut
        go_upto_if 56 with (fail)
        go_cut [15] (fun p wc => p = .pointer (some ⟨wr.heap.size, 0, none⟩) ∧ wc = wr.alloc (.cells #[.int .i64 (k + 1), .string (cOf l Y k), .string noStr, .pointer none, .int .i64 (bOf m Z k), .int .i64 (R k)] 28))
        case first =>
          by_cases hm0 : l = 0
          · subst hm0
            go_wp2
            go_meet
            case rel => exact ⟨rfl, by first | rfl | trivial⟩
          · have hm1 : (0 : Int) < (l : Int) := by omega
            obtain ⟨b2, o2, ha2, hb2, hc2⟩ := unhide H2 (by omega)
            have hr : k % l < l := Nat.mod_lt _ (by omega)
            have hs : w.heap.size ≤ wr.heap.size := hbel.size
            have e2 : ∀ o, (wr.alloc o).cell? ⟨b2, o2 + k % l, none⟩ = some (.string (cOf l Y k)) := fun o => by
              rw [cOf, if_pos (by omega)]; exact ((hbel.alloc hbel.size o).cell (by exact hb2)).trans (hc2 _ hr)
            have hrem : Int.tmod (k : Int) (l : Int) = ((k % l : Nat) : Int) := by rw [Int.tmod_eq_emod_of_nonneg (by omega)]; rfl
            subst ha2
            clear hc2 hb2
            go_wp2
            go_meet
            case rel => exact ⟨rfl, by first | rfl | trivial⟩
        case rest =>
          obtain ⟨rfl, hwc⟩ := hcut
          obtain ⟨cs, hst⟩ := unhide hst
          have hp : wc.heap[wr.heap.size]? = some (.cells #[.int .i64 (k + 1), .string (cOf l Y k), .string noStr, .pointer none, .int .i64 (bOf m Z k), .int .i64 (R k)] 28 (0, 0)) := by rw [hwc]; exact heap_alloc_new _ _
          have c0 : wc.cell? ⟨wr.heap.size, 0, none⟩ = some (.int .i64 (k + 1)) := cell_of_row _ _ 0 _ _ _ hp
          have c1 : wc.cell? ⟨wr.heap.size, 1, none⟩ = some (.string (cOf l Y k)) := cell_of_row _ _ 1 _ _ _ hp
          have c2 : wc.cell? ⟨wr.heap.size, 2, none⟩ = some (.string noStr) := cell_of_row _ _ 2 _ _ _ hp
          have c3 : wc.cell? ⟨wr.heap.size, 3, none⟩ = some (.pointer none) := cell_of_row _ _ 3 _ _ _ hp
          have c4 : wc.cell? ⟨wr.heap.size, 4, none⟩ = some (.int .i64 (bOf m Z k)) := cell_of_row _ _ 4 _ _ _ hp
          have c5 : wc.cell? ⟨wr.heap.size, 5, none⟩ = some (.int .i64 (R k)) := cell_of_row _ _ 5 _ _ _ hp
          have hB2 : Below w.heap.size w wc := by rw [hwc]; exact hbel.alloc hbel.size _
          have hL2 : Laid wc w.heap.size n k cs (cOf l Y) (bOf m Z) R := hst.block (by rw [hwc]; exact heap_alloc_old _ _ hst.lt)
          obtain ⟨x0, hx0⟩ := hL2.some (j := k * 6) (by omega)
          obtain ⟨x1, hx1⟩ := hL2.some (j := k * 6 + 1) (by omega)
          obtain ⟨x2, hx2⟩ := hL2.some (j := k * 6 + 2) (by omega)
          obtain ⟨x3, hx3⟩ := hL2.some (j := k * 6 + 3) (by omega)
          obtain ⟨x4, hx4⟩ := hL2.some (j := k * 6 + 4) (by omega)
          obtain ⟨x5, hx5⟩ := hL2.some (j := k * 6 + 5) (by omega)
          have f0 := hL2.frozen (k * 6)
          have f1 := hL2.frozen (k * 6 + 1)
          have f2 := hL2.frozen (k * 6 + 2)
          have f3 := hL2.frozen (k * 6 + 3)
          have f4 := hL2.frozen (k * 6 + 4)
          have f5 := hL2.frozen (k * 6 + 5)
          have hst' : Hid (∃ cs, Laid (put6 wc w.heap.size k (cOf l Y k) (bOf m Z k) (R k)) w.heap.size n (k + 1) cs (cOf l Y) (bOf m Z) R) := hL2.step hlt
          have hB3 := put6_below hB2 (Nat.le_refl _) k (cOf l Y k) (bOf m Z k) (R k)
          clear hst hL2 hB2 hwc hp hbel e0
          go_wp2
          go_roundw
          case rel => exact ⟨k + 1, by omega, by go_num, hB3, hst'⟩
          case measure => simp [intOf]; omega
    · have ek : k = n := by omega
      subst ek
      clear hlt hk
      obtain ⟨cs, hst⟩ := unhide hst
      have hmk := fun w => mk24 w k hn
      have hPl := hst.lt
      have hs0 := hbel.size
      obtain ⟨w4, ew4⟩ : ∃ w4, w4 = (wr.alloc (.cells (zeros k) 28)).setRow wr.heap.size cs := ⟨_, rfl⟩
      have hG3 : (wr.alloc (.cells (zeros k) 28)).heap[wr.heap.size]? = some (.cells (zeros k) 28 (0, 0)) := heap_alloc_new _ _
      have hP3 : (wr.alloc (.cells (zeros k) 28)).heap[w.heap.size]? = some (.cells cs 28 (0, 0)) := (heap_alloc_old _ _ hPl).trans hst.1
      have hcp : (Builtin.copy_ #[24, 24] 3 #[.slice (some ⟨wr.heap.size, 0, none⟩) k k, .slice (some ⟨w.heap.size, 0, none⟩) k k]).run Yba.prog (wr.alloc (.cells (zeros k) 28)) = .ok (goInt k) w4 := by
        rw [ew4]; exact copy24 _ _ _ _ _ _ _ hG3 (zeros_size k) hP3 hst.2.1 hst.2.2.1
      have hG4 : w4.heap[wr.heap.size]? = some (.cells cs 28 (0, 0)) := by rw [ew4]; exact setRow_heap _ _ _ _ _ _ hG3
      have hP4 : w4.heap[w.heap.size]? = some (.cells cs 28 (0, 0)) := by rw [ew4, setRow_other _ _ _ _ (by omega)]; exact hP3
      have hB4 : Below w.heap.size w w4 := by rw [ew4]; exact below_setRow (hbel.alloc hbel.size _) hbel.size _
      have hL4 : Laid w4 w.heap.size k k cs (cOf l Y) (bOf m Z) R := hst.block (hP4.trans hst.1.symm)
      have hGl : wr.heap.size < w4.heap.size := (Array.getElem?_eq_some_iff.1 hG4).1
      clear ew4 hG3 hP3 hst hbel
      have HRK := hide (ranks5 game game seed turns (some ⟨w.heap.size, 0, none⟩) w.heap.size k k (cOf l Y) (bOf m Z) R (w4.alloc (.cells #[.string game, .int .i64 seed, .int .i64 turns, .string game, .slice (some ⟨w.heap.size, 0, none⟩) k k] 31)) hn
        (fun _ => ⟨rfl, by simp; omega, fun i hi => (hL4.2.2.2 i hi).below (Joins.below_alloc1 w4 _) hL4.lt⟩))
      have HG4 := hide hG4
      have HP4 := hide hP4
      have HL4 := hide hL4
      clear hG4 hP4 hL4
      go_wp2_with fail
      refine (unhide HRK).mono ?_
      rintro e w5 ⟨r, ds, rfl, hr, hcs, hsz, hck, hb5⟩
      clear HRK hcp hmk
      have hr1 : w4.heap.size + 1 ≤ r := by simpa using hr
      have hB5 : Below w.heap.size w w5 := (hB4.alloc hB4.size _).trans (Joins.below_le hb5 (by have := hB4.size; simp; omega))
      have hb45 : ∀ g, g < w4.heap.size → w5.heap[g]? = w4.heap[g]? := fun g hg => (hb5.block _ (by simp; omega)).trans (heap_alloc_old _ _ hg)
      have hS5 : Hid (w5.heap[w.heap.size]? = some (.cells cs 28 (0, 0)) ∧ w5.heap[wr.heap.size]? = some (.cells cs 28 (0, 0)) ∧ w5.heap[r]? = some (.cells ds 3 (0, 0))) :=
        ⟨(hb45 _ (by omega)).trans (unhide HP4), (hb45 _ hGl).trans (unhide HG4), hcs⟩
      have hDS : Hid (ds.size = k ∧ ∀ i, i < k → ds[i]? = some (.int .i64 (R i))) := ⟨hsz, hck⟩
      have hPL : Hid (∀ (W : World) (g : Nat), W.heap[g]? = some (.cells cs 28 (0, 0)) → ∀ i, i < k → Ply W g i (cOf l Y i) (bOf m Z i) (R i)) :=
        fun W g hW i hi => ((unhide HL4).2.2.2 i hi).move (unhide HL4).1 hW
      clear HG4 HP4 HL4 hr hcs hsz hck hb5 hb45 hB4 hs0
      have heq := eq22
      go_wp2
      clear heq hst
      generalize wr.heap.size = G at *
      generalize hWR : w4.heap.size = q4 at *
      clear hWR
      go_loopw [19] (fun i wt => ∃ j : Nat, j ≤ k ∧ i = .int .i64 j ∧ Below w.heap.size w wt ∧ Hid (wt.heap[w.heap.size]? = some (.cells cs 28 (0, 0)) ∧ wt.heap[G]? = some (.cells cs 28 (0, 0)) ∧ wt.heap[r]? = some (.cells ds 3 (0, 0)))) (fun i _ => k - (intOf i).toNat)
      case atStart => exact ⟨0, by omega, rfl, hB5, hS5⟩
      case round =>
        clear hB5 hS5
        obtain ⟨j, hj, rfl, hbel, hS⟩ := hrel
        by_cases hlt : j < k
        · obtain ⟨b0, o0, ha0, hb0, hc0⟩ := unhide H0 (by omega)
          cases ha0
          have g0 : wr.cell? ⟨b0, o0 + j, none⟩ = some (.int .i64 (R j)) := (hbel.cell (by exact hb0)).trans (hc0 _ hlt)
          have g1 : wr.cell? ⟨r, j, none⟩ = some (.int .i64 (R j)) := (cell_of_row _ _ _ _ _ _ (unhide hS).2.2).trans ((unhide hDS).2 j hlt)
          obtain ⟨p0, p1, p2, p3, p4, p5⟩ := unhide hPL wr _ (unhide hS).1 j hlt
          obtain ⟨q0, q1, q2, q3, q4, q5⟩ := unhide hPL wr _ (unhide hS).2.1 j hlt
          have hi1 : (j : Int) < (k : Int) := by omega
          have hn28 := fun w => neq28 (j + 1) (cOf l Y j) noStr (bOf m Z j) (R j) w
          have hg28 := guard28
          clear hc0 hb0
          go_wp2
          go_quiet (fail)
          go_wp2
          go_quiet (fail)
          go_wp2
          go_roundw
          case rel => exact ⟨j + 1, by omega, by go_num, hbel.trans (Joins.below_draws _ _ _), unhide hS⟩
          case measure => simp [intOf]; omega
        · have hS' : Hid (wr.heap[w.heap.size]? = some (.cells cs 28 (0, 0)) ∧ wr.heap[G]? = some (.cells cs 28 (0, 0)) ∧ ∃ es : Array Value, wr.heap[r]? = some (.cells es 3 (0, 0)) ∧ ∀ i, i < k → ∃ v, es[i]? = some (.int .i64 v)) :=
            ⟨(unhide hS).1, (unhide hS).2.1, ds, (unhide hS).2.2, fun i hi => ⟨_, (unhide hDS).2 i hi⟩⟩
          clear hS hDS
          go_wp2
          clear hlt hj
          go_loopw [20] (fun i wt => ∃ j : Nat, j ≤ k ∧ i = .int .i64 j ∧ Below w.heap.size w wt ∧ Hid (wt.heap[w.heap.size]? = some (.cells cs 28 (0, 0)) ∧ wt.heap[G]? = some (.cells cs 28 (0, 0)) ∧ ∃ es : Array Value, wt.heap[r]? = some (.cells es 3 (0, 0)) ∧ ∀ i, i < k → ∃ v, es[i]? = some (.int .i64 v))) (fun i _ => k - (intOf i).toNat)
          case atStart => exact ⟨0, by omega, rfl, hbel, hS'⟩
          case round =>
            clear hbel hS'
            obtain ⟨i, hj, rfl, hbel, hS⟩ := hrel
            by_cases hlt : i < k
            · obtain ⟨hs1, hs2, es, hs3, hs4⟩ := unhide hS
              obtain ⟨v, hv⟩ := hs4 i hlt
              have g1 : wr.cell? ⟨r, i, none⟩ = some (.int .i64 v) := (cell_of_row _ _ _ _ _ _ hs3).trans hv
              have f1 : wr.frozen? ⟨r, i, none⟩ = false := frozen_of_row _ _ _ _ _ hs3
              have hi1 : (i : Int) < (k : Int) := by omega
              have hoth : ∀ g, g ≠ r → ∀ u : Int, (wr.setCell ⟨r, i, none⟩ (.int .i64 u)).heap[g]? = wr.heap[g]? := fun g hg u => by
                exact heap_setCell_other _ _ _ _ (by exact hg)
              have hS' : Hid (∀ u : Int, (wr.setCell ⟨r, i, none⟩ (.int .i64 u)).heap[w.heap.size]? = some (.cells cs 28 (0, 0)) ∧ (wr.setCell ⟨r, i, none⟩ (.int .i64 u)).heap[G]? = some (.cells cs 28 (0, 0)) ∧ ∃ es : Array Value, (wr.setCell ⟨r, i, none⟩ (.int .i64 u)).heap[r]? = some (.cells es 3 (0, 0)) ∧ ∀ i, i < k → ∃ v, es[i]? = some (.int .i64 v)) := by
                intro u
                refine ⟨(hoth _ (by omega) u).trans hs1, (hoth _ (by omega) u).trans hs2, _, Joins.block_setCell (i := i) hs3 _, fun t ht => ?_⟩
                rw [Array.getElem?_setIfInBounds]
                by_cases e : i = t
                · subst e; rw [if_pos rfl, if_pos (Array.getElem?_eq_some_iff.1 hv).1]; exact ⟨_, rfl⟩
                · rw [if_neg e]; exact hs4 t ht
              have hB' : ∀ u : Int, Below w.heap.size w (wr.setCell ⟨r, i, none⟩ (.int .i64 u)) := fun u => hbel.setCell (by show w.heap.size ≤ r; omega) _
              clear hs1 hs2 hs3 hs4 hv hS hbel
              go_wp2
              go_roundw
              case rel => exact ⟨i + 1, by omega, by go_num, hB' _, unhide hS' _⟩
              case measure => simp [intOf]; omega
            · go_wp2
              clear hlt hj
              go_loopw [21] (fun i wt => ∃ j : Nat, j ≤ k ∧ i = .int .i64 j ∧ Below w.heap.size w wt ∧ Hid (wt.heap[w.heap.size]? = some (.cells cs 28 (0, 0)) ∧ wt.heap[G]? = some (.cells cs 28 (0, 0)))) (fun i _ => k - (intOf i).toNat)
              case atStart => exact ⟨0, by omega, rfl, hbel, (unhide hS).1, (unhide hS).2.1⟩
              case round =>
                clear hbel hS
                obtain ⟨t, ht, rfl, hbel, hS⟩ := hrel
                by_cases hlt : t < k
                · obtain ⟨p0, p1, p2, p3, p4, p5⟩ := unhide hPL wr _ (unhide hS).1 t hlt
                  obtain ⟨q0, q1, q2, q3, q4, q5⟩ := unhide hPL wr _ (unhide hS).2 t hlt
                  have hi1 : (t : Int) < (k : Int) := by omega
                  have hn28 := fun w => neq28 (t + 1) (cOf l Y t) noStr (bOf m Z t) (R t) w
                  have hg28 := guard28
                  go_wp2
                  go_quiet (fail)
                  go_wp2
                  go_roundw
                  case rel => exact ⟨t + 1, by omega, by go_num, hbel.trans (Joins.below_draws _ _ _), unhide hS⟩
                  case measure => simp [intOf]; omega
                · have hfin := hide hbel
                  clear hbel hS
                  go_wp2
                  go_ret
                  exact ⟨rfl, unhide hfin⟩

/-- Ranks that are nil. -/
theorem copyNil (w : World) (G : Nat) : (Builtin.copy_ #[24, 24] 3 #[.slice (some ⟨G, 0, none⟩) 0 0, .slice none 0 0]).run Yba.prog w = .ok (goInt 0) w :=
  run_copy_nil Yba.prog w 24 24 3 28 ⟨G, 0, none⟩ 0 0 Yba.underlying24 (by kernel_rfl)

set_option maxHeartbeats 1000000 in
theorem law_nil (a1 : Option Addr) (m c1 : Nat) (a2 : Option Addr) (l c2 : Nat) (game : ByteArray) (seed turns : Int) (w : World) :
    Calls Yba.prog 3 #[.slice none 0 0, .slice a1 m c1, .slice a2 l c2, .string game, .int .i64 seed, .int .i64 turns] w fun e w' => e = .returned (.bool true) ∧ Below w.heap.size w w' := by
  have hmk : ∀ w, _ := fun w => mk24 w 0 (by omega)
  simp only [Int.ofNat_zero] at hmk
  have hne := ne22n
  have heq := eq22
  have hcp := copyNil
  have HRK := hide (ranks5 game game seed turns none 0 0 0 (fun _ => noStr) (fun _ => 0) (fun _ => 0) ((w.alloc (.cells (zeros 0) 28)).alloc (.cells #[.string game, .int .i64 seed, .int .i64 turns, .string game, .slice none 0 0] 31)) (by omega) (fun h => absurd h (Nat.lt_irrefl 0)))
  go_enter Yba.func3, Yba.ntmps3
  go_wp2_with fail
  refine wp_loop_rounds 1 ?_
  rw [rounds_succ]
  go_wp2_with fail
  refine (unhide HRK).mono ?_
  rintro e w2 ⟨r, ds, rfl, hr, hcs, hsz, hck, hb2⟩
  have hB2 : Hid (Below w.heap.size w w2) := (Joins.below_alloc2 w _ _).trans (Joins.below_le hb2 (by simp; omega))
  clear HRK hb2 hr hcs hsz hck hmk hcp
  go_wp2
  refine wp_loop_rounds 1 ?_
  rw [rounds_succ]
  go_wp2
  refine wp_loop_rounds 1 ?_
  rw [rounds_succ]
  go_wp2
  refine wp_loop_rounds 1 ?_
  rw [rounds_succ]
  go_wp2
  go_ret
  exact ⟨rfl, unhide hB2⟩

/-- More than the law looks at. -/
theorem law_large (a0 : Option Addr) (n c0 : Nat) (a1 : Option Addr) (m c1 : Nat) (a2 : Option Addr) (l c2 : Nat) (game : ByteArray) (seed turns : Int) (w : World) (hn : 1048576 < n) :
    Calls Yba.prog 3 #[.slice a0 n c0, .slice a1 m c1, .slice a2 l c2, .string game, .int .i64 seed, .int .i64 turns] w fun e w' => e = .returned (.bool true) ∧ Below w.heap.size w w' := by
  have hdec : (1048576 : Int) < (n : Int) := by omega
  go_enter Yba.func3, Yba.ntmps3
  go_wp2
  go_ret
  exact ⟨rfl, Below.refl _ _⟩
end Go.Proofs.Ybulkeipi.lawW
