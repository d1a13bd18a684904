import Derived.Test.YbulkeimqDoorBMsg
import Derived.Deep.Cut
namespace Go.Proofs.YbulkeimqDoor.lawB
open Go.ChangeShapes Go.WideShapes Go.ChangeAt Go.RowKit

/-- The first error among the first k blocks. -/
def scan (L : List Bs) : Nat → Option Nat
  | 0 => none
  | k + 1 => match scan L k with
    | some e => some e
    | none => chk k (L.getD k none)
def verdict (L : List Bs) : Option Nat :=
  if 4 < L.length then some 0 else match scan L L.length with
    | some e => some e
    | none => if L.length < 4 then some 6 else none
theorem scan_stays (L : List Bs) (k n e : Nat) (h : scan L k = some e) (hn : k ≤ n) : scan L n = some e := by
  induction n with
  | zero => have : k = 0 := by omega
            subst this; exact h
  | succ n ih =>
    by_cases hk : k = n + 1
    · subst hk; exact h
    · rw [scan, ih (by omega)]
theorem scan_hit (L : List Bs) (k e : Nat) (h0 : scan L k = none) (h : chk k (L.getD k none) = some e) (hk : k < L.length) : scan L L.length = some e :=
  scan_stays L (k + 1) _ e (by rw [scan, h0]; exact h) hk
theorem scan_go (L : List Bs) (k : Nat) (h0 : scan L k = none) (h : chk k (L.getD k none) = none) : scan L (k + 1) = none := by rw [scan, h0]; exact h
def kindTo (L : List Bs) : Nat → Int
  | 0 => 0
  | k + 1 => kindOf k (L.getD k none) (kindTo L k)
def pageTo (L : List Bs) : Nat → List Int
  | 0 => List.replicate 88 0
  | k + 1 => splice (pageTo L k) (22 * k) ((bytes (L.getD k none)).drop 1)
theorem pageTo_length (L : List Bs) (k : Nat) (h : ∀ j, j < k → (bytes (L.getD j none)).length = 23) (hk : k ≤ 4) : (pageTo L k).length = 88 := by
  induction k with
  | zero => simp [pageTo]
  | succ k ih =>
    have := ih (fun j hj => h j (by omega)) (by omega)
    rw [pageTo, length_splice _ _ _ (by rw [this, List.length_drop, h k (by omega)]; omega), this]


abbrev rcv0 : List Value := recv 0 (pageTo [] 0)
theorem zero40 (w : World) : (zeroValue 40).run Ybad.prog w = .ok (.agg (recv 0 (pageTo [] 0)).toArray) w := by kernel_rfl

/-- What Assemble hands back. -/
def AsmOut (L : List Bs) (A : Nat → Addr) (w : World) (e : Ending) (w' : World) : Prop :=
  Below w.heap.size w w' ∧ ((∃ n, verdict L = some n ∧ e = .returned (.tuple #[.agg #[.int .u8 0, .slice none 0 0], errV A n])) ∨
    (verdict L = none ∧ L.length = 4 ∧ (∀ j, j < 4 → (bytes (L.getD j none)).length = 23) ∧ ∃ g cap, e = .returned (.tuple #[.agg #[.int .u8 (kindTo L 4), .slice (some ⟨g, 0, none⟩) 88 cap], .nilIface]) ∧
      w'.ownsRow w.heap.size 5 1 (.slice (some ⟨g, 0, none⟩) 88 cap) 88 (u8s (pageTo L 4))))

set_option maxHeartbeats 1000000 in
theorem asm_many (a : Option Addr) (n c : Nat) (L : List Bs) (A : Nat → Addr) (w : World) (hn : L.length = n) (h4 : 4 < n) (hbd : n ≤ 65536) (hg : Gl w A) :
    Calls Ybad.prog 6 #[.slice a n c] w (AsmOut L A w) := by
  have h4' : (4 : Int) < (n : Int) := by omega
  have c0 : ∀ o, (w.alloc o).cell? ⟨0, 0, none⟩ = some (.iface 57 (.pointer (some (A 0)))) := fun o => (((Below.refl w.heap.size w).alloc (Nat.le_refl _) o).cell (show 0 < w.heap.size by have := hg.1; omega)).trans (hg.2.1 0 (by omega))
  have HV : Hid (verdict L = some 0) := by show _ = _; rw [verdict, hn, if_pos h4]
  clear hg hn
  go_enter Ybad.func6, Ybad.ntmps6
  go_wp2
  go_region
  all_goals go_wp2
  all_goals exact bodyPost_ret (v := .tuple #[.agg #[.int .u8 0, .slice none 0 0], errV A 0]) (by simp [results, Ybad.results6, go_sem]) rfl ⟨(Joins.below_alloc1 _ _).drew, .inl ⟨0, unhide HV, rfl⟩⟩

set_option maxHeartbeats 1000000 in
theorem asm_few (v : Value) (L : List Bs) (nl : Bool) (A : Nat → Addr) (w : World) (h : RowsAt w v L nl) (h4 : L.length ≤ 4) (hg : Gl w A) :
    Calls Ybad.prog 6 #[v] w (AsmOut L A w) := by
  obtain ⟨a, c, rfl, _, _, hp⟩ := h
  obtain ⟨n, hn⟩ : ∃ n, n = L.length := ⟨_, rfl⟩
  have HP := hide hp
  have HN := hide hn
  have HG := hide hg
  have n1 := neq_nil
  have n0 := neq_nil0
  rw [← hn] at h4 ⊢
  clear hp hn hg
  have z40 := zero40
  have hdec : decide ((4 : Int) < (n : Int)) = false := by simp; omega
  go_enter Ybad.func6, Ybad.ntmps6
  go_upto_region 4 with (fail)
  -- the world with the result's slot and the receiver gets a name
  obtain ⟨w1, ew1⟩ : ∃ w1, w1 = (w.alloc (.cells #[.int .u8 0, .slice none 0 0] 31)).alloc (.cells (recv 0 (pageTo [] 0)).toArray 40) := ⟨_, rfl⟩
  have hB1 : Below w.heap.size w w1 := by rw [ew1]; exact Joins.below_alloc2 _ _ _
  have hR1 : Hid (w1.heap[w.heap.size + 1]? = some (.cells (recv 0 (pageTo [] 0)).toArray 40 (0, 0))) := by rw [ew1]; exact heap_alloc2_new _ _ _
  have hS1 : Hid (w1.heap[w.heap.size]? = some (.cells #[.int .u8 0, .slice none 0 0] 31 (0, 0))) := by rw [ew1]; exact heap_alloc2_old _ _ _
  rw [← ew1]
  clear ew1
  go_wp2
  go_loopw [15] (fun i wr => ∃ k : Nat, k ≤ n ∧ i = .int .i64 k ∧ Below w.heap.size w wr ∧ Hid (scan L k = none ∧ (∀ j, j < k → (bytes (L.getD j none)).length = 23) ∧
      wr.heap[w.heap.size]? = some (.cells #[.int .u8 0, .slice none 0 0] 31 (0, 0)) ∧ wr.heap[w.heap.size + 1]? = some (.cells (recv (kindTo L k) (pageTo L k)).toArray 40 (0, 0)))) (fun i _ => n - (intOf i).toNat)
  case atStart => exact ⟨0, by omega, rfl, hB1, rfl, fun j hj => by omega, unhide hS1, unhide hR1⟩
  case round =>
    obtain ⟨k, hk, rfl, hbel, hst⟩ := hrel
    clear hB1 hR1 hS1
    by_cases hlt : k < n
    · have hL : k < L.length := by rw [← unhide HN]; exact hlt
      obtain ⟨b1, o1, ha1, hb1, hc1⟩ := unhide HP (by omega)
      obtain ⟨s1, hs1, hB1⟩ := hc1 k hL
      have e1 : wr.cell? ⟨b1, o1 + k, none⟩ = some s1 := (hbel.cell (by exact hb1)).trans hs1
      have hi1 : (k : Int) < (n : Int) := by omega
      have HT := hide (take_any (w.heap.size + 1) k s1 (L.getD k none) A w wr (kindTo L k) (pageTo L k) hB1 hbel ((unhide HG).below hbel) (by omega) (Nat.le_succ _) (unhide hst).2.2.2 (pageTo_length L k (unhide hst).2.1 (by omega)))
      rw [ha1]
      clear hs1 hc1 hB1 hb1 ha1
      go_wp2_with fail
      refine (unhide HT).mono ?_
      intro e w2 hout
      clear HT
      have hs2 : w.heap.size + 1 < wr.heap.size := lt_of_block (unhide hst).2.2.2
      rcases hout with ⟨m, hc, rfl, hb2⟩ | ⟨hc, h23, rfl, hb2, hrow⟩
      · have hS2 : w2.heap[w.heap.size]? = some (.cells #[.int .u8 0, .slice none 0 0] 31 (0, 0)) := (hb2.block _ (by omega)).trans (unhide hst).2.2.1
        have x0 : w2.cell? ⟨w.heap.size, 0, none⟩ = some (.int .u8 0) := cell_of_row _ _ 0 _ _ _ hS2
        have x1 : w2.cell? ⟨w.heap.size, 1, none⟩ = some (.slice none 0 0) := cell_of_row _ _ 1 _ _ _ hS2
        have f0 : w2.frozen? ⟨w.heap.size, 0, none⟩ = false := frozen_of_row _ _ _ _ _ hS2
        have f1 : w2.frozen? ⟨w.heap.size, 1, none⟩ = false := frozen_of_row _ _ _ _ _ hS2
        have HV : Hid (verdict L = some m) := by
          show _ = _
          rw [verdict, if_neg (by rw [← unhide HN]; omega), scan_hit L k m (unhide hst).1 hc hL]
        have HB2 : Hid (Below w.heap.size w w2) := hbel.trans (Joins.below_le hb2 (Nat.le_succ _))
        clear hS2 hb2 hbel hst hc e1
        go_wp2
        exact bodyPost_ret (v := .tuple #[.agg #[.int .u8 0, .slice none 0 0], errV A m]) (by simp [results, Ybad.results6, go_sem, x0, x1]) rfl ⟨((unhide HB2).setCell (Nat.le_refl _) _).setCell (Nat.le_refl _) _, .inl ⟨m, unhide HV, rfl⟩⟩
      · have hst' : Hid (scan L (k + 1) = none ∧ (∀ j, j < k + 1 → (bytes (L.getD j none)).length = 23) ∧ w2.heap[w.heap.size]? = some (.cells #[.int .u8 0, .slice none 0 0] 31 (0, 0)) ∧
            w2.heap[w.heap.size + 1]? = some (.cells (recv (kindTo L (k + 1)) (pageTo L (k + 1))).toArray 40 (0, 0))) := by
          refine ⟨scan_go L k (unhide hst).1 hc, fun j hj => ?_, (hb2.block _ (by omega)).trans (unhide hst).2.2.1, hrow⟩
          by_cases hj' : j = k
          · rw [hj']; exact h23
          · exact (unhide hst).2.1 j (by omega)
        have HB2 : Below w.heap.size w w2 := hbel.trans (Joins.below_le hb2 (Nat.le_succ _))
        clear hrow hb2 hbel hst hc e1 h23
        go_wp2
        go_roundw
        case rel => exact ⟨k + 1, by omega, by go_num, HB2, hst'⟩
        case measure => simp [intOf]; omega
    · have ek : k = n := by omega
      subst ek
      by_cases hk4 : k < 4
      · have hk4' : decide ((k : Int) < 4) = true := by simp; omega
        have hS2 := (unhide hst).2.2.1
        have x0 : wr.cell? ⟨w.heap.size, 0, none⟩ = some (.int .u8 0) := cell_of_row _ _ 0 _ _ _ hS2
        have x1 : wr.cell? ⟨w.heap.size, 1, none⟩ = some (.slice none 0 0) := cell_of_row _ _ 1 _ _ _ hS2
        have f0 : wr.frozen? ⟨w.heap.size, 0, none⟩ = false := frozen_of_row _ _ _ _ _ hS2
        have f1 : wr.frozen? ⟨w.heap.size, 1, none⟩ = false := frozen_of_row _ _ _ _ _ hS2
        have c6 : wr.cell? ⟨6, 0, none⟩ = some (.iface 57 (.pointer (some (A 6)))) := ((unhide HG).below hbel).2.1 6 (by omega)
        have hne6 : ¬ w.heap.size = 6 := by have := (unhide HG).1; omega
        have hne6' : ¬ 6 = w.heap.size := by omega
        have HV : Hid (verdict L = some 6) := by
          show _ = _
          rw [verdict, if_neg (by rw [← unhide HN]; omega), ← unhide HN, (unhide hst).1]
          simp [hk4]
        clear hS2 hst
        go_wp2
        go_region
        all_goals go_wp2
        all_goals exact bodyPost_ret (v := .tuple #[.agg #[.int .u8 0, .slice none 0 0], errV A 6]) (by simp [results, Ybad.results6, go_sem, x0, x1]) rfl ⟨((hbel.setCell (Nat.le_refl _) _).setCell (Nat.le_refl _) _).drew, .inl ⟨6, unhide HV, rfl⟩⟩
      · have ek : k = 4 := by omega
        subst ek
        have HM := hide (message_any (w.heap.size + 1) (kindTo L 4) (pageTo L 4) wr (unhide hst).2.2.2 (pageTo_length L 4 (unhide hst).2.1 (by omega)))
        have hs2 : w.heap.size + 1 < wr.heap.size := lt_of_block (unhide hst).2.2.2
        have hlen4 : Hid (L.length = 4) := by show _ = _; rw [← unhide HN]
        have HV : Hid (verdict L = none) := by
          show _ = _
          rw [verdict, if_neg (by rw [unhide hlen4]; omega), unhide hlen4, (unhide hst).1]
          simp
        go_wp2_with fail
        refine (unhide HM).mono ?_
        rintro e w2 ⟨g, cap, rfl, hown, hb2⟩
        clear HM
        have hS2 : w2.heap[w.heap.size]? = some (.cells #[.int .u8 0, .slice none 0 0] 31 (0, 0)) := (hb2.block _ (by omega)).trans (unhide hst).2.2.1
        have x0 : w2.cell? ⟨w.heap.size, 0, none⟩ = some (.int .u8 0) := cell_of_row _ _ 0 _ _ _ hS2
        have x1 : w2.cell? ⟨w.heap.size, 1, none⟩ = some (.slice none 0 0) := cell_of_row _ _ 1 _ _ _ hS2
        have f0 : w2.frozen? ⟨w.heap.size, 0, none⟩ = false := frozen_of_row _ _ _ _ _ hS2
        have f1 : w2.frozen? ⟨w.heap.size, 1, none⟩ = false := frozen_of_row _ _ _ _ _ hS2
        have HO := hide hown
        have HB2 : Hid (Below w.heap.size w w2) := hbel.trans (Joins.below_le hb2 (by omega))
        clear hown hb2 hS2
        go_wp2
        exact bodyPost_ret (v := .tuple #[.agg #[.int .u8 (kindTo L 4), .slice (some ⟨g, 0, none⟩) 88 cap], .nilIface]) (by simp [results, Ybad.results6, go_sem, x0, x1]) rfl
          ⟨((unhide HB2).setCell (Nat.le_refl _) _).setCell (Nat.le_refl _) _, .inr ⟨unhide HV, unhide hlen4, (unhide hst).2.1, g, cap, rfl,
            Joins.ownsRow_le (ownsRow_setCell_below (ownsRow_setCell_below (unhide HO) (a := ⟨w.heap.size, 0, none⟩) (show w.heap.size < wr.heap.size by omega) _) (a := ⟨w.heap.size, 1, none⟩) (show w.heap.size < wr.heap.size by omega) _) (by omega)⟩⟩
end Go.Proofs.YbulkeimqDoor.lawB
