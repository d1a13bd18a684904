import Derived.Test.YbulkeimqDoorBLeaf
import Derived.Deep.RegionLaw
import Derived.LaidEql
namespace Go.Proofs.YbulkeimqDoor.lawB
open Go.ChangeShapes Go.WideShapes Go.ChangeAt Go.RowKit

/-- Why block i cannot be the next: an error's number, or none. -/
def chk (i : Nat) (o : Bs) : Option Nat :=
  if (bytes o).length ≠ 23 then some 1
  else if lpd ((bytes o).getD 0 0) ≠ 1 then some 2
  else if resN ((bytes o).getD 0 0 % 16).toNat = true then some 3
  else if ((bytes o).getD 0 0 % 16).toNat = 15 then some 4
  else if i = 0 then (if kindB ((bytes o).getD 0 0 % 16).toNat = true then none else some 5)
  else if ((bytes o).getD 0 0 % 16).toNat = i then none else some 5

/-- The receiver's cells. -/
def recv (k : Int) (pg : List Int) : List Value := .int .u8 k :: (u8s pg ++ [.int .i64 0])

theorem bytes_23 {w : World} {s : Value} {o : Bs} (h : BytesAt w s o) (h23 : (bytes o).length = 23) : ∃ b off c, s = .slice (some ⟨b, off, none⟩) 23 c ∧ 23 ≤ c ∧ b < w.heap.size ∧
    (∀ j, j < 23 → w.cell? ⟨b, off + j, none⟩ = some (.int .u8 ((bytes o).getD j 0))) ∧ 0 ≤ (bytes o).getD 0 0 ∧ (bytes o).getD 0 0 ≤ 255 := by
  cases o with
  | none => simp [bytes] at h23
  | some l =>
    have hl : l.length = 23 := h23
    obtain ⟨a, cap, rfl, hc, hp, hx⟩ := h
    obtain ⟨b, off, rfl, hbl, hcell⟩ := hp (by omega)
    rw [hl] at hc hcell ⊢
    refine ⟨b, off, cap, rfl, hc, hbl, hcell, ?_⟩
    have : l.getD 0 0 ∈ l := by rw [List.getD_eq_getElem?_getD, List.getElem?_eq_getElem (by omega)]; exact List.getElem_mem _
    exact hx _ this
theorem bytes_len {w : World} {s : Value} {o : Bs} (h : BytesAt w s o) : ∃ a c, s = .slice a (bytes o).length c := by
  cases o with
  | none => exact ⟨_, _, h⟩
  | some l => obtain ⟨a, cap, rfl, _⟩ := h; exact ⟨_, _, rfl⟩

/-- The 22 bytes behind the first, where the copy looks for them. -/
def Src (w : World) (b off : Nat) (xs : List Int) : Prop := ∀ j v, (u8s xs)[j]? = some v → w.cell? ((⟨b, off, none⟩ : Addr).add j) = some v
theorem src22 {w : World} {b off : Nat} {xs : List Int} (hxs : xs.length = 22) (h : ∀ j, j < 22 → w.cell? ⟨b, off + j, none⟩ = some (.int .u8 (xs.getD j 0))) : Src w b off xs := by
  intro j v hv
  have hj : j < xs.length := by
    rcases Nat.lt_or_ge j xs.length with h | h
    · exact h
    · rw [List.getElem?_eq_none (by simpa [u8s] using h)] at hv; cases hv
  rw [getElem?_u8s xs j hj] at hv
  cases hv
  rw [add_plain]
  exact h j (by omega)

theorem slI (i : Nat) (hi : i < 4) (r : Nat) (w : World) : (Instr.sliceAt 38 (.pointer (some ⟨r, 1, none⟩)) (some (.int .i64 (IntKind.i64.wrap ((i : Int) * 22)))) none none).run Ybad.prog w = .ok (.slice (some ⟨r, 1 + 22 * i, none⟩) (88 - 22 * i) (88 - 22 * i)) w := by
  obtain rfl | rfl | rfl | rfl : i = 0 ∨ i = 1 ∨ i = 2 ∨ i = 3 := by omega
  · kernel_rfl
  · kernel_rfl
  · kernel_rfl
  · kernel_rfl

theorem neq_nil (u : Value) (w : World) : (binOp .neq 27 (.iface 57 u) .nilIface).run Ybad.prog w = .ok (.bool true) w := by kernel_rfl
theorem neq_nil0 (w : World) : (binOp .neq 27 .nilIface .nilIface).run Ybad.prog w = .ok (.bool false) w := by kernel_rfl

set_option maxHeartbeats 1000000 in
theorem take_len (r : Addr) (s : Value) (o : Bs) (i : Nat) (A : Nat → Addr) (w : World) (hs : BytesAt w s o) (h23 : (bytes o).length ≠ 23) (hg : Gl w A) :
    Calls Ybad.prog 9 #[.pointer (some r), s, .int .i64 i] w fun e w' => e = .returned (errV A 1) ∧ Below w.heap.size w w' := by
  have n1 := neq_nil
  have n0 := neq_nil0
  obtain ⟨a, c, rfl⟩ := bytes_len hs
  have H := hide (decode_bad a (bytes o).length c A w h23 hg)
  clear hs hg h23
  generalize (bytes o).length = n at *
  go_enter Ybad.func9, Ybad.ntmps9
  go_wp2_with fail
  refine (unhide H).mono ?_
  rintro e w' ⟨rfl, hb⟩
  go_wp2
  go_ret
  exact ⟨rfl, hb.alloc hb.size _⟩

set_option maxHeartbeats 2000000 in
theorem take_23 (r i : Nat) (b off c : Nat) (x : Int) (sN : Nat) (A : Nat → Addr) (w : World) (hx0 : 0 ≤ x) (hx1 : x ≤ 255) (hsN : x % 16 = sN) (hs16 : sN < 16)
    (hc0 : w.cell? ⟨b, off, none⟩ = some (.int .u8 x)) (hg : Gl w A) (hi : i < 4)
    (K : Ending → World → Prop)
    (k2 : lpd x ≠ 1 → ∀ w', Below w.heap.size w w' → K (.returned (errV A 2)) w')
    (k3 : lpd x = 1 → resN sN = true → ∀ w', Below w.heap.size w w' → K (.returned (errV A 3)) w')
    (kd : Int) (pg xs : List Int) (hr : w.heap[r]? = some (.cells (recv kd pg).toArray 40 (0, 0))) (hpg : pg.length = 88) (hc23 : 23 ≤ c) (hbr : b < r) (hxs : xs.length = 22) (hcx : ∀ j, j < 22 → w.cell? ⟨b, off + 1 + j, none⟩ = some (.int .u8 (xs.getD j 0)))
    (k5 : lpd x = 1 → resN sN = false → sN ≠ 15 → (i = 0 ∧ kindB sN = false) ∨ (i ≠ 0 ∧ sN ≠ i) → ∀ w', Below w.heap.size w w' → K (.returned (errV A 5)) w')
    (k6 : lpd x = 1 → resN sN = false → sN ≠ 15 → (i = 0 ∧ kindB sN = true) ∨ (i ≠ 0 ∧ sN = i) → ∀ w', Below r w w' → w'.heap[r]? = some (.cells (splice (recv (if i = 0 then kindV sN else kd) pg) (1 + 22 * i) (u8s xs)).toArray 40 (0, 0)) → K (.returned .nilIface) w')
    (k4 : lpd x = 1 → resN sN = false → sN = 15 → ∀ w', Below w.heap.size w w' → K (.returned (errV A 4)) w') :
    Calls Ybad.prog 9 #[.pointer (some ⟨r, 0, none⟩), .slice (some ⟨b, off, none⟩) 23 c, .int .i64 i] w K := by
  have n1 := neq_nil
  have n0 := neq_nil0
  have HD := hide (decode_good b off c x w hx0 hx1 hc0)
  have HK2 := hide k2
  have HK3 := hide k3
  have HK4 := hide k4
  have HK5 := hide k5
  have HK6 := hide k6
  have HR := hide hr
  have HCX := hide hcx
  have hrl : r < w.heap.size := lt_of_block hr
  have hbl : b < w.heap.size := block_lt_of_cell hc0
  clear k2 k3 k4 k5 k6 hr hcx
  go_enter Ybad.func9, Ybad.ntmps9
  go_wp2_with fail
  refine (unhide HD).mono ?_
  rintro e w1 ⟨⟨p, q, rfl⟩, hb1⟩
  rw [hsN]
  have hg1 : Gl w1 A := hg.below hb1
  have hb2 : Below w.heap.size w (w1.alloc (.cells #[.bool p, .int .u8 (lpd x), .bool q, .int .u8 sN] 46)) := hb1.alloc hb1.size _
  have hg2 : Gl (w1.alloc (.cells #[.bool p, .int .u8 (lpd x), .bool q, .int .u8 sN] 46)) A := hg1.below (Joins.below_alloc1 _ _)
  have HC := hide (check_any p q (lpd x) sN A _ hs16 hg2)
  have HB2 := hide hb2
  have HG2 := hide hg2
  clear hg1 hb1 hb2 hg2 HD hg
  generalize lpd x = l at *
  go_wp2_with fail
  refine (unhide HC).mono ?_
  rintro e w3 ⟨rfl, hb3⟩
  have hs3 := hb3.size
  simp at hs3
  have HB3 : Hid (Below w.heap.size w w3) := (unhide HB2).trans (Joins.below_le hb3 (unhide HB2).size)
  have hg3 : Hid (Gl w3 A) := (unhide HG2).below hb3
  have cs : w3.cell? ⟨w1.heap.size, 3, none⟩ = some (.int .u8 sN) := (hb3.cell (by simp)).trans (cell_of_row _ _ 3 _ 46 (0, 0) (heap_alloc_new _ _))
  clear hb3 HC HB2 HG2
  by_cases hl : l = 1
  · by_cases hr : resN sN = true
    · rw [show chkV A l sN = .iface 57 (.pointer (some (A 3))) by rw [chkV, if_pos hl, if_pos hr]]
      go_wp2
      exact unhide HK3 hl hr _ (unhide HB3)
    · rw [show chkV A l sN = .nilIface by rw [chkV, if_pos hl, if_neg hr]]
      have hr' : resN sN = false := by simpa using hr
      by_cases h15 : sN = 15
      · have h15' : ((sN : Int) == 15) = true := by rw [beq_iff_eq]; omega
        have c4 : w3.cell? ⟨4, 0, none⟩ = some (.iface 57 (.pointer (some (A 4)))) := (unhide hg3).2.1 4 (by omega)
        have H15 := hide h15
        clear h15
        go_wp2
        exact unhide HK4 hl hr' (unhide H15) _ (unhide HB3)
      · have h15' : ((sN : Int) == 15) = false := by rw [beq_eq_false_iff_ne]; omega
        have c5 : w3.cell? ⟨5, 0, none⟩ = some (.iface 57 (.pointer (some (A 5)))) := (unhide hg3).2.1 5 (by omega)
        by_cases hi0 : i = 0
        · subst hi0
          have HKD := hide (kind_any sN A w3 hs16 (unhide hg3))
          by_cases hk : kindB sN = true
          · rw [hk] at HKD
            have r0 : w3.cell? ⟨r, 0, none⟩ = some (.int .u8 kd) := ((unhide HB3).cell (by exact hrl)).trans (cell_of_row _ _ 0 _ _ _ (unhide HR))
            have f0 : w3.frozen? ⟨r, 0, none⟩ = false := ((unhide HB3).frozen (by exact hrl)).trans (frozen_of_row _ _ _ _ _ (unhide HR))
            go_wp2_with fail
            refine (unhide HKD).mono ?_
            rintro e w4 ⟨rfl, rfl⟩
            clear HKD
            have hrow5 : (w4.setCell ⟨r, 0, none⟩ (.int .u8 (kindV sN))).heap[r]? = some (.cells (recv (kindV sN) pg).toArray 40 (0, 0)) := by
              have := Joins.block_setCell (i := 0) (((unhide HB3).block r hrl).trans (unhide HR)) (.int .u8 (kindV sN))
              simpa [recv] using this
            have hB5 : Below r w (w4.setCell ⟨r, 0, none⟩ (.int .u8 (kindV sN))) := (Joins.below_le (B' := r) (unhide HB3) (by omega)).setCell (Nat.le_refl _) _
            have hcx5 := src22 hxs (fun j hj => (hB5.cell (by exact hbr)).trans (unhide HCX j hj))
            have HK6' : Hid (∀ w', Below r w w' → w'.heap[r]? = some (.cells (splice (recv (kindV sN) pg) 1 (u8s xs)).toArray 40 (0, 0)) → K (.returned .nilIface) w') := fun w' q1 q2 => unhide HK6 hl hr' h15 (.inl ⟨trivial, hk⟩) w' q1 q2
            generalize kindV sN = kv at *
            have HROW5 := hide hrow5
            have HB5 := hide hB5
            have HCX5 := hide hcx5
            have hlenr : (recv kv pg).length = 90 := by simp [recv, u8s, hpg]
            have HLEN := hide hlenr
            clear hrow5 hB5 hcx5 hlenr
            go_wp2
            generalize w4.setCell ⟨r, 0, none⟩ (.int .u8 kv) = w5 at *
            have hc1 : (1 : Int) ≤ (c : Int) := by omega
            have hc2 : ¬ c = 1 := by omega
            have hsl : ∀ w, (Instr.sliceAt 38 (.pointer (some ⟨r, 1, none⟩)) (some (.int .i64 (IntKind.i64.wrap 0))) none none).run Ybad.prog w = .ok (.slice (some ⟨r, 1, none⟩) 88 88) w := fun w => slI 0 (by omega) r w
            go_region_law (refine step_copy_splice rfl (.tmp 55) (.tmp 57) 23 23 rfl 5 Ybad.underlying23 (by kernel_rfl) (some ⟨r, 1, none⟩) (some ⟨b, off + 1, none⟩) 88 88 22 (c - 1) (by simp [Act.eval, Act.put]) (by simp [Act.eval, Act.put]) r 1 (recv kv pg) 40 (unhide HROW5) (u8s xs) (by simp [u8s, hxs]) (fun _ => ⟨rfl, _, rfl, unhide HCX5⟩) (by rw [unhide HLEN]; simp [u8s, hxs]) (u8s_one _) r w ((unhide HB5).trans ⟨rfl, rfl, rfl, Nat.le_refl _, fun _ _ => rfl⟩) (Nat.le_refl _) ?_; intro w6 hg6 hb6)
            go_wp2
            exact unhide HK6' _ hb6 (unhide hg6)
          · have hk' : kindB sN = false := by simpa using hk
            rw [hk'] at HKD
            go_wp2_with fail
            refine (unhide HKD).mono ?_
            rintro e w4 ⟨rfl, rfl⟩
            clear HKD
            go_wp2
            exact unhide HK5 hl hr' h15 (.inl ⟨trivial, hk'⟩) _ (unhide HB3)
        · by_cases hsi : sN = i
          · have HK6' : Hid (∀ w', Below r w w' → w'.heap[r]? = some (.cells (splice (recv kd pg) (1 + 22 * i) (u8s xs)).toArray 40 (0, 0)) → K (.returned .nilIface) w') := fun w' q1 q2 => unhide HK6 hl hr' h15 (.inr ⟨hi0, hsi⟩) w' q1 (by rw [if_neg hi0]; exact q2)
            have hB5 : Below r w w3 := Joins.below_le (unhide HB3) (by omega)
            have hcx5 := src22 hxs (fun j hj => (hB5.cell (by exact hbr)).trans (unhide HCX j hj))
            have HROW5 : Hid (w3.heap[r]? = some (.cells (recv kd pg).toArray 40 (0, 0))) := ((unhide HB3).block r hrl).trans (unhide HR)
            have HB5 := hide hB5
            have HCX5 := hide hcx5
            have HLEN : Hid ((recv kd pg).length = 90) := by simp [Hid, recv, u8s, hpg]
            have hsl : ∀ w, (Instr.sliceAt 38 (.pointer (some ⟨r, 1, none⟩)) (some (.int .i64 (IntKind.i64.wrap ((i : Int) * 22)))) none none).run Ybad.prog w = .ok (.slice (some ⟨r, 1 + 22 * i, none⟩) (88 - 22 * i) (88 - 22 * i)) w := fun w => slI i hi r w
            have hi0' : ((i : Int) == 0) = false := by rw [beq_eq_false_iff_ne]; omega
            have hsi' : ((sN : Int) != (i : Int)) = false := by rw [hsi]; simp
            have hc1 : (1 : Int) ≤ (c : Int) := by omega
            have hc2 : ¬ c = 1 := by omega
            clear hB5 hcx5 hsi hi0
            go_wp2
            go_region_law (refine step_copy_splice rfl (.tmp 55) (.tmp 57) 23 23 rfl 5 Ybad.underlying23 (by kernel_rfl) (some ⟨r, 1 + 22 * i, none⟩) (some ⟨b, off + 1, none⟩) (88 - 22 * i) (88 - 22 * i) 22 (c - 1) (by simp [Act.eval, Act.put]) (by simp [Act.eval, Act.put]) r (1 + 22 * i) (recv kd pg) 40 (unhide HROW5) (u8s xs) (by rw [show (u8s xs).length = 22 by simp [u8s, hxs]]; exact (Nat.min_eq_left (by omega)).symm) (fun _ => ⟨rfl, _, rfl, unhide HCX5⟩) (by rw [unhide HLEN]; simp [u8s, hxs]; omega) (u8s_one _) r w ((unhide HB5).trans ⟨rfl, rfl, rfl, Nat.le_refl _, fun _ _ => rfl⟩) (Nat.le_refl _) ?_; intro w6 hg6 hb6)
            go_wp2
            exact unhide HK6' _ hb6 (unhide hg6)
          · have hi0' : ((i : Int) == 0) = false := by rw [beq_eq_false_iff_ne]; omega
            have hsi' : ((sN : Int) != (i : Int)) = true := by rw [bne_iff_ne]; omega
            go_wp2
            exact unhide HK5 hl hr' h15 (.inr ⟨hi0, hsi⟩) _ (unhide HB3)
  · rw [show chkV A l sN = .iface 57 (.pointer (some (A 2))) by rw [chkV, if_neg hl]]
    go_wp2
    exact unhide HK2 hl _ (unhide HB3)

/-- The kind that block i sets, and the page that it fills. -/
def kindOf (i : Nat) (o : Bs) (k : Int) : Int := if i = 0 then kindV ((bytes o).getD 0 0 % 16).toNat else k
def TakeOut (i : Nat) (o : Bs) (A : Nat → Addr) (r : Nat) (kd : Int) (pg : List Int) (w : World) (e : Ending) (w' : World) : Prop :=
  (∃ n, chk i o = some n ∧ e = .returned (errV A n) ∧ Below r w w') ∨
  (chk i o = none ∧ (bytes o).length = 23 ∧ e = .returned .nilIface ∧ Below r w w' ∧ w'.heap[r]? = some (.cells (recv (kindOf i o kd) (splice pg (22 * i) ((bytes o).drop 1))).toArray 40 (0, 0)))

theorem splice_recv (k : Int) (pg xs : List Int) (n : Nat) (h : n + xs.length ≤ pg.length) : splice (recv k pg) (1 + n) (u8s xs) = recv k (splice pg n xs) := by
  unfold splice recv
  rw [show 1 + n + (u8s xs).length = (n + xs.length) + 1 by simp [u8s]; omega, List.drop_succ_cons, Nat.add_comm 1 n, List.take_succ_cons]
  rw [List.take_append_of_le_length (by simp [u8s]; omega), List.drop_append_of_le_length (by simp [u8s]; omega)]
  simp [u8s, List.map_take, List.map_drop]

theorem take_any (r i : Nat) (s : Value) (o : Bs) (A : Nat → Addr) (w0 w : World) (kd : Int) (pg : List Int) (hs : BytesAt w0 s o) (hb : Below w0.heap.size w0 w) (hg : Gl w A) (hi : i < 4)
    (hrl : w0.heap.size ≤ r) (hr : w.heap[r]? = some (.cells (recv kd pg).toArray 40 (0, 0))) (hpg : pg.length = 88) :
    Calls Ybad.prog 9 #[.pointer (some ⟨r, 0, none⟩), s, .int .i64 i] w (TakeOut i o A r kd pg w) := by
  have hrw : r < w.heap.size := lt_of_block hr
  by_cases h23 : (bytes o).length = 23
  · obtain ⟨b, off, c, rfl, hc, hbl, hcell, hx0, hx1⟩ := bytes_23 hs h23
    have hx16 : (bytes o).getD 0 0 % 16 = (((bytes o).getD 0 0 % 16).toNat : Int) := by omega
    have hxs : ((bytes o).drop 1).length = 22 := by simp [h23]
    refine take_23 r i b off c ((bytes o).getD 0 0) ((bytes o).getD 0 0 % 16).toNat A w hx0 hx1 hx16 (by omega) ?_ hg hi _ ?_ ?_ kd pg ((bytes o).drop 1) hr hpg hc (by omega) hxs ?_ ?_ ?_ ?_
    · have := (hb.cell (p := ⟨b, off + 0, none⟩) (by exact hbl)).trans (hcell 0 (by omega))
      simpa using this
    · intro hl w' hb'
      exact .inl ⟨2, by rw [chk, if_neg (fun h => h h23), if_pos hl], rfl, Joins.below_le hb' (by omega)⟩
    · intro hl hres w' hb'
      exact .inl ⟨3, by rw [chk, if_neg (fun h => h h23), if_neg (fun h => h hl), if_pos hres], rfl, Joins.below_le hb' (by omega)⟩
    · intro j hj
      rw [hb.cell (by exact hbl), Nat.add_assoc, hcell (1 + j) (by omega)]
      rw [List.getD_eq_getElem?_getD, List.getD_eq_getElem?_getD, List.getElem?_drop]
    · intro hl hres h15 hor w' hb'
      refine .inl ⟨5, ?_, rfl, Joins.below_le hb' (by omega)⟩
      rw [chk, if_neg (fun h => h h23), if_neg (fun h => h hl), if_neg (by rw [hres]; decide), if_neg h15]
      rcases hor with ⟨q1, q2⟩ | ⟨q1, q2⟩
      · rw [if_pos q1, if_neg (by rw [q2]; decide)]
      · rw [if_neg q1, if_neg q2]
    · intro hl hres h15 hor w' hb' hrow
      refine .inr ⟨?_, h23, rfl, hb', ?_⟩
      · rw [chk, if_neg (fun h => h h23), if_neg (fun h => h hl), if_neg (by rw [hres]; decide), if_neg h15]
        rcases hor with ⟨q1, q2⟩ | ⟨q1, q2⟩
        · rw [if_pos q1, if_pos q2]
        · rw [if_neg q1, if_pos q2]
      · rw [splice_recv _ _ _ _ (by rw [hxs, hpg]; omega)] at hrow
        exact hrow
    · intro hl hres h15 w' hb'
      exact .inl ⟨4, by rw [chk, if_neg (fun h => h h23), if_neg (fun h => h hl), if_neg (by rw [hres]; decide), if_pos h15], rfl, Joins.below_le hb' (by omega)⟩
  · refine (take_len ⟨r, 0, none⟩ s o i A w (hs.below hb) h23 hg).mono ?_
    rintro e w' ⟨rfl, hb'⟩
    exact .inl ⟨1, by rw [chk, if_pos h23], rfl, Joins.below_le hb' (by omega)⟩
end Go.Proofs.YbulkeimqDoor.lawB
