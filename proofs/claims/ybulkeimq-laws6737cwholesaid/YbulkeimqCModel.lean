import Derived.Test.YbulkeimqCApp
namespace Go.Proofs.Ybulkeimq.lawS6737CWhole
open Go.ChangeShapes Go.WideShapes Go.ChangeAt Go.RowKit

theorem cellU {w : World} {G : Nat} {l : List Int} (h : w.heap[G]? = some (.cells (u8s l).toArray 5 (0, 0))) (j : Nat) (hj : j < l.length) : w.cell? ⟨G, j, none⟩ = some (.int .u8 (l.getD j 0)) := by
  rw [cell_of_row w G j _ _ _ h]
  simpa using getElem?_u8s l j hj
theorem rowSet {w : World} {G : Nat} {l : List Int} (h : w.heap[G]? = some (.cells (u8s l).toArray 5 (0, 0))) (i : Nat) (x : Int) : (w.setCell ⟨G, i, none⟩ (.int .u8 x)).heap[G]? = some (.cells (u8s (l.set i x)).toArray 5 (0, 0)) := by
  rw [Joins.block_setCell h]
  simp [u8s, List.map_set]
theorem rowMade {w : World} {B G L : Nat} (h : w.ownsRow B 5 1 (.slice (some ⟨G, 0, none⟩) L L) L (madeCells #[Value.int .u8 0] L).toList) : w.heap[G]? = some (.cells (u8s (List.replicate L 0)).toArray 5 (0, 0)) := by
  rcases h.2 with ⟨h0, _⟩ | ⟨g, cap, cur, hv, _, hh, _, _, hs, ht⟩
  · cases h0
  · cases hv
    rw [hh]
    have e : cur.toList = u8s (List.replicate L 0) := by
      rw [List.take_of_length_le (by simp [hs])] at ht
      rw [ht]
      have := toList_madeCells_one (Value.int .u8 0) L
      simpa [u8s, Value.cells] using this
    rw [← e]

set_option maxHeartbeats 1000000 in
theorem model_any (g len1 : Nat) (zs : List Int) (w : World) (hz : zs.length = len1) (hbd : len1 ≤ 1048576) (hgB : g < w.heap.size)
    (hcz : ∀ j, j < len1 → w.cell? ⟨g, j, none⟩ = some (.int .u16 (zs.getD j 0))) (hwz : ∀ j, 0 ≤ zs.getD j 0 ∧ zs.getD j 0 ≤ 65535) :
    Calls Yba.prog 7 #[.slice (some ⟨g, 0, none⟩) len1 len1] w fun e w' => ∃ v, e = .returned v ∧ Out w w' v (outTo zs ((12 * len1 + 7) / 8) len1) := by
  obtain ⟨i0, hi, hz0, hz1, hz2⟩ := info_parts info5
  have HZ := hide hz
  have HC := hide hcz
  have HW := hide hwz
  clear hz hcz hwz
  obtain ⟨L, hL⟩ : ∃ L, L = (12 * len1 + 7) / 8 := ⟨_, rfl⟩
  rw [← hL]
  have HL := hide hL
  have hLb : L ≤ 2000000 := by omega
  clear hL
  go_enter Yba.func7, Yba.ntmps7
  go_wp2_with (at_make; refine wpList_make_full _ rfl (.tmp 15) (.tmp 15) 34 rfl w.heap.size 5 i0 (.int .u8 0) 1 Yba.underlying34 hi hz0 hz1 .i64 .i64 _ _ L rfl rfl ?m1 ?m2 ?m3 ?m4 ?m5 ?_)
  case m1 => have := unhide HL; omega
  case m2 => have := unhide HL; omega
  case m3 => rw [hz2]; omega
  case m4 => unfold maxLen; omega
  case m5 => exact Nat.le_refl _
  intro w1 hown1 hgrow1
  have hB1 : Below w.heap.size w w1 := (Below.refl _ _).grown hgrow1 (Nat.le_refl _) (fun j hj => by cases hj)
  have hR1 : Hid (w1.heap[w.heap.size]? = some (.cells (u8s (List.replicate L 0)).toArray 5 (0, 0))) := rowMade hown1
  clear hown1 hgrow1
  go_wp2
  go_loopw [5] (fun j wr => ∃ k : Nat, k ≤ len1 ∧ j = .int .i64 k ∧ Below w.heap.size w wr ∧ Hid (wr.heap[w.heap.size]? = some (.cells (u8s (outTo zs L k)).toArray 5 (0, 0)))) (fun j _ => len1 - (intOf j).toNat)
  case atStart => exact ⟨0, by omega, rfl, hB1, hR1⟩
  case round =>
    obtain ⟨k, hk, rfl, hbel, hrow⟩ := hrel
    by_cases hlt : k < len1
    · obtain ⟨v, hv⟩ : ∃ v, v = zs.getD k 0 := ⟨_, rfl⟩
      have c0 : wr.cell? ⟨g, k, none⟩ = some (.int .u16 v) := by rw [hv]; exact (hbel.cell (by exact hgB)).trans (unhide HC k (by omega))
      obtain ⟨hv0, hv1⟩ : 0 ≤ v ∧ v ≤ 65535 := by rw [hv]; exact unhide HW _
      have HV := hide hv
      obtain ⟨l, hl⟩ : ∃ l, l = outTo zs L k := ⟨_, rfl⟩
      have hll : l.length = L := by rw [hl, outTo_length]
      rw [← hl] at hrow
      have HLL := hide hl
      clear hv hl
      go_wp2
      go_loopw [7] (fun t wt => ∃ m : Nat, m ≤ 12 ∧ t = .int .i64 m ∧ Below w.heap.size w wt ∧ Hid (wt.heap[w.heap.size]? = some (.cells (u8s (bitsTo v k l m)).toArray 5 (0, 0)))) (fun t _ => 12 - (intOf t).toNat)
      case atStart => exact ⟨0, by omega, rfl, hbel, hrow⟩
      case round =>
        obtain ⟨m, hm, rfl, hbelm, hrow2⟩ := hrel
        by_cases hm12 : m < 12
        · have hpos : (12 * k + m) / 8 < L := by have := unhide HL; omega
          obtain ⟨o, ho⟩ : ∃ o, o = (bitsTo v k l m).getD ((12 * k + m) / 8) 0 := ⟨_, rfl⟩
          have c1 : wr.cell? ⟨w.heap.size, (12 * k + m) / 8, none⟩ = some (.int .u8 o) := by rw [ho]; exact cellU (unhide hrow2) _ (by rw [bitsTo_length]; omega)
          have fz : ∀ j, wr.frozen? ⟨w.heap.size, j, none⟩ = false := fun j => frozen_of_row _ _ j _ _ (unhide hrow2)
          have HO := hide ho
          clear ho
          go_wp2
          go_roundw
          case rel => exact ⟨m + 1, by omega, by go_num, hbelm.setCell (Nat.le_refl _) _, by rw [unhide HO]; exact rowSet (unhide hrow2) _ _⟩
          case measure => simp [intOf]; omega
        · have e12 : m = 12 := by omega
          subst e12
          have lb : (bitsTo v k l 12).length = L := by rw [bitsTo_length, hll]
          have fz : ∀ j, wr.frozen? ⟨w.heap.size, j, none⟩ = false := fun j => frozen_of_row _ _ j _ _ (unhide hrow2)
          have R0 : outTo zs L (k + 1) = fin v k (bitsTo v k l 12) := by rw [outTo, ← unhide HV, ← unhide HLL]
          have HR0 := hide R0
          clear R0
          by_cases hodd : k % 2 = 1
          · have hpos : k / 2 * 3 + 1 < L := by have := unhide HL; omega
            have ho1 : ((k : Int) % 2 == 1) = true := by rw [beq_iff_eq]; omega
            obtain ⟨o, ho⟩ : ∃ o, o = (bitsTo v k l 12).getD (k / 2 * 3 + 1) 0 := ⟨_, rfl⟩
            have c1 : wr.cell? ⟨w.heap.size, k / 2 * 3 + 1, none⟩ = some (.int .u8 o) := by rw [ho]; exact cellU (unhide hrow2) _ (by omega)
            have HO := hide ho
            have HODD := hide hodd
            clear ho lb hodd
            go_wp2
            go_roundw
            case rel => exact ⟨k + 1, by omega, by go_num, hbelm.setCell (Nat.le_refl _) _, by rw [unhide HR0, fin, if_pos (unhide HODD), unhide HO]; exact rowSet (unhide hrow2) _ _⟩
            case measure => simp [intOf]; omega
          · have ho1 : ((k : Int) % 2 == 1) = false := by rw [beq_eq_false_iff_ne]; omega
            have HODD := hide hodd
            clear lb hodd
            go_wp2
            go_roundw
            case rel => exact ⟨k + 1, by omega, by go_num, hbelm, by rw [unhide HR0, fin, if_neg (unhide HODD)]; exact hrow2⟩
            case measure => simp [intOf]; omega
    · have e : k = len1 := by omega
      subst e
      have hlen : (outTo zs L k).length = L := outTo_length _ _ _
      have HO : Hid (Out w wr (.slice (some ⟨w.heap.size, 0, none⟩) L L) (outTo zs L k)) := ⟨⟨w.heap.size, L, by rw [hlen], fun j hj => cellU (unhide hrow) j hj⟩, hbel⟩
      clear hrow hlen
      go_wp2
      go_ret
      exact ⟨_, rfl, unhide HO⟩
end Go.Proofs.Ybulkeimq.lawS6737CWhole
