import Derived.Test.YbulkeimqDoorBModel
import Derived.Test.YbulkeimqDoorBSame
import Derived.LaidEql
import Derived.Deep.DeepCutAuto
namespace Go.Proofs.YbulkeimqDoor.lawB
open Go.ChangeShapes Go.WideShapes Go.ChangeAt Go.RowKit

theorem splice_next (C X : List Int) (n m : Nat) (hC : C.length = n) (hX : X.length = 22) : splice (C ++ List.replicate (22 + m) 0) n X = C ++ X ++ List.replicate m 0 := by
  subst hC
  rw [splice, List.take_left, List.drop_append, List.drop_eq_nil_of_le (by omega), List.drop_replicate, hX, List.nil_append, show 22 + m - (C.length + 22 - C.length) = m by omega, List.append_assoc]
theorem cat_page (L : List Bs) (h : ∀ j, j < 4 → (bytes (L.getD j none)).length = 23) : pageTo L 4 = cat L 4 := by
  have hk : ∀ k, k ≤ 4 → pageTo L k = cat L k ++ List.replicate (88 - 22 * k) 0 := by
    intro k
    induction k with
    | zero => intro _; rfl
    | succ k ih =>
      intro hk
      have hc := cat_length L k (fun j hj => h j (by omega))
      have hb : ((bytes (L.getD k none)).drop 1).length = 22 := by rw [List.length_drop, h k (by omega)]
      rw [pageTo, ih (by omega), show 88 - 22 * k = 22 + (88 - 22 * (k + 1)) by omega, splice_next _ _ _ _ hc hb, cat]
  have := hk 4 (Nat.le_refl _)
  simpa using this

theorem i57 : (Ybad.prog.info? 57).map (fun i => i.comparable) = some true := by kernel_rfl
theorem i79 : (Ybad.prog.info? 79).map (fun i => i.size) = some 1 := by kernel_rfl
theorem err_same (a : Addr) (w : World) : (binOp .eql 27 (.iface 57 (.pointer (some a))) (.iface 57 (.pointer (some a)))).run Ybad.prog w = .ok (.bool true) w := by
  obtain ⟨i, hi, hc⟩ := Option.map_eq_some_iff.1 i57
  obtain ⟨j, hj, _⟩ := Option.map_eq_some_iff.1 i79
  exact run_eql_iface_ptr_same w a Ybad.underlying27 Ybad.underlying57 hi hc hj

theorem own_below {w w' : World} {B g n c : Nat} {xs : List Value} (h : w.ownsRow B 5 1 (.slice (some ⟨g, 0, none⟩) n c) n xs) (hb : Below w.heap.size w w') (hg : g < w.heap.size) : w'.ownsRow B 5 1 (.slice (some ⟨g, 0, none⟩) n c) n xs := by
  refine ⟨h.1, ?_⟩
  rcases h.2 with ⟨h0, _⟩ | ⟨g', cap, cur, hv, hB, hh, r⟩
  · cases h0
  · cases hv
    exact .inr ⟨g, c, cur, rfl, hB, (hb.block g hg).trans hh, r⟩

/-- What stands ahead of the tail: 'in' and its bounds. -/
def Ready (w wc : World) (v : Value) (L : List Bs) (nl : Bool) : Prop :=
  RowsAt wc v L nl ∧ L.length ≤ 65536 ∧ (∀ o ∈ L, (bytes o).length ≤ 1048576) ∧ Below w.heap.size w wc

/-- The blocks that the law builds: the first k of N are filled, each with 23 octets. -/
def Built (w : World) (G N k : Nat) : Prop := ∃ (L : List Bs) (S : List Value), L.length = N ∧ Filled w G L k S ∧ ∀ j, j < k → ∃ l, L.getD j none = some l ∧ l.length = 23
theorem Built.start {w : World} {G N : Nat} (h : w.heap[G]? = some (.cells (List.replicate N nilS).toArray 23 (0, 0))) : Built w G N 0 :=
  ⟨List.replicate N none, List.replicate N nilS, by simp, by have := Filled.start (w := w) (G := G) (L := List.replicate N none) (by simpa using h); simpa using this, fun j hj => by omega⟩
theorem Built.row {w : World} {G N k : Nat} (h : Built w G N k) : ∃ S : List Value, S.length = N ∧ w.heap[G]? = some (.cells S.toArray 23 (0, 0)) := by
  obtain ⟨L, S, hL, hF, _⟩ := h
  exact ⟨S, hF.1.trans hL, hF.2.1⟩
theorem Built.step {w w1 : World} {G N k : Nat} {x : Value} {l : List Int} (h : Built w G N k) (hk : k < N) (hb : Below w.heap.size w w1) (hx : BytesAt w1 x (some l)) (hxa : Above G x) (hl : l.length = 23) : Built (w1.setCell ⟨G, k, none⟩ x) G N (k + 1) := by
  obtain ⟨L, S, hL, hF, hj⟩ := h
  have hg : ∀ j, j ≠ k → (L.set k (some l)).getD j none = L.getD j none := fun j hj => by rw [List.getD_eq_getElem?_getD, List.getElem?_set_ne (by omega), ← List.getD_eq_getElem?_getD]
  have hk' : (L.set k (some l)).getD k none = some l := by rw [List.getD_eq_getElem?_getD, List.getElem?_set_self (by omega)]; rfl
  have hF' : Filled w G (L.set k (some l)) k S := ⟨by rw [List.length_set]; exact hF.1, hF.2.1, fun j hjk => by rw [hg j (by omega)]; exact hF.2.2.1 j hjk, hF.2.2.2⟩
  refine ⟨L.set k (some l), S.set k x, by rw [List.length_set]; exact hL, hF'.step (by rw [List.length_set]; omega) hb (by rw [hk']; exact hx) hxa, fun j hjk => ?_⟩
  by_cases e : j = k
  · rw [e, hk']; exact ⟨l, rfl, hl⟩
  · rw [hg j e]; exact hj j (by omega)
theorem Built.ready {w0 w : World} {G N : Nat} (h : Built w G N N) (hN : N ≤ 65536) (hb : Below w0.heap.size w0 w) : ∃ L, Ready w0 w (.slice (some ⟨G, 0, none⟩) N N) L false := by
  obtain ⟨L, S, hL, hF, hj⟩ := h
  refine ⟨L, ?_, by omega, fun o ho => ?_, hb⟩
  · have := (show Filled w G L L.length S by rw [hL]; exact hF).rows
    rw [hL] at this
    exact this
  · obtain ⟨j, hjl, rfl⟩ := List.getElem_of_mem ho
    obtain ⟨l, q1, q2⟩ := hj j (by omega)
    rw [List.getD_eq_getElem?_getD, List.getElem?_eq_getElem hjl] at q1
    have q3 : L[j] = some l := q1
    rw [q3]
    show l.length ≤ _
    omega

theorem u8s_splice (A X : List Int) (n : Nat) : splice (u8s A) n (u8s X) = u8s (splice A n X) := by
  simp [splice, u8s, List.map_take, List.map_drop]
theorem range_splice {A X : List Int} {n : Nat} (hA : ∀ x ∈ A, 0 ≤ x ∧ x ≤ 255) (hX : ∀ x ∈ X, 0 ≤ x ∧ x ≤ 255) : ∀ x ∈ splice A n X, 0 ≤ x ∧ x ≤ 255 := by
  intro x hx
  simp only [splice, List.mem_append] at hx
  rcases hx with hx | hx | hx
  · exact hA x (List.mem_of_mem_take hx)
  · exact hX x hx
  · exact hA x (List.mem_of_mem_drop hx)
def zero23 : List Int := List.replicate 23 0
/-- The new block behind its copy: 23 octets. -/
def Nb (w : World) (H : Nat) (l : List Int) : Prop := w.heap[H]? = some (.cells (u8s l).toArray 5 (0, 0)) ∧ l.length = 23 ∧ ∀ x ∈ l, 0 ≤ x ∧ x ≤ 255
theorem Nb.set {w : World} {H : Nat} {l : List Int} (h : Nb w H l) (z : Int) (hz : (Lit.int .u8 z).wf = true) : Nb (w.setCell ⟨H, 0, none⟩ (.int .u8 z)) H (l.set 0 z) := by
  refine ⟨?_, by rw [List.length_set]; exact h.2.1, fun x hx => ?_⟩
  · rw [Joins.block_setCell h.1]
    simp [u8s, List.map_set]
  · rcases List.mem_or_eq_of_mem_set hx with hx | rfl
    · exact h.2.2 x hx
    · exact bounds_u8 hz
theorem Nb.bytes {w : World} {H : Nat} {l : List Int} (h : Nb w H l) : BytesAt w (.slice (some ⟨H, 0, none⟩) 23 23) (some l) := by
  refine ⟨⟨H, 0, none⟩, 23, by rw [h.2.1], by rw [h.2.1]; exact Nat.le_refl _, fun _ => ⟨H, 0, rfl, lt_of_block h.1, fun j hj => ?_⟩, h.2.2⟩
  rw [cell_of_row _ _ _ _ _ _ h.1, Nat.zero_add]
  simpa using getElem?_u8s l j hj
theorem built_round {wr w2 : World} {G N m H : Nat} {l : List Int} {z : Int} (hF : Built wr G N m) (hm : m < N) (hb : Below wr.heap.size wr w2) (hH : wr.heap.size ≤ H) (hn : Nb w2 H l) (hz : (Lit.int .u8 z).wf = true) :
    Built ((w2.setCell ⟨H, 0, none⟩ (.int .u8 z)).setCell ⟨G, m, none⟩ (.slice (some ⟨H, 0, none⟩) 23 23)) G N (m + 1) := by
  obtain ⟨S, _, hS⟩ := hF.row
  have hG := lt_of_block hS
  refine hF.step hm (hb.setCell hH _) (hn.set z hz).bytes ?_ (by rw [List.length_set]; exact hn.2.1)
  intro a n c e _
  cases e
  exact Nat.lt_of_lt_of_le hG hH
theorem came_src {w w' : World} {a : Option Addr} {c : Nat} {o : Bs} (h : BytesAt w (.slice a (bytes o).length c) o) (hb : Below w.heap.size w w') (g : Nat) :
    0 < (u8s ((bytes o).take 22)).length → some (⟨g, 1, none⟩ : Addr) = some ⟨g, 1, none⟩ ∧ ∃ ad, a = some ad ∧ ∀ j v, (u8s ((bytes o).take 22))[j]? = some v → w'.cell? (ad.add j) = some v := by
  intro hp
  refine ⟨rfl, ?_⟩
  cases o with
  | none => simp [bytes, u8s] at hp
  | some l =>
    obtain ⟨a', cap, ev, _, hpp, _⟩ := h.below hb
    cases ev
    refine ⟨_, rfl, fun j v hv => ?_⟩
    have hv' : (u8s l)[j]? = some v := by
      have : (u8s ((bytes (some l)).take 22)) = (u8s l).take 22 := by simp [bytes, u8s, List.map_take]
      rw [this] at hv
      rw [List.getElem?_take] at hv
      split at hv
      · exact hv
      · cases hv
    exact news_of hpp j v hv'

theorem came_first {w w' : World} {a : Option Addr} {c : Nat} {o : Bs} (h : BytesAt w (.slice a (bytes o).length c) o) (hb : Below w.heap.size w w') (hp : 0 < (bytes o).length) :
    ∃ b off x, a = some ⟨b, off, none⟩ ∧ w'.cell? ⟨b, off, none⟩ = some (.int .u8 x) := by
  cases o with
  | none => simp [bytes] at hp
  | some l =>
    obtain ⟨a', cap, ev, _, hpp, _⟩ := h.below hb
    cases ev
    obtain ⟨b, off, rfl, _, hc⟩ := hpp hp
    exact ⟨b, off, _, rfl, by have := hc 0 hp; simpa using this⟩

theorem model_any (v : Value) (L : List Bs) (nl : Bool) (A : Nat → Addr) (w : World) (h : RowsAt w v L nl) (hbd : L.length ≤ 65536) (hg : Gl w A) : Calls Ybad.prog 5 #[v] w (ModelOut L A w) := by
  by_cases h4 : 4 < L.length
  · obtain ⟨a, c, rfl, _⟩ := h
    exact model_many a _ c L A w rfl h4 hbd hg
  · exact model_few v L nl A w h (by omega) hg
theorem asm_any (v : Value) (L : List Bs) (nl : Bool) (A : Nat → Addr) (w : World) (h : RowsAt w v L nl) (hbd : L.length ≤ 65536) (hg : Gl w A) : Calls Ybad.prog 6 #[v] w (AsmOut L A w) := by
  by_cases h4 : 4 < L.length
  · obtain ⟨a, c, rfl, _⟩ := h
    exact asm_many a _ c L A w rfl h4 hbd hg
  · exact asm_few v L nl A w h (by omega) hg

set_option maxRecDepth 100000 in
set_option maxHeartbeats 4000000 in
theorem law_walk (v : Value) (L0 : List Bs) (nl0 : Bool) (sh : Int) (A : Nat → Addr) (w : World) (h : RowsAt w v L0 nl0) (hbig : L0.length ≤ 140737488355328) (hlens : ∀ o ∈ L0, (bytes o).length ≤ 140737488355328) (hs0 : 0 ≤ sh) (hs1 : sh ≤ 255) (hg : Gl w A) :
    Calls Ybad.prog 3 #[v, .int .u8 sh] w fun e w' => e = .returned (.bool true) ∧ Below w.heap.size w w' := by
  have h' := h
  obtain ⟨a, c, rfl, _, _, hp⟩ := h'
  obtain ⟨n, hn⟩ : ∃ n, n = L0.length := ⟨_, rfl⟩
  have HROWS := hide h
  have HP := hide hp
  have HN := hide hn
  have HG := hide hg
  have HLENS := hide hlens
  rw [← hn] at hbig HROWS ⊢
  clear hp hn hg hlens h
  by_cases hbd : n ≤ 65536
  · have hdec : decide ((65536 : Int) < (n : Int)) = false := by simp; omega
    go_enter Ybad.func3, Ybad.ntmps3
    go_wp2
    go_loopw [5, 30] (fun t i wr => ∃ k : Nat, ∃ tot : Nat, k ≤ n ∧ i = .int .i64 k ∧ t = .int .i64 tot ∧ tot ≤ 1048576 ∧ Below w.heap.size w wr ∧ Hid (∀ j, j < k → (bytes (L0.getD j none)).length ≤ 1048576)) (fun _ i _ => n - (intOf i).toNat)
    case atStart => exact ⟨0, 0, by omega, rfl, rfl, by omega, Below.refl _ _, fun j hj => by omega⟩
    case round =>
      obtain ⟨k, tot, hk, rfl, rfl, htot, hbel, hall⟩ := hrel
      by_cases hlt : k < n
      · have hL : k < L0.length := by rw [← unhide HN]; exact hlt
        obtain ⟨b1, o1, ha1, hb1, hc1⟩ := unhide HP (by omega)
        obtain ⟨s1, hs1, hB1⟩ := hc1 k hL
        obtain ⟨p1, d1, es1⟩ := bytes_len hB1
        have e1 : wr.cell? ⟨b1, o1 + k, none⟩ = some (.slice p1 (bytes (L0.getD k none)).length d1) := by rw [← es1]; exact (hbel.cell (by exact hb1)).trans hs1
        have hi1 : (k : Int) < (n : Int) := by omega
        have hln : (bytes (L0.getD k none)).length ≤ 140737488355328 := unhide HLENS _ (by rw [List.getD_eq_getElem?_getD, List.getElem?_eq_getElem hL]; exact List.getElem_mem hL)
        obtain ⟨ln, hlnn⟩ : ∃ ln, ln = (bytes (L0.getD k none)).length := ⟨_, rfl⟩
        rw [← hlnn] at e1 hln
        have HLN := hide hlnn
        rw [ha1]
        clear hs1 hc1 hB1 es1 hb1 ha1 hlnn hL
        by_cases hov : 1048576 < tot + ln
        · have hov' : (1048576 : Int) < (tot : Int) + (ln : Int) := by omega
          go_wp2
          go_ret
          exact ⟨rfl, hbel⟩
        · have hov' : ¬ (1048576 : Int) < (tot : Int) + (ln : Int) := by omega
          have hall' : Hid (∀ j, j < k + 1 → (bytes (L0.getD j none)).length ≤ 1048576) := by
            intro j hj
            by_cases hj' : j = k
            · rw [hj', ← unhide HLN]; omega
            · exact unhide hall j (by omega)
          clear hall
          go_wp2
          go_roundw
          case rel => exact ⟨k + 1, tot + ln, by omega, by go_num, by go_num, by omega, hbel, hall'⟩
          case measure => simp [intOf]; omega
      · go_upto_if 45 with (fail)
        go_cut [8] (fun s8 wc => ∃ L nl, Hid (Ready w wc s8 L nl))
        case rest =>
          obtain ⟨L, nl, hR⟩ := hcut
          clear hbel hall HROWS HP HN HLENS hlt hk htot
          have hg1 := (unhide HG).below (unhide hR).2.2.2
          have HCL := hide (clone_any u8 L nl wc (unhide hR).1 (unhide hR).2.1 (unhide hR).2.2.1)
          go_wp2_with fail
          refine (unhide HCL).mono ?_
          rintro e w1 ⟨v1, rfl, hrow1, hb1⟩
          have hg2 := hg1.below hb1
          have HMO := hide (model_any v1 L nl A w1 hrow1 (unhide hR).2.1 hg2)
          clear HCL hg1
          go_wp2_with fail
          refine (unhide HMO).mono ?_
          intro e w2 hmo
          have hin2 : RowsAt w2 u8 L nl := ((unhide hR).1.below hb1).below hmo.1
          have hsn2 : RowsAt w2 v1 L nl := hrow1.below hmo.1
          have HAS := hide (asm_any u8 L nl A w2 hin2 (unhide hR).2.1 (hg2.below hmo.1))
          have hb02 : Below w.heap.size w w2 := (unhide hR).2.2.2.trans ((Joins.below_le hb1 (unhide hR).2.2.2.size).trans (Joins.below_le hmo.1 (Nat.le_trans (unhide hR).2.2.2.size hb1.size)))
          have HIN2 := hide hin2
          have HSN2 := hide hsn2
          have HB02 := hide hb02
          have HLEN := hide (unhide hR).2.1
          have HMOO := hide hmo.2
          clear HMO hg2 hin2 hsn2 hb02 hb1 hrow1 hR hmo
          have n1 := neq_nil
          have n0 := neq_nil0
          rcases unhide HMOO with ⟨m, e2, hv, rfl, he2⟩ | ⟨hv, pv, rfl, hpv⟩
          · -- an error is expected
            clear HMOO
            go_wp2_with fail
            refine (unhide HAS).mono ?_
            rintro e w3 ⟨hb3, has⟩
            have ee : e = .returned (.tuple #[.agg #[.int .u8 0, .slice none 0 0], errV A m]) := by
              rcases has with ⟨m', hv', he⟩ | ⟨hv', _⟩
              · rw [hv] at hv'; cases hv'; exact he
              · rw [hv] at hv'; cases hv'
            rw [ee]
            have hb4 : Below w2.heap.size w2 (w3.alloc (.cells #[.int .u8 0, .slice none 0 0] 31)) := hb3.alloc hb3.size _
            have HSA := hide (same_any u8 v1 L nl _ ((unhide HIN2).below hb4) ((unhide HSN2).below hb4) (unhide HLEN))
            have HB4 := hide hb4
            have hse := err_same (A m)
            have hsn := fun (a : Option Addr) (n c : Nat) (w : World) => Lib.run_eql_slice_nil (P := Ybad.prog) w 23 5 a n c 0 0 Ybad.underlying23
            clear HAS has ee hb3 hb4 hv
            go_wp2_with fail
            refine (unhide HSA).mono ?_
            rintro e w5 ⟨rfl, hb5⟩
            have hM : w5.heap[w3.heap.size]? = some (.cells #[.int .u8 0, .slice none 0 0] 31 (0, 0)) := (hb5.block _ (by simp)).trans (heap_alloc_new _ _)
            have x0 : w5.cell? ⟨w3.heap.size, 0, none⟩ = some (.int .u8 0) := cell_of_row _ _ 0 _ _ _ hM
            have x1 : w5.cell? ⟨w3.heap.size, 1, none⟩ = some (.slice none 0 0) := cell_of_row _ _ 1 _ _ _ hM
            have HFIN : Hid (Below w.heap.size w w5) := (unhide HB02).trans (Joins.below_le ((unhide HB4).trans (Joins.below_le hb5 (unhide HB4).size)) (unhide HB02).size)
            clear HSA hb5 hM
            go_wp2
            go_ret
            exact ⟨rfl, unhide HFIN⟩
          · -- a message is expected
            clear HMOO
            go_wp2_with fail
            refine (unhide HAS).mono ?_
            rintro e w3 ⟨hb3, has⟩
            obtain ⟨hL4, h23, g, cap, ee, hown⟩ : L.length = 4 ∧ (∀ j, j < 4 → (bytes (L.getD j none)).length = 23) ∧ ∃ g cap, e = .returned (.tuple #[.agg #[.int .u8 (kindTo L 4), .slice (some ⟨g, 0, none⟩) 88 cap], .nilIface]) ∧ w3.ownsRow w2.heap.size 5 1 (.slice (some ⟨g, 0, none⟩) 88 cap) 88 (u8s (cat L 4)) := by
              rcases has with ⟨m', hv', _⟩ | ⟨_, q1, q2, g, cap, q3, q4⟩
              · rw [hv] at hv'; cases hv'
              · exact ⟨q1, q2, g, cap, q3, by rw [← cat_page L q2]; exact q4⟩
            rw [ee]
            have hcl := cat_length L 4 h23
            obtain ⟨kd, hkd⟩ : ∃ kd, kd = kindTo L 4 := ⟨_, rfl⟩
            rw [← hkd]
            have hgge : w2.heap.size ≤ g := own_ge hown
            have hglt : g < w3.heap.size := own_lt hown
            have hxr : ∀ x ∈ cat L 4, 0 ≤ x ∧ x ≤ 255 := by obtain ⟨_, _, _, _, _, hx⟩ := hpv; exact hx
            have hb4 : Below w2.heap.size w2 (w3.alloc (.cells #[.int .u8 kd, .slice (some ⟨g, 0, none⟩) 88 cap] 31)) := hb3.alloc hb3.size _
            have hs3 := hb3.size
            have HSA := hide (same_any u8 v1 L nl _ ((unhide HIN2).below hb4) ((unhide HSN2).below hb4) (unhide HLEN))
            have HB4 := hide hb4
            have HOWN4 : Hid ((w3.alloc (.cells #[.int .u8 kd, .slice (some ⟨g, 0, none⟩) 88 cap] 31)).ownsRow w2.heap.size 5 1 (.slice (some ⟨g, 0, none⟩) 88 cap) 88 (u8s (cat L 4))) := hown.alloc _
            have HPV := hide hpv
            have HXR := hide hxr
            have HCL := hide hcl
            clear HAS has ee hb3 hb4 hv hkd hL4 h23 hown hpv hxr hcl
            go_wp2_with fail
            refine (unhide HSA).mono ?_
            rintro e w5 ⟨rfl, hb5⟩
            have hM : w5.heap[w3.heap.size]? = some (.cells #[.int .u8 kd, .slice (some ⟨g, 0, none⟩) 88 cap] 31 (0, 0)) := (hb5.block _ (by simp)).trans (heap_alloc_new _ _)
            have x0 : w5.cell? ⟨w3.heap.size, 0, none⟩ = some (.int .u8 kd) := cell_of_row _ _ 0 _ _ _ hM
            have x1 : w5.cell? ⟨w3.heap.size, 1, none⟩ = some (.slice (some ⟨g, 0, none⟩) 88 cap) := cell_of_row _ _ 1 _ _ _ hM
            have hB25 : Below w2.heap.size w2 w5 := (unhide HB4).trans (Joins.below_le hb5 (unhide HB4).size)
            have hown5 : w5.ownsRow w2.heap.size 5 1 (.slice (some ⟨g, 0, none⟩) 88 cap) 88 (u8s (cat L 4)) := own_below (unhide HOWN4) hb5 (by simp; omega)
            have HEQ := hide (equal_same (.slice (some ⟨g, 0, none⟩) 88 cap) pv (some (cat L 4)) w5 (bytes_own hown5 (unhide HCL).symm (by simp) (unhide HXR)).2.1 ((unhide HPV).below hB25))
            have HM := hide hM
            have HB25 := hide hB25
            have HOWN5 := hide hown5
            clear HSA hb5 hM hB25 hown5 HOWN4 HB4 HPV
            go_wp2_with (go_at_call 8; refine (unhide HEQ).mono ?_; rintro e w6 ⟨rfl, rfl⟩)
            clear x0 x1 HEQ
            go_loopw [24] (fun i wr => ∃ m : Nat, m ≤ 88 ∧ i = .int .i64 m ∧ Below w2.heap.size w2 wr ∧ Hid (wr.heap[w3.heap.size]? = some (.cells #[.int .u8 kd, .slice (some ⟨g, 0, none⟩) 88 cap] 31 (0, 0))) ∧ ∃ pl, Hid (pl.length = 88 ∧ wr.ownsRow w2.heap.size 5 1 (.slice (some ⟨g, 0, none⟩) 88 cap) 88 (u8s pl))) (fun i _ => 88 - (intOf i).toNat)
            case atStart => exact ⟨0, by omega, rfl, unhide HB25, HM, _, unhide HCL, unhide HOWN5⟩
            case round =>
              clear HB25 HM HOWN5
              obtain ⟨m, hm, rfl, hbm, hMr, pl, hpl⟩ := hrel
              have x1 : wr.cell? ⟨w3.heap.size, 1, none⟩ = some (.slice (some ⟨g, 0, none⟩) 88 cap) := cell_of_row _ _ 1 _ _ _ (unhide hMr)
              by_cases hlt : m < 88
              · obtain ⟨y, hy⟩ : ∃ y, y = pl.getD m 0 := ⟨_, rfl⟩
                have cg : wr.cell? ⟨g, m, none⟩ = some (.int .u8 y) := by rw [hy, (unhide hpl).2.cellAt m (by omega), getElem?_u8s pl m (by rw [(unhide hpl).1]; exact hlt)]
                have fg : wr.frozen? ⟨g, m, none⟩ = false := (unhide hpl).2.frozenAt m
                have hi1 : (m : Int) < 88 := by omega
                have HST : Hid (∀ z, (wr.setCell ⟨g, m, none⟩ (.int .u8 z)).heap[w3.heap.size]? = some (.cells #[.int .u8 kd, .slice (some ⟨g, 0, none⟩) 88 cap] 31 (0, 0)) ∧ (pl.set m z).length = 88 ∧ (wr.setCell ⟨g, m, none⟩ (.int .u8 z)).ownsRow w2.heap.size 5 1 (.slice (some ⟨g, 0, none⟩) 88 cap) 88 (u8s (pl.set m z))) := by
                  intro z
                  refine ⟨?_, by rw [List.length_set]; exact (unhide hpl).1, ?_⟩
                  · rw [heap_setCell_other _ _ _ _ (show w3.heap.size ≠ g by omega)]; exact unhide hMr
                  · have := ((unhide hpl).2.stored m (.int .u8 z)).1
                    rw [show u8s (pl.set m z) = (u8s pl).set m (.int .u8 z) by simp [u8s, List.map_set]]
                    exact this
                clear hy hpl hMr
                go_wp2
                go_roundw
                case rel => exact ⟨m + 1, by omega, by go_num, hbm.setCell hgge _, (unhide HST _).1, _, (unhide HST _).2⟩
                case measure => simp [intOf]; omega
              · have HSA := hide (same_any u8 v1 L nl wr ((unhide HIN2).below hbm) ((unhide HSN2).below hbm) (unhide HLEN))
                have HF : Hid (Below w.heap.size w wr) := (unhide HB02).trans (Joins.below_le hbm (unhide HB02).size)
                have hwr : w.heap.size ≤ wr.heap.size := (unhide HF).size
                clear hpl hMr
                go_wp2_with fail
                refine (unhide HSA).mono ?_
                rintro e w7 ⟨rfl, hb7⟩
                have HFIN : Hid (Below w.heap.size w w7) := (unhide HF).trans (Joins.below_le hb7 hwr)
                clear HSA hb7
                go_wp2
                go_ret
                exact ⟨rfl, unhide HFIN⟩
        case first =>
          by_cases hm0 : sh % 4 = 0
          · have hm0' : (sh % 4 != 0) = false := by rw [hm0]; rfl
            have hRdy : Hid (Ready w wr (.slice a n c) L0 nl0) := by
              refine ⟨(unhide HROWS).below hbel, by rw [← unhide HN]; exact hbd, fun o ho => ?_, hbel⟩
              obtain ⟨j, hj, rfl⟩ := List.getElem_of_mem ho
              have := unhide hall j (by have := unhide HN; omega)
              rw [List.getD_eq_getElem?_getD, List.getElem?_eq_getElem hj] at this
              exact this
            clear hm0 hall
            go_wp2
            go_meet
            case rel => exact ⟨L0, nl0, hRdy⟩
          · have hm0' : (sh % 4 != 0) = true := by rw [bne_iff_ne]; exact hm0
            clear hm0 hall
            go_upto_if 49 with (fail)
            go_cut [10] (fun s10 wc => ∃ N : Nat, N ≤ 65536 ∧ s10 = .int .i64 N ∧ Below w.heap.size w wc)
            case first =>
              by_cases hm2 : 2 ≤ sh % 4
              · go_wp2
                go_meet
                case rel => exact ⟨4, by omega, rfl, hbel⟩
              · go_wp2
                go_meet
                case rel => exact ⟨n, hbd, rfl, hbel⟩
            case rest =>
              clear hbel
              obtain ⟨N, hN, rfl, hbel⟩ := hcut
              obtain ⟨i23, hi23, hz23, hs23, hb23⟩ := info_parts info23
              obtain ⟨i5, hi5, hz5, hs5, hb5⟩ := info_parts info5
              go_wp2_with (at_make; refine wpList_make_full _ rfl (.tmp 50) (.tmp 50) 22 rfl w.heap.size 23 i23 (.slice none 0 0) 1 Ybad.underlying22 hi23 hz23 hs23 .i64 .i64 _ _ N rfl rfl ?m1 ?m2 ?m3 ?m4 ?m5 ?_)
              case m1 => rfl
              case m2 => rfl
              case m3 => rw [hb23]; omega
              case m4 => unfold maxLen; omega
              case m5 => exact hbel.size
              intro w1 hown1 hgrow1
              have hB1 : Below w.heap.size w w1 := hbel.grown hgrow1 hbel.size (fun j hj => by cases hj)
              have hG1 : w.heap.size ≤ wc.heap.size := hbel.size
              have hF1 : Hid (Built w1 wc.heap.size N 0) := Built.start (rowMadeS hown1)
              clear hown1 hgrow1 hbel
              generalize wc.heap.size = G at *
              go_wp2
              go_loopw [11] (fun i wr => ∃ m : Nat, m ≤ N ∧ i = .int .i64 m ∧ Below w.heap.size w wr ∧ Hid (Built wr G N m)) (fun i _ => N - (intOf i).toNat)
              case atStart => exact ⟨0, by omega, rfl, hB1, hF1⟩
              case round =>
                clear hB1 hF1
                obtain ⟨m, hm, rfl, hbel, hF⟩ := hrel
                by_cases hlt2 : m < N
                · go_upto_if 60 with (fail)
                  go_cut [12] (fun s12 wdd => ∃ o, Hid (BytesAt w s12 o ∧ (bytes o).length ≤ 140737488355328 ∧ Built wdd G N m) ∧ Below w.heap.size w wdd)
                  case first =>
                    by_cases hin : m < n
                    · have hL : m < L0.length := by rw [← unhide HN]; exact hin
                      obtain ⟨b1, o1, ha1, hb1, hc1⟩ := unhide HP (by omega)
                      obtain ⟨s1, hs1, hB1⟩ := hc1 m hL
                      have e1 : wr.cell? ⟨b1, o1 + m, none⟩ = some s1 := (hbel.cell (by exact hb1)).trans hs1
                      have hi1 : (m : Int) < (n : Int) := by omega
                      have hln : (bytes (L0.getD m none)).length ≤ 140737488355328 := unhide HLENS _ (by rw [List.getD_eq_getElem?_getD, List.getElem?_eq_getElem hL]; exact List.getElem_mem hL)
                      have hO : Hid (BytesAt w s1 (L0.getD m none) ∧ (bytes (L0.getD m none)).length ≤ 140737488355328 ∧ Built wr G N m) := ⟨hB1, hln, unhide hF⟩
                      subst ha1
                      clear hs1 hc1 hB1 hb1 hL hln
                      go_wp2
                      go_meet
                      case rel => exact ⟨_, hO, hbel⟩
                    · go_wp2
                      go_meet
                      case rel => exact ⟨none, ⟨rfl, by simp [bytes], unhide hF⟩, hbel⟩
                  case rest =>
                    clear hbel hF
                    obtain ⟨o, hO, hbel⟩ := hcut
                    obtain ⟨a1, c1, es⟩ := bytes_len (unhide hO).1
                    rw [es]
                    obtain ⟨ln, hln⟩ : ∃ ln, ln = (bytes o).length := ⟨_, rfl⟩
                    have hlnb : ln ≤ 140737488355328 := by rw [hln]; exact (unhide hO).2.1
                    have hBo : BytesAt w (.slice a1 (bytes o).length c1) o := by rw [← es]; exact (unhide hO).1
                    have HF : Hid (Built wc G N m) := (unhide hO).2.2
                    rw [← hln]
                    obtain ⟨X, hX⟩ : ∃ X, X = (bytes o).take 22 := ⟨_, rfl⟩
                    have hXl : X.length = min ln 22 := by rw [hX, List.length_take, hln, Nat.min_comm]
                    have HLN := hide hln
                    have HX := hide hX
                    have HBO := hide hBo
                    have HXL := hide hXl
                    clear hO es hln hBo hX hXl
                    go_wp2_with (at_make; refine wpList_make_full _ rfl (.const (.int .i64 23)) (.const (.int .i64 23)) 23 rfl wc.heap.size 5 i5 (.int .u8 0) 1 Ybad.underlying23 hi5 hz5 hs5 .i64 .i64 _ _ 23 rfl rfl ?p1 ?p2 ?p3 ?p4 ?p5 ?_)
                    case p1 => rfl
                    case p2 => rfl
                    case p3 => rw [hb5]; omega
                    case p4 => unfold maxLen; omega
                    case p5 => exact Nat.le_refl _
                    intro w1 hown1 hgrow1
                    have hB1 : Below wc.heap.size wc w1 := (Below.refl _ _).grown hgrow1 (Nat.le_refl _) (fun j hj => by cases hj)
                    have hR1 : Hid (w1.heap[wc.heap.size]? = some (.cells (u8s zero23).toArray 5 (0, 0))) := by show _ = _; rw [show u8s zero23 = List.replicate 23 (.int .u8 0) from rfl]; exact rowMadeS hown1
                    have hBw : Below w.heap.size w w1 := hbel.trans (Joins.below_le hB1 hbel.size)
                    have hwd : w.heap.size ≤ wc.heap.size := hbel.size
                    clear hown1 hgrow1
                    go_wp2_with (refine wpList_copy_splice rfl (.tmp 67) (.tmp 68) 23 23 rfl 5 Ybad.underlying23 (by kernel_rfl) (some ⟨wc.heap.size, 1, none⟩) a1 22 22 ln c1 rfl rfl wc.heap.size 1 (u8s zero23) 5 (unhide hR1) (u8s X) ?q1 (by rw [unhide HX]; exact came_src (unhide HBO) hBw _) ?q2 (u8s_one _) wc.heap.size wc hB1 (Nat.le_refl _) ?_)
                    case q1 => rw [List.length_map, unhide HXL]
                    case q2 => rw [List.length_map, List.length_map, unhide HXL, show zero23.length = 23 from rfl]; omega
                    intro w2 hR2 hB2
                    have hNb : Nb w2 wc.heap.size (splice zero23 1 X) := by
                      refine ⟨?_, ?_, ?_⟩
                      · have := unhide hR2
                        rw [u8s_splice] at this
                        exact this
                      · rw [length_splice _ _ _ (by rw [unhide HXL, show zero23.length = 23 from rfl]; omega)]; rfl
                      · exact range_splice (fun x hx => by rw [List.eq_of_mem_replicate hx]; omega) (fun x hx => by rw [unhide HX] at hx; exact bytes_range (unhide HBO) x (List.mem_of_mem_take hx))
                    have x0 : ∃ y, w2.cell? ⟨wc.heap.size, 0, none⟩ = some (.int .u8 y) := ⟨_, by have := (hNb.bytes); rw [cell_of_row _ _ _ _ _ _ hNb.1]; simpa using getElem?_u8s _ 0 (by rw [hNb.2.1]; omega)⟩
                    obtain ⟨y0, x0⟩ := x0
                    have f0 : w2.frozen? ⟨wc.heap.size, 0, none⟩ = false := frozen_of_row _ _ _ _ _ hNb.1
                    obtain ⟨S, hSl, hS⟩ := (unhide HF).row
                    have hGl : G < wc.heap.size := lt_of_block hS
                    have xG : ∃ y, w2.cell? ⟨G, m, none⟩ = some y := ⟨S[m]'(by omega), by rw [cell_of_row _ _ _ _ _ _ ((hB2.block G hGl).trans hS)]; simp⟩
                    obtain ⟨yG, xG⟩ := xG
                    have fG : w2.frozen? ⟨G, m, none⟩ = false := frozen_of_row _ _ _ _ _ ((hB2.block G hGl).trans hS)
                    have hne : ¬ G = wc.heap.size := by omega
                    have hne' : ¬ wc.heap.size = G := by omega
                    have HBR : Hid (∀ z, (Lit.int .u8 z).wf = true → Built ((w2.setCell ⟨wc.heap.size, 0, none⟩ (.int .u8 z)).setCell ⟨G, m, none⟩ (.slice (some ⟨wc.heap.size, 0, none⟩) 23 23)) G N (m + 1)) := fun z hz => built_round (unhide HF) hlt2 hB2 (Nat.le_refl _) hNb hz
                    have hB02 : Below w.heap.size w w2 := hbel.trans (Joins.below_le hB2 hwd)
                    have him : (m : Int) < (N : Int) := by omega
                    by_cases hl0 : 0 < ln
                    · obtain ⟨bb, ob, xx, ea1, hbb⟩ : ∃ bb ob xx, a1 = some ⟨bb, ob, none⟩ ∧ w2.cell? ⟨bb, ob, none⟩ = some (.int .u8 xx) := came_first (unhide HBO) hB02 (by rw [← unhide HLN]; exact hl0)
                      rw [ea1]
                      have hl0' : (0 : Int) < (ln : Int) := by omega
                      clear hNb hR2 hR1 hB1 hB2 HF HBO hS hSl ea1 hBw hbel
                      go_wp2
                      all_goals
                        go_roundw
                        case rel => exact ⟨m + 1, by omega, by go_num, (hB02.setCell hwd _).setCell hG1 _, unhide HBR _ (by first | exact wf_bits _ _ _ _ | decide)⟩
                        case measure => simp [intOf]; omega
                    · have el0 : ln = 0 := by omega
                      have hl0' : ¬ (0 : Int) < (ln : Int) := by omega
                      clear hNb hR2 hR1 hB1 hB2 HF HBO hS hSl hBw hbel el0
                      go_wp2
                      all_goals
                        go_roundw
                        case rel => exact ⟨m + 1, by omega, by go_num, (hB02.setCell hwd _).setCell hG1 _, unhide HBR _ (by first | exact wf_bits _ _ _ _ | decide)⟩
                        case measure => simp [intOf]; omega
                · have em : m = N := by omega
                  subst em
                  obtain ⟨L, hRdy⟩ : ∃ L, Hid (Ready w wr (.slice (some ⟨G, 0, none⟩) m m) L false) := (unhide hF).ready hN hbel
                  clear hF
                  go_wp2
                  go_meet
                  case rel => exact ⟨L, false, hRdy⟩
  · go_enter Ybad.func3, Ybad.ntmps3
    go_wp2
    go_ret
    exact ⟨rfl, Below.refl _ _⟩
end Go.Proofs.YbulkeimqDoor.lawB
