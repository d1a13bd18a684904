import Derived.Test.YbulkeimqDoorBAsm
import Derived.Deep.QuietTactic
import Derived.BigQuiet
namespace Go.Proofs.YbulkeimqDoor.lawB
open Go.ChangeShapes Go.WideShapes Go.ChangeAt Go.RowKit

/-- The page, block behind block. -/
def cat (L : List Bs) : Nat → List Int
  | 0 => []
  | k + 1 => cat L k ++ (bytes (L.getD k none)).drop 1

/-- What the model hands back. -/
def ModelOut (L : List Bs) (A : Nat → Addr) (w : World) (e : Ending) (w' : World) : Prop :=
  Below w.heap.size w w' ∧ ((∃ n e2, verdict L = some n ∧ e = .returned (.tuple #[.int .u8 0, .slice none 0 0, errV A n, e2]) ∧ (e2 = .nilIface ∨ e2 = errV A 3)) ∨
    (verdict L = none ∧ ∃ pv, e = .returned (.tuple #[.int .u8 (kindTo L 4), pv, .nilIface, .nilIface]) ∧ BytesAt w' pv (some (cat L 4))))

set_option maxHeartbeats 1000000 in
theorem model_many (a : Option Addr) (n c : Nat) (L : List Bs) (A : Nat → Addr) (w : World) (hn : L.length = n) (h4 : 4 < n) (hbd : n ≤ 65536) (hg : Gl w A) :
    Calls Ybad.prog 5 #[.slice a n c] w (ModelOut L A w) := by
  have h4' : (4 : Int) < (n : Int) := by omega
  have c0 := hg.2.1 0 (by omega)
  have HV : Hid (verdict L = some 0) := by show _ = _; rw [verdict, hn, if_pos h4]
  clear hg hn
  go_enter Ybad.func5, Ybad.ntmps5
  go_wp2
  go_quiet (fail)
  go_wp2
  exact bodyPost_ret (v := .tuple #[.int .u8 0, .slice none 0 0, errV A 0, .nilIface]) (by simp [results, Ybad.results5]) rfl ⟨Joins.below_draws _ _ _, .inl ⟨0, _, unhide HV, rfl, .inl rfl⟩⟩

theorem own_lt {w : World} {B g n c : Nat} {L : List Value} (h : w.ownsRow B 5 1 (.slice (some ⟨g, 0, none⟩) n c) n L) : g < w.heap.size := by
  rcases h.2 with ⟨h0, _⟩ | ⟨g', _, _, hv, _, hh, _⟩
  · cases h0
  · cases hv; exact lt_of_block hh

theorem own_form {w : World} {B n : Nat} {v : Value} {L : List Value} (h : w.ownsRow B 5 1 v n L) (hv : v ≠ .slice none 0 0) : ∃ g c, v = .slice (some ⟨g, 0, none⟩) n c := by
  rcases h.2 with ⟨h0, _⟩ | ⟨g', c, _, hv', _⟩
  · exact absurd h0 hv
  · exact ⟨g', c, hv'⟩
theorem own_ge {w : World} {B g n c : Nat} {L : List Value} (h : w.ownsRow B 5 1 (.slice (some ⟨g, 0, none⟩) n c) n L) : B ≤ g := by
  rcases h.2 with ⟨h0, _⟩ | ⟨g', _, _, hv, hB, _⟩
  · cases h0
  · cases hv; exact hB
theorem cat_length (L : List Bs) (k : Nat) (h : ∀ j, j < k → (bytes (L.getD j none)).length = 23) : (cat L k).length = 22 * k := by
  induction k with
  | zero => rfl
  | succ k ih => rw [cat, List.length_append, ih (fun j hj => h j (by omega)), List.length_drop, h k (by omega)]; omega
theorem bytes_range {w : World} {s : Value} {o : Bs} (h : BytesAt w s o) : ∀ x ∈ bytes o, 0 ≤ x ∧ x ≤ 255 := by
  cases o with
  | none => intro x hx; simp [bytes] at hx
  | some l => obtain ⟨_, _, _, _, _, hx⟩ := h; exact hx
theorem cat_range (L : List Bs) {w : World} {b1 o1 : Nat} (h : ∀ i, i < L.length → ∃ s, w.cell? ⟨b1, o1 + i, none⟩ = some s ∧ BytesAt w s (L.getD i none)) (_ : ∀ j, j < 4 → (bytes (L.getD j none)).length = 23) (h4 : L.length = 4) :
    ∀ x ∈ cat L 4, 0 ≤ x ∧ x ≤ 255 := by
  have hk : ∀ k, k ≤ 4 → ∀ x ∈ cat L k, 0 ≤ x ∧ x ≤ 255 := by
    intro k
    induction k with
    | zero => intro _ x hx; simp [cat] at hx
    | succ k ih =>
      intro hk x hx
      rw [cat, List.mem_append] at hx
      rcases hx with hx | hx
      · exact ih (by omega) x hx
      · obtain ⟨s, _, hs⟩ := h k (by omega)
        exact bytes_range hs x (List.mem_of_mem_drop hx)
  exact hk 4 (Nat.le_refl _)

theorem getD_drop1 (l : List Int) (j : Nat) : l.getD (1 + j) 0 = (l.drop 1).getD j 0 := by
  rw [List.getD_eq_getElem?_getD, List.getD_eq_getElem?_getD, List.getElem?_drop]

theorem verdict_hit (L : List Bs) (n k e : Nat) (hn : n = L.length) (h4 : n ≤ 4) (hk : k < n) (h0 : scan L k = none) (h : chk k (L.getD k none) = some e) : verdict L = some e := by
  rw [verdict, if_neg (by omega), scan_hit L k e h0 h (by omega)]
theorem chk_1 {i : Nat} {o : Bs} (h : (bytes o).length ≠ 23) : chk i o = some 1 := by rw [chk, if_pos h]

/-- 'chk' of a block of 23 octets, by its first octet. -/
def chkX (i : Nat) (x : Int) (sN : Nat) : Option Nat :=
  if lpd x ≠ 1 then some 2 else if resN sN = true then some 3 else if sN = 15 then some 4 else if i = 0 then (if kindB sN = true then none else some 5) else if sN = i then none else some 5
theorem chk_of {i : Nat} {o : Bs} {x : Int} {sN : Nat} (h : (bytes o).length = 23) (hx : x = (bytes o).getD 0 0) (hs : x % 16 = sN) : chk i o = chkX i x sN := by
  have e : ((bytes o).getD 0 0 % 16).toNat = sN := by rw [← hx, hs]; rfl
  rw [chk, if_neg (fun hh => hh h), e, ← hx]
  rfl
theorem resN_yes {s : Nat} (h : (4 ≤ s ∧ s ≤ 7) ∨ (9 ≤ s ∧ s ≤ 14)) : resN s = true := by simp [resN]; omega
theorem resN_no {s : Nat} (h : s ≤ 3 ∨ s = 8 ∨ s = 15) : resN s = false := by simp [resN]; omega
theorem chkX_2 {i : Nat} {x : Int} {s : Nat} (h : lpd x ≠ 1) : chkX i x s = some 2 := by rw [chkX, if_pos h]
theorem chkX_3 {i : Nat} {x : Int} {s : Nat} (h : lpd x = 1) (h1 : resN s = true) : chkX i x s = some 3 := by rw [chkX, if_neg (fun hh => hh h), if_pos h1]
theorem chkX_4 {i : Nat} {x : Int} {s : Nat} (h : lpd x = 1) (h1 : s = 15) : chkX i x s = some 4 := by rw [chkX, if_neg (fun hh => hh h), resN_no (by omega), if_neg (by decide), if_pos h1]
theorem chkX_5 {i : Nat} {x : Int} {s : Nat} (h : lpd x = 1) (h1 : s ≤ 3 ∨ s = 8) (h2 : (i = 0 ∧ kindB s = false) ∨ (i ≠ 0 ∧ s ≠ i)) : chkX i x s = some 5 := by
  rw [chkX, if_neg (fun hh => hh h), resN_no (by omega), if_neg (by decide), if_neg (by omega)]
  rcases h2 with ⟨q1, q2⟩ | ⟨q1, q2⟩
  · rw [if_pos q1, q2]; rfl
  · rw [if_neg q1, if_neg q2]
theorem chkX_0 {i : Nat} {x : Int} {s : Nat} (h : lpd x = 1) (h1 : s ≤ 3 ∨ s = 8) (h2 : (i = 0 ∧ kindB s = true) ∨ (i ≠ 0 ∧ s = i)) : chkX i x s = none := by
  rw [chkX, if_neg (fun hh => hh h), resN_no (by omega), if_neg (by decide), if_neg (by omega)]
  rcases h2 with ⟨q1, q2⟩ | ⟨q1, q2⟩
  · rw [if_pos q1, q2]; rfl
  · rw [if_neg q1, if_pos q2]

set_option maxRecDepth 100000 in
set_option maxHeartbeats 4000000 in
theorem model_few (v : Value) (L : List Bs) (nl : Bool) (A : Nat → Addr) (w : World) (h : RowsAt w v L nl) (h4 : L.length ≤ 4) (hg : Gl w A) :
    Calls Ybad.prog 5 #[v] w (ModelOut L A w) := by
  obtain ⟨a, c, rfl, _, _, hp⟩ := h
  obtain ⟨n, hn⟩ : ∃ n, n = L.length := ⟨_, rfl⟩
  have HP := hide hp
  have HN := hide hn
  have HG := hide hg
  rw [← hn] at h4 ⊢
  clear hp hn hg
  have hdec : decide ((4 : Int) < (n : Int)) = false := by simp; omega
  go_enter Ybad.func5, Ybad.ntmps5
  go_wp2
  go_loopw [6, 7] (fun kd i wr => ∃ k : Nat, k ≤ n ∧ i = .int .i64 k ∧ kd = .int .u8 (kindTo L k) ∧ Below w.heap.size w wr ∧ Hid (scan L k = none ∧ ∀ j, j < k → (bytes (L.getD j none)).length = 23)) (fun _ i _ => n - (intOf i).toNat)
  case atStart => exact ⟨0, by omega, rfl, rfl, Below.refl _ _, rfl, fun j hj => by omega⟩
  case round =>
    obtain ⟨k, hk, rfl, rfl, hbel, hst⟩ := hrel
    obtain ⟨kk, hkk⟩ : ∃ kk, kk = kindTo L k := ⟨_, rfl⟩
    rw [← hkk]
    have HKK := hide hkk
    clear hkk
    by_cases hlt : k < n
    · have hL : k < L.length := by rw [← unhide HN]; exact hlt
      obtain ⟨b1, o1, ha1, hb1, hc1⟩ := unhide HP (by omega)
      obtain ⟨s1, hs1, hB1⟩ := hc1 k hL
      have e1 : wr.cell? ⟨b1, o1 + k, none⟩ = some s1 := (hbel.cell (by exact hb1)).trans hs1
      have hi1 : (k : Int) < (n : Int) := by omega
      have hgr := (unhide HG).below hbel
      have g1 := hgr.2.1 1 (by omega)
      have g2 := hgr.2.1 2 (by omega)
      have g3 := hgr.2.1 3 (by omega)
      have g4 := hgr.2.1 4 (by omega)
      have g5 := hgr.2.1 5 (by omega)
      have hBr := hB1.below hbel
      have HVH : Hid (∀ e, chk k (L.getD k none) = some e → verdict L = some e) := fun e he => verdict_hit L n k e (unhide HN) h4 hlt (unhide hst).1 he
      rw [ha1]
      clear hs1 hc1 hB1 hb1 ha1 hgr
      by_cases h23 : (bytes (L.getD k none)).length = 23
      · obtain ⟨b, off, cc, rfl, hcc, hbl, hcell, hx0, hx1⟩ := bytes_23 hBr h23
        obtain ⟨x, hx⟩ : ∃ x, x = (bytes (L.getD k none)).getD 0 0 := ⟨_, rfl⟩
        have e2 : wr.cell? ⟨b, off, none⟩ = some (.int .u8 x) := by have := hcell 0 (by omega); rw [← hx] at this; simpa using this
        rw [← hx] at hx0 hx1
        obtain ⟨sN, hsN⟩ : ∃ sN : Nat, x % 16 = sN := ⟨(x % 16).toNat, by omega⟩
        have hs16 : sN < 16 := by omega
        have HVX : Hid (∀ e, chkX k x sN = some e → verdict L = some e) := fun e he => unhide HVH e (by rw [chk_of h23 hx hsN]; exact he)
        have HGO : Hid (chkX k x sN = none → scan L (k + 1) = none ∧ ∀ j, j < k + 1 → (bytes (L.getD j none)).length = 23) := fun he => by
          refine ⟨scan_go L k (unhide hst).1 (by rw [chk_of h23 hx hsN]; exact he), fun j hj => ?_⟩
          by_cases hj' : j = k
          · rw [hj']; exact h23
          · exact (unhide hst).2 j (by omega)
        have HKN : Hid (kindTo L (k + 1) = if k = 0 then kindV sN else kk) := by
          show _ = _
          rw [kindTo, kindOf, ← hx, hsN, ← unhide HKK]
          rfl
        have HL := hide hL
        clear HVH hcell hBr hx h23 hbl hL
        by_cases hl : lpd x = 1
        · have hl' : (bits .and .u8 (x / 32) 3 != 1) = false := by rw [show bits .and .u8 (x / 32) 3 = 1 from hl]; rfl
          rcases (show (4 ≤ sN ∧ sN ≤ 7) ∨ (9 ≤ sN ∧ sN ≤ 14) ∨ sN = 15 ∨ sN ≤ 3 ∨ sN = 8 from by omega) with hr | hr | hr | hr | hr
          · have HV := hide (unhide HVX 3 (chkX_3 hl (resN_yes (.inl hr))))
            clear HVX hst HL
            go_wp2
            go_quiet (fail)
            go_wp2
            exact bodyPost_ret (v := .tuple #[.int .u8 0, .slice none 0 0, errV A 3, .nilIface]) (by simp [results, Ybad.results5]) rfl ⟨hbel.trans (Joins.below_draws _ _ _), .inl ⟨3, _, unhide HV, rfl, .inl rfl⟩⟩
          · have HV := hide (unhide HVX 3 (chkX_3 hl (resN_yes (.inr hr))))
            clear HVX hst HL
            go_wp2
            go_quiet (fail)
            go_wp2
            exact bodyPost_ret (v := .tuple #[.int .u8 0, .slice none 0 0, errV A 3, .nilIface]) (by simp [results, Ybad.results5]) rfl ⟨hbel.trans (Joins.below_draws _ _ _), .inl ⟨3, _, unhide HV, rfl, .inl rfl⟩⟩
          · have HV := hide (unhide HVX 4 (chkX_4 hl hr))
            have hq : ((sN : Int) == 15) = true := by rw [beq_iff_eq]; omega
            have hr1 : (15 : Int) ≤ (sN : Int) := by omega
            have HR := hide hr
            clear hr
            clear HVX hst HL
            go_wp2
            go_quiet (fail)
            go_wp2
            exact bodyPost_ret (v := .tuple #[.int .u8 0, .slice none 0 0, errV A 4, .nilIface]) (by simp [results, Ybad.results5]) rfl ⟨hbel.trans (Joins.below_draws _ _ _), .inl ⟨4, _, unhide HV, rfl, .inl rfl⟩⟩
          · have hq : ((sN : Int) == 15) = false := by rw [beq_eq_false_iff_ne]; omega
            by_cases hk0 : k = 0
            · have hk0b : ((k : Int) == 0) = true := by rw [beq_iff_eq]; omega
              by_cases hs0 : sN = 0
              · have hst' : Hid (scan L (k + 1) = none ∧ ∀ j, j < k + 1 → (bytes (L.getD j none)).length = 23) := unhide HGO (chkX_0 hl (.inl hr) (.inl ⟨hk0, by rw [hs0]; rfl⟩))
                have hs0b : ((sN : Int) == 0) = true := by rw [beq_iff_eq]; omega
                have HK0 : Hid ((if k = 0 then kindV sN else kk) = 0) := by show _ = _; rw [if_pos hk0, hs0]; rfl
                clear hk0 hs0
                clear HVX hst HGO HL
                go_wp2
                go_roundw
                case rel => exact ⟨k + 1, by omega, by go_num, by rw [unhide HKN]; rw [unhide HK0], hbel, hst'⟩
                case measure => simp [intOf]; omega
              · have HV := hide (unhide HVX 5 (chkX_5 hl (.inl hr) (.inl ⟨hk0, by simp [kindB]; omega⟩)))
                have hs0b : ((sN : Int) == 0) = false := by rw [beq_eq_false_iff_ne]; omega
                have hs8b : ((sN : Int) == 8) = false := by rw [beq_eq_false_iff_ne]; omega
                clear hk0 hs0
                clear HVX hst HL
                go_wp2
                go_quiet (fail)
                go_wp2
                exact bodyPost_ret (v := .tuple #[.int .u8 0, .slice none 0 0, errV A 5, .nilIface]) (by simp [results, Ybad.results5]) rfl ⟨hbel.trans (Joins.below_draws _ _ _), .inl ⟨5, _, unhide HV, rfl, .inl rfl⟩⟩
            · have hk0b : ((k : Int) == 0) = false := by rw [beq_eq_false_iff_ne]; omega
              by_cases hs0 : sN = k
              · have hst' : Hid (scan L (k + 1) = none ∧ ∀ j, j < k + 1 → (bytes (L.getD j none)).length = 23) := unhide HGO (chkX_0 hl (.inl hr) (.inr ⟨hk0, hs0⟩))
                have hs0b : ((sN : Int) != (k : Int)) = false := by rw [hs0]; simp
                have HK0 : Hid ((if k = 0 then kindV sN else kk) = kk) := by show _ = _; rw [if_neg hk0]
                clear hk0 hs0
                clear HVX hst HGO HL
                go_wp2
                go_roundw
                case rel => exact ⟨k + 1, by omega, by go_num, by rw [unhide HKN]; rw [unhide HK0], hbel, hst'⟩
                case measure => simp [intOf]; omega
              · have HV := hide (unhide HVX 5 (chkX_5 hl (.inl hr) (.inr ⟨hk0, hs0⟩)))
                have hs0b : ((sN : Int) != (k : Int)) = true := by rw [bne_iff_ne]; omega
                clear hk0 hs0
                clear HVX hst HL
                go_wp2
                go_quiet (fail)
                go_wp2
                exact bodyPost_ret (v := .tuple #[.int .u8 0, .slice none 0 0, errV A 5, .nilIface]) (by simp [results, Ybad.results5]) rfl ⟨hbel.trans (Joins.below_draws _ _ _), .inl ⟨5, _, unhide HV, rfl, .inl rfl⟩⟩
          · have hq : ((sN : Int) == 15) = false := by rw [beq_eq_false_iff_ne]; omega
            have hr1 : (8 : Int) ≤ (sN : Int) := by omega
            have hr2 : (sN : Int) ≤ 8 := by omega
            by_cases hk0 : k = 0
            · have hst' : Hid (scan L (k + 1) = none ∧ ∀ j, j < k + 1 → (bytes (L.getD j none)).length = 23) := unhide HGO (chkX_0 hl (.inr hr) (.inl ⟨hk0, by rw [hr]; rfl⟩))
              have hk0b : ((k : Int) == 0) = true := by rw [beq_iff_eq]; omega
              have hs0b : ((sN : Int) == 0) = false := by rw [beq_eq_false_iff_ne]; omega
              have hs8b : ((sN : Int) == 8) = true := by rw [beq_iff_eq]; omega
              have HK0 : Hid ((if k = 0 then kindV sN else kk) = 1) := by show _ = _; rw [if_pos hk0, hr]; rfl
              clear hk0 hr
              clear HVX hst HGO HL
              go_wp2
              go_roundw
              case rel => exact ⟨k + 1, by omega, by go_num, by rw [unhide HKN]; rw [unhide HK0], hbel, hst'⟩
              case measure => simp [intOf]; omega
            · have HV := hide (unhide HVX 5 (chkX_5 hl (.inr hr) (.inr ⟨hk0, by omega⟩)))
              have hk0b : ((k : Int) == 0) = false := by rw [beq_eq_false_iff_ne]; omega
              have hs0b : ((sN : Int) != (k : Int)) = true := by rw [bne_iff_ne]; omega
              clear hk0 hr
              clear HVX hst HL
              go_wp2
              go_quiet (fail)
              go_wp2
              exact bodyPost_ret (v := .tuple #[.int .u8 0, .slice none 0 0, errV A 5, .nilIface]) (by simp [results, Ybad.results5]) rfl ⟨hbel.trans (Joins.below_draws _ _ _), .inl ⟨5, _, unhide HV, rfl, .inl rfl⟩⟩
        · have hl' : (bits .and .u8 (x / 32) 3 != 1) = true := by rw [bne_iff_ne]; exact hl
          rcases (show (4 ≤ sN ∧ sN ≤ 7) ∨ (9 ≤ sN ∧ sN ≤ 14) ∨ sN = 15 ∨ sN ≤ 3 ∨ sN = 8 from by omega) with hr | hr | hr | hr | hr
          · have HV := hide (unhide HVX 2 (chkX_2 hl))
            clear HVX hst HL
            go_wp2
            go_quiet (fail)
            go_wp2
            exact bodyPost_ret (v := .tuple #[.int .u8 0, .slice none 0 0, errV A 2, errV A 3]) (by simp [results, Ybad.results5]) rfl ⟨hbel.trans (Joins.below_draws _ _ _), .inl ⟨2, _, unhide HV, rfl, .inr rfl⟩⟩
          · have HV := hide (unhide HVX 2 (chkX_2 hl))
            clear HVX hst HL
            go_wp2
            go_quiet (fail)
            go_wp2
            exact bodyPost_ret (v := .tuple #[.int .u8 0, .slice none 0 0, errV A 2, errV A 3]) (by simp [results, Ybad.results5]) rfl ⟨hbel.trans (Joins.below_draws _ _ _), .inl ⟨2, _, unhide HV, rfl, .inr rfl⟩⟩
          · have HV := hide (unhide HVX 2 (chkX_2 hl))
            have hr1 : (15 : Int) ≤ (sN : Int) := by omega
            have hr2 : (sN : Int) ≤ 15 := by omega
            clear hr
            clear HVX hst HL
            go_wp2
            go_quiet (fail)
            go_wp2
            exact bodyPost_ret (v := .tuple #[.int .u8 0, .slice none 0 0, errV A 2, .nilIface]) (by simp [results, Ybad.results5]) rfl ⟨hbel.trans (Joins.below_draws _ _ _), .inl ⟨2, _, unhide HV, rfl, .inl rfl⟩⟩
          · have HV := hide (unhide HVX 2 (chkX_2 hl))
            clear HVX hst HL
            go_wp2
            go_quiet (fail)
            go_wp2
            exact bodyPost_ret (v := .tuple #[.int .u8 0, .slice none 0 0, errV A 2, .nilIface]) (by simp [results, Ybad.results5]) rfl ⟨hbel.trans (Joins.below_draws _ _ _), .inl ⟨2, _, unhide HV, rfl, .inl rfl⟩⟩
          · have HV := hide (unhide HVX 2 (chkX_2 hl))
            have hr1 : (8 : Int) ≤ (sN : Int) := by omega
            have hr2 : (sN : Int) ≤ 8 := by omega
            clear hr
            clear HVX hst HL
            go_wp2
            go_quiet (fail)
            go_wp2
            exact bodyPost_ret (v := .tuple #[.int .u8 0, .slice none 0 0, errV A 2, .nilIface]) (by simp [results, Ybad.results5]) rfl ⟨hbel.trans (Joins.below_draws _ _ _), .inl ⟨2, _, unhide HV, rfl, .inl rfl⟩⟩
      · obtain ⟨p1, d1, es1⟩ := bytes_len hBr
        rw [es1] at e1
        have hne : (((bytes (L.getD k none)).length : Int) != 23) = true := by rw [bne_iff_ne]; omega
        have HV := hide (unhide HVH 1 (chk_1 h23))
        clear hBr h23 es1 HVH hst hL
        generalize (bytes (L.getD k none)).length = ln at *
        go_wp2
        go_quiet (fail)
        go_wp2
        exact bodyPost_ret (v := .tuple #[.int .u8 0, .slice none 0 0, errV A 1, .nilIface]) (by simp [results, Ybad.results5]) rfl ⟨hbel.trans (Joins.below_draws _ _ _), .inl ⟨1, _, unhide HV, rfl, .inl rfl⟩⟩
    · have ek : k = n := by omega
      subst ek
      by_cases hk4 : k < 4
      · have hk4' : decide ((k : Int) < 4) = true := by simp; omega
        have c6 : wr.cell? ⟨6, 0, none⟩ = some (.iface 57 (.pointer (some (A 6)))) := ((unhide HG).below hbel).2.1 6 (by omega)
        have HV : Hid (verdict L = some 6) := by
          show _ = _
          rw [verdict, if_neg (by rw [← unhide HN]; omega), ← unhide HN, (unhide hst).1]
          simp [hk4]
        clear hst
        go_wp2
        go_quiet (fail)
        go_wp2
        exact bodyPost_ret (v := .tuple #[.int .u8 0, .slice none 0 0, errV A 6, .nilIface]) (by simp [results, Ybad.results5]) rfl ⟨hbel.trans (Joins.below_draws _ _ _), .inl ⟨6, _, unhide HV, rfl, .inl rfl⟩⟩
      · have ek : k = 4 := by omega
        subst ek
        obtain ⟨i5, hi5, hz5, hs5, hb5⟩ := info_parts info5
        have hlen4 : Hid (L.length = 4) := by show _ = _; rw [← unhide HN]
        have HV : Hid (verdict L = none) := by
          show _ = _
          rw [verdict, if_neg (by rw [unhide hlen4]; omega), unhide hlen4, (unhide hst).1]
          simp
        obtain ⟨b1, o1, ha1, hb1, hc1⟩ := unhide HP (by rw [unhide hlen4]; omega)
        rw [ha1]
        have HC1 := hide hc1
        clear ha1 hc1 hlt hk4
        go_wp2_with (at_make; refine wpList_make_own _ rfl (.const (.int .i64 0)) (.const (.int .i64 88)) 23 rfl wr.heap.size 5 i5 (.int .u8 0) 1 Ybad.underlying23 hi5 hz5 hs5 .i64 .i64 _ 88 rfl rfl ?m2 ?m3 ?m4 ?m5 ?_)
        case m2 => rfl
        case m3 => rw [hb5]; omega
        case m4 => unfold maxLen; omega
        case m5 => exact Nat.le_refl _
        intro w5 hown5 hgrow5
        have hB5 : Below w.heap.size w w5 := hbel.trans ((Below.refl _ _).grown hgrow5 hbel.size (fun j hj => by cases hj))
        have hr5 : wr.heap.size < w5.heap.size := own_lt hown5
        have hwB : w.heap.size ≤ wr.heap.size := hbel.size
        have HO5 : Hid (w5.ownsRow wr.heap.size 5 1 (.slice (some ⟨wr.heap.size, 0, none⟩) 0 88) (22 * 0) (u8s (cat L 0)) ∧ (.slice (some ⟨wr.heap.size, 0, none⟩) 0 88 : Value) ≠ .slice none 0 0) := ⟨hown5, by simp⟩
        clear hown5 hgrow5 hbel
        generalize wr.heap.size = B0 at *
        go_wp2
        go_loopw [13, 14] (fun v i wt => ∃ m : Nat, m ≤ 4 ∧ i = .int .i64 m ∧ Below w.heap.size w wt ∧ B0 < wt.heap.size ∧ Hid (wt.ownsRow B0 5 1 v (22 * m) (u8s (cat L m)) ∧ v ≠ .slice none 0 0)) (fun _ i _ => 4 - (intOf i).toNat)
        case atStart => exact ⟨0, by omega, rfl, hB5, hr5, HO5⟩
        case round =>
          clear HO5 hB5 hr5
          obtain ⟨m, hm, rfl, hbt, hrt, hov⟩ := hrel
          by_cases hlt : m < 4
          · obtain ⟨s1, hs1, hB1⟩ := unhide HC1 m (by rw [unhide hlen4]; exact hlt)
            have e1 : wr.cell? ⟨b1, o1 + m, none⟩ = some s1 := (hbt.cell (by exact hb1)).trans hs1
            have h23 := (unhide hst).2 m hlt
            obtain ⟨b, off, cc, es, hcc, hbl, hcell, _, _⟩ := bytes_23 (hB1.below hbt) h23
            rw [es] at e1
            obtain ⟨gg, cg, hvv⟩ := own_form (unhide hov).1 (unhide hov).2
            rw [hvv]
            have hxs : ((bytes (L.getD m none)).drop 1).length = 22 := by rw [List.length_drop, h23]
            have HS : Hid (Src wr b (off + 1) ((bytes (L.getD m none)).drop 1)) := src22 hxs (fun j hj => by
              rw [Nat.add_assoc, hcell (1 + j) (by omega), getD_drop1])
            have HOV : Hid (wr.ownsRow B0 5 1 (.slice (some ⟨gg, 0, none⟩) (22 * m) cg) (22 * m) (u8s (cat L m))) := by have := (unhide hov).1; rw [hvv] at this; exact this
            have hgB : B0 ≤ gg := own_ge (unhide HOV)
            have HXS := hide hxs
            have hi1 : (m : Int) < 4 := by omega
            have hc1 : (1 : Int) ≤ (cc : Int) := by omega
            have hc2 : ¬ cc = 1 := by omega
            clear hs1 hB1 h23 hcell hvv hov es hxs
            go_wp2_with (at_builtin; refine wpList_append_own _ rfl (.tmp 92) (.tmp 97) 23 rfl B0 5 i5 (.int .u8 0) 1 1 Ybad.underlying23 hi5 hz5 hs5 hb5 rfl (by decide) (.slice (some ⟨gg, 0, none⟩) (22 * m) cg) (22 * m) (u8s (cat L m)) rfl (unhide HOV) ⟨b, off + 1, none⟩ 22 (cc - 1) (u8s ((bytes (L.getD m none)).drop 1)) rfl ?c1 (unhide HS) (u8s_one _) ?c3 ?c4 ?c5 ?_)
            case c1 => rw [List.length_map, unhide HXS]
            case c3 => unfold maxLen; omega
            case c4 => omega
            case c5 => omega
            intro v' w6 hown6 hgrow6 hnil6
            have hb6 : Below w.heap.size w w6 := hbt.grown hgrow6 (by omega) (fun j hj => by cases hj; exact Nat.le_trans hwB hgB)
            have hs6 : B0 < w6.heap.size := Nat.lt_of_lt_of_le hrt hgrow6.size
            have HO6 : Hid (w6.ownsRow B0 5 1 v' (22 * (m + 1)) (u8s (cat L (m + 1))) ∧ v' ≠ .slice none 0 0) := by
              refine ⟨?_, fun e => by simp [e] at hnil6⟩
              rw [show 22 * (m + 1) = 22 * m + 22 by omega, cat]
              simpa [u8s] using hown6
            clear hown6 hgrow6 hnil6 HOV hbt
            go_wp2
            go_roundw
            case rel => exact ⟨m + 1, by omega, by go_num, hb6, hs6, HO6⟩
            case measure => simp [intOf]; omega
          · have em : m = 4 := by omega
            subst em
            have hpv : Hid (BytesAt wr u13 (some (cat L 4))) := (bytes_own (unhide hov).1 (by rw [cat_length L 4 (unhide hst).2]) (unhide hov).2 (cat_range L HC1.out (unhide hst).2 (unhide hlen4))).2.1
            go_wp2
            exact bodyPost_ret (v := .tuple #[.int .u8 (kindTo L 4), u13, .nilIface, .nilIface]) (by simp [results, Ybad.results5, unhide HKK]) rfl ⟨hbt, .inr ⟨unhide HV, _, rfl, unhide hpv⟩⟩
end Go.Proofs.YbulkeimqDoor.lawB
