import Derived.Test.YbulkeimqDoorBData
import Derived.Deep.QuietTactic
import Derived.BigQuiet
import Derived.WalkSpells
namespace Go.Proofs.YbulkeimqDoor.lawB
open Go.ChangeShapes Go.WideShapes Go.ChangeAt Go.RowKit

set_option maxHeartbeats 1000000 in
theorem same_any (v1 v2 : Value) (L : List Bs) (nl : Bool) (w : World) (h1 : RowsAt w v1 L nl) (h2 : RowsAt w v2 L nl) (hbd : L.length ≤ 65536) :
    Calls Ybad.prog 7 #[v1, v2] w fun e w' => e = .returned (.bool true) ∧ Below w.heap.size w w' := by
  obtain ⟨a1, c1, rfl, hn1, hl1, hp1⟩ := h1
  obtain ⟨a2, c2, rfl, hn2, hl2, hp2⟩ := h2
  obtain ⟨n, hn⟩ : ∃ n, n = L.length := ⟨_, rfl⟩
  have HP1 := hide hp1
  have HP2 := hide hp2
  have HN := hide hn
  rw [← hn] at hbd ⊢
  clear hp1 hp2 hn hl1 hl2
  have q1 := fun (a : Option Addr) (n c : Nat) (w : World) => Lib.run_eql_slice_nil (P := Ybad.prog) w 22 23 a n c 0 0 Ybad.underlying22
  have q2 := fun (a : Option Addr) (n c : Nat) (w : World) => Lib.run_eql_slice_nil (P := Ybad.prog) w 23 5 a n c 0 0 Ybad.underlying23
  go_enter Ybad.func7, Ybad.ntmps7
  go_wp2
  go_loopw [5] (fun i wr => ∃ k : Nat, k ≤ n ∧ i = .int .i64 k ∧ Below w.heap.size w wr) (fun i _ => n - (intOf i).toNat)
  case atStart => exact ⟨0, by omega, rfl, Below.refl _ _⟩
  case round =>
    obtain ⟨k, hk, rfl, hbel⟩ := hrel
    by_cases hlt : k < n
    · have hL : k < L.length := by rw [← unhide HN]; exact hlt
      obtain ⟨b1, o1, ha1, hb1, hc1⟩ := unhide HP1 (by omega)
      obtain ⟨b2, o2, ha2, hb2, hc2⟩ := unhide HP2 (by omega)
      obtain ⟨s1, hs1, hB1⟩ := hc1 k hL
      obtain ⟨s2, hs2, hB2⟩ := hc2 k hL
      have e1 : wr.cell? ⟨b1, o1 + k, none⟩ = some s1 := (hbel.cell (by exact hb1)).trans hs1
      have e2 : wr.cell? ⟨b2, o2 + k, none⟩ = some s2 := (hbel.cell (by exact hb2)).trans hs2
      have hi1 : (k : Int) < (n : Int) := by omega
      have hE : ∀ m, Calls Ybad.prog 8 #[s1, s2] (wr.drewN m) fun e w' => e = .returned (.bool true) ∧ w' = wr.drewN m :=
        fun m => equal_same s1 s2 _ _ (hB1.below (hbel.trans (Joins.below_draws _ _ _))) (hB2.below (hbel.trans (Joins.below_draws _ _ _)))
      rw [ha1, ha2]
      clear hs1 hs2 hc1 hc2 hb1 hb2 ha1 ha2 hL
      cases hLk : L.getD k none with
      | none =>
        rw [hLk] at hB1 hB2
        rw [show s1 = .slice none 0 0 from hB1] at e1 hE
        rw [show s2 = .slice none 0 0 from hB2] at e2 hE
        have HE := hide hE
        clear hE hB1 hB2 hLk
        go_wp2
        go_quiet ((go_at_call 8; exact Calls.quiet_of_same (unhide HE _)))
        go_wp2
        go_roundw
        case rel => exact ⟨k + 1, by omega, by go_num, hbel.trans (Joins.below_draws _ _ _)⟩
        case measure => simp [intOf]; omega
      | some l =>
        rw [hLk] at hB1 hB2
        obtain ⟨p1, d1, es1, _⟩ := hB1
        obtain ⟨p2, d2, es2, _⟩ := hB2
        rw [es1] at e1 hE
        rw [es2] at e2 hE
        have HE := hide hE
        clear hE hLk es1 es2
        go_wp2
        go_quiet ((go_at_call 8; exact Calls.quiet_of_same (unhide HE _)))
        go_wp2
        go_roundw
        case rel => exact ⟨k + 1, by omega, by go_num, hbel.trans (Joins.below_draws _ _ _)⟩
        case measure => simp [intOf]; omega
    · go_wp2
      go_ret
      exact ⟨rfl, hbel⟩
end Go.Proofs.YbulkeimqDoor.lawB
