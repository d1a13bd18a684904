import Derived.Test.YbulkeimqDoorRows
import Derived.WalkKit
import Derived.WalkLawsBesides
import Derived.ProofKit
import Derived.OpenShut
import Derived.Below
import Derived.Lib.SmallJoins
import Derived.Lib.Bytes
import Derived.Lib.Walk
import Derived.Laws.BytesArg
namespace Go.Proofs.YbulkeimqDoor.lawB
open Go.ChangeShapes Go.WideShapes Go.ChangeAt Go.RowKit

theorem hide {p : Prop} (h : p) : Hid p := h
theorem unhide {p : Prop} (h : Hid p) : p := h

/-- A []byte: nil, or its bytes. -/
abbrev Bs := Option (List Int)
def bytes (o : Bs) : List Int := o.getD []

/-- s is a []byte value that reads as o in w. -/
def BytesAt (w : World) (s : Value) : Bs → Prop
  | none => s = .slice none 0 0
  | some l => ∃ a cap, s = .slice (some a) l.length cap ∧ l.length ≤ cap ∧ (0 < l.length → ∃ b off, a = ⟨b, off, none⟩ ∧ b < w.heap.size ∧ ∀ j, j < l.length → w.cell? ⟨b, off + j, none⟩ = some (.int .u8 (l.getD j 0)))
      ∧ ∀ x ∈ l, 0 ≤ x ∧ x ≤ 255

/-- v is a [][]byte value that reads as L in w (nl: it is nil). -/
def RowsAt (w : World) (v : Value) (L : List Bs) (nl : Bool) : Prop :=
  ∃ a cap, v = .slice a L.length cap ∧ a.isNone = nl ∧ (nl = true → L = []) ∧ (0 < L.length → ∃ b off, a = some ⟨b, off, none⟩ ∧ b < w.heap.size ∧
    ∀ i, i < L.length → ∃ s, w.cell? ⟨b, off + i, none⟩ = some s ∧ BytesAt w s (L.getD i none))

theorem BytesAt.below {w w' : World} {s : Value} {o : Bs} (h : BytesAt w s o) (hb : Below w.heap.size w w') : BytesAt w' s o := by
  cases o with
  | none => exact h
  | some l =>
    obtain ⟨a, cap, rfl, hc, hp, hx⟩ := h
    refine ⟨a, cap, rfl, hc, fun h0 => ?_, hx⟩
    obtain ⟨b, off, rfl, hbl, hcell⟩ := hp h0
    exact ⟨b, off, rfl, Nat.lt_of_lt_of_le hbl hb.size, fun j hj => (hb.cell (by exact hbl)).trans (hcell j hj)⟩
theorem RowsAt.below {w w' : World} {v : Value} {L : List Bs} {nl : Bool} (h : RowsAt w v L nl) (hb : Below w.heap.size w w') : RowsAt w' v L nl := by
  obtain ⟨a, cap, rfl, hn, hl, hp⟩ := h
  refine ⟨a, cap, rfl, hn, hl, fun h0 => ?_⟩
  obtain ⟨b, off, rfl, hbl, hcell⟩ := hp h0
  refine ⟨b, off, rfl, Nat.lt_of_lt_of_le hbl hb.size, fun i hi => ?_⟩
  obtain ⟨s, hs, hbs⟩ := hcell i hi
  exact ⟨s, (hb.cell (by exact hbl)).trans hs, hbs.below hb⟩

/-- 'string(b)'. -/
theorem conv_of {w : World} {s : Value} {o : Bs} (h : BytesAt w s o) : (convert 23 9 s).run Ybad.prog w = .ok (.string (strOfNums (bytes o))) w := by
  cases o with
  | none =>
    rw [show s = .slice none 0 0 from h]
    exact run_convert_bytes_nil (P := Ybad.prog) w 23 5 Ybad.underlying23 Ybad.underlying5 0 0 9 Ybad.underlying9
  | some l =>
    obtain ⟨a, cap, rfl, _, hp, _⟩ := h
    by_cases h0 : 0 < l.length
    · obtain ⟨b, off, rfl, _, hcell⟩ := hp h0
      exact run_convert_bytes_arg (P := Ybad.prog) w 23 5 Ybad.underlying23 Ybad.underlying5 b off l.length cap l rfl hcell 9 Ybad.underlying9
    · have hl : l = [] := List.eq_nil_of_length_eq_zero (by omega)
      subst hl
      rw [run_convert_bytes_string w 23 9 5 _ _ _ Ybad.underlying23 Ybad.underlying5 Ybad.underlying9]
      rfl

set_option maxHeartbeats 1000000 in
theorem equal_any (v1 v2 : Value) (xs ys : List Int) (w : World)
    (h1 : (convert 23 9 v1).run Ybad.prog w = .ok (.string (strOfNums xs)) w) (h2 : (convert 23 9 v2).run Ybad.prog w = .ok (.string (strOfNums ys)) w) :
    Calls Ybad.prog 8 #[v1, v2] w fun e w' => e = .returned (.bool (Lib.bytesOf xs == Lib.bytesOf ys)) ∧ w' = w := by
  rw [← Lib.strOfNums_toList, ← Lib.strOfNums_toList]
  go_enter Ybad.func8, Ybad.ntmps8
  go_wp2
  go_ret
  exact ⟨rfl, rfl⟩
theorem equal_same (v1 v2 : Value) (o : Bs) (w : World) (h1 : BytesAt w v1 o) (h2 : BytesAt w v2 o) :
    Calls Ybad.prog 8 #[v1, v2] w fun e w' => e = .returned (.bool true) ∧ w' = w := by
  refine (equal_any v1 v2 _ _ w (conv_of h1) (conv_of h2)).mono ?_
  rintro e w' ⟨rfl, rfl⟩
  exact ⟨by simp, rfl⟩
end Go.Proofs.YbulkeimqDoor.lawB
