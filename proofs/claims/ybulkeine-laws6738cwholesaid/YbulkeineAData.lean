/-
  Slices of strings and bools in memory; slices.Index and slices.Contains at []string.
-/
import Derived.Test.YbulkeineRows
import Derived.Test.YbulkeineLocks
import Derived.WalkKit
import Derived.WalkLawsBesides
import Derived.ProofKit
import Derived.OpenShut
import Derived.Below
import Derived.Deep.QuietTactic
import Derived.BigQuiet
import Derived.WalkSpells
import Derived.Lib.SmallJoins
namespace Go.Proofs.Ybulkeine.lawA
open Go.ChangeShapes Go.WideShapes Go.ChangeAt Go.RowKit

theorem hide {p : Prop} (h : p) : Hid p := h
theorem unhide {p : Prop} (h : Hid p) : p := h

abbrev Str := ByteArray
abbrev noStr : Str := ⟨#[]⟩

/-- v is a []string value that reads as l in w. -/
def StrsAt (w : World) (v : Value) (l : List Str) : Prop :=
  ∃ a cap, v = .slice a l.length cap ∧ (0 < l.length → ∃ b off, a = some ⟨b, off, none⟩ ∧ b < w.heap.size ∧ ∀ i, i < l.length → w.cell? ⟨b, off + i, none⟩ = some (.string (l.getD i noStr)))
/-- v is a []bool value that reads as l in w. -/
def BoolsAt (w : World) (v : Value) (l : List Bool) : Prop :=
  ∃ a cap, v = .slice a l.length cap ∧ (0 < l.length → ∃ b off, a = some ⟨b, off, none⟩ ∧ b < w.heap.size ∧ ∀ i, i < l.length → w.cell? ⟨b, off + i, none⟩ = some (.bool (l.getD i false)))

theorem StrsAt.below {w w' : World} {v : Value} {l : List Str} (h : StrsAt w v l) (hb : Below w.heap.size w w') : StrsAt w' v l := by
  obtain ⟨a, cap, rfl, hp⟩ := h
  refine ⟨a, cap, rfl, fun h0 => ?_⟩
  obtain ⟨b, off, rfl, hbl, hc⟩ := hp h0
  exact ⟨b, off, rfl, Nat.lt_of_lt_of_le hbl hb.size, fun i hi => (hb.cell (by exact hbl)).trans (hc i hi)⟩
theorem BoolsAt.below {w w' : World} {v : Value} {l : List Bool} (h : BoolsAt w v l) (hb : Below w.heap.size w w') : BoolsAt w' v l := by
  obtain ⟨a, cap, rfl, hp⟩ := h
  refine ⟨a, cap, rfl, fun h0 => ?_⟩
  obtain ⟨b, off, rfl, hbl, hc⟩ := hp h0
  exact ⟨b, off, rfl, Nat.lt_of_lt_of_le hbl hb.size, fun i hi => (hb.cell (by exact hbl)).trans (hc i hi)⟩

/-- slices.Index. -/
def idx (l : List Str) (x : Str) : Int := match l.findIdx? (fun y => decide (x = y)) with | some i => i | none => -1
theorem eq_bytes (x y : ByteArray) : (x.toList == y.toList) = decide (x = y) := by
  rw [ByteArray.toList_eq, ByteArray.toList_eq]
  by_cases h : x = y
  · subst h; simp
  · rw [decide_eq_false h, beq_eq_false_iff_ne]
    exact fun e => h (bytes_inj e)

theorem idx_none {l : List Str} {x : Str} (h : ∀ j, j < l.length → l.getD j noStr ≠ x) : idx l x = -1 := by
  have : l.findIdx? (fun y => decide (x = y)) = none := by
    rw [List.findIdx?_eq_none_iff]
    intro y hy
    obtain ⟨j, hj, rfl⟩ := List.mem_iff_getElem.1 hy
    have := h j hj
    rw [List.getD_eq_getElem?_getD, List.getElem?_eq_getElem hj] at this
    exact decide_eq_false (fun e => this e.symm)
  rw [idx, this]
theorem idx_some {l : List Str} {x : Str} {k : Nat} (hk : k < l.length) (he : l.getD k noStr = x) (h : ∀ j, j < k → l.getD j noStr ≠ x) : idx l x = k := by
  have : l.findIdx? (fun y => decide (x = y)) = some k := by
    rw [List.findIdx?_eq_some_iff_getElem]
    rw [List.getD_eq_getElem?_getD, List.getElem?_eq_getElem hk] at he
    refine ⟨hk, decide_eq_true he.symm, fun j hj => ?_⟩
    have := h j hj
    rw [List.getD_eq_getElem?_getD, List.getElem?_eq_getElem (by omega)] at this
    simpa using fun e => this e.symm
  rw [idx, this]

set_option maxHeartbeats 1000000 in
theorem index_any (v : Value) (l : List Str) (x : Str) (w : World) (h : StrsAt w v l) (hbd : l.length ≤ 65536) :
    Calls Yba.prog 8 #[v, .string x] w fun e w' => e = .returned (.int .i64 (idx l x)) ∧ w' = w := by
  obtain ⟨a, cap, rfl, hp⟩ := h
  obtain ⟨n, hn⟩ : ∃ n, n = l.length := ⟨_, rfl⟩
  have HP := hide hp
  have HN := hide hn
  rw [← hn] at hbd ⊢
  clear hp hn
  go_enter Yba.func8, Yba.ntmps8
  go_wp2
  go_loopw [8] (fun i wr => ∃ k : Nat, k ≤ n ∧ i = .int .i64 k ∧ wr = w ∧ Hid (∀ j, j < k → l.getD j noStr ≠ x)) (fun i _ => n - (intOf i).toNat)
  case atStart => exact ⟨0, by omega, rfl, rfl, fun j hj => absurd hj (Nat.not_lt_zero j)⟩
  case round =>
    obtain ⟨k, hk, rfl, rfl, hno⟩ := hrel
    by_cases hlt : k < n
    · have hL : k < l.length := by rw [← unhide HN]; exact hlt
      obtain ⟨b, off, ha, hb, hc⟩ := unhide HP (by omega)
      obtain ⟨y, hy⟩ : ∃ y, y = l.getD k noStr := ⟨_, rfl⟩
      have hck := hc k hL
      rw [← hy] at hck
      rw [ha]
      have hi1 : (k : Int) < (n : Int) := by omega
      clear hc hb ha
      by_cases hxy : x = y
      · have e1 : (x.toList == y.toList) = true := by rw [eq_bytes]; exact decide_eq_true hxy
        have HI := hide (idx_some hL (hy.symm.trans hxy.symm) (unhide hno))
        clear hxy hy hno hL
        go_wp2
        go_ret
        exact ⟨by rw [unhide HI]; rfl, rfl⟩
      · have e1 : (x.toList == y.toList) = false := by rw [eq_bytes]; exact decide_eq_false hxy
        have hno' : Hid (∀ j, j < k + 1 → l.getD j noStr ≠ x) := fun j hj => by
          rcases Nat.lt_succ_iff_lt_or_eq.1 hj with h | rfl
          · exact unhide hno j h
          · rw [← hy]; exact fun e => hxy e.symm
        clear hxy hy hno hL
        go_wp2
        go_roundw
        case rel => exact ⟨k + 1, by omega, by go_num, trivial, hno'⟩
        case measure => simp [intOf]; omega
    · have hi1 : ¬ (k : Int) < (n : Int) := by omega
      have HI := hide (idx_none (l := l) (x := x) (fun j hj => unhide hno j (by have := unhide HN; omega)))
      clear hno
      go_wp2
      go_ret
      exact ⟨by rw [unhide HI]; rfl, rfl⟩

theorem contains_any (v : Value) (l : List Str) (x : Str) (w : World) (h : StrsAt w v l) (hbd : l.length ≤ 65536) :
    Calls Yba.prog 9 #[v, .string x] w fun e w' => e = .returned (.bool (decide (0 ≤ idx l x))) ∧ w' = w := by
  have H := hide (index_any v l x w h hbd)
  clear h hbd
  go_enter Yba.func9, Yba.ntmps9
  go_wp2_with (go_at_call 8; refine (unhide H).mono ?_; rintro e w' ⟨rfl, rfl⟩)
  go_ret
  exact ⟨rfl, rfl⟩
end Go.Proofs.Ybulkeine.lawA
