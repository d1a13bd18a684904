/-
  The marks' map, plain: keys of two strings, elements of two times; what the fold over the entries holds.
-/
import Derived.Test.YbulkeineCTim2
import Derived.Maps.OwnSet
import Derived.DeepKeys4
namespace Go.Proofs.Ybulkeine.lawC
open Go.Proofs.Ybulkeine.lawA (hide unhide Str noStr)
open Go.ChangeShapes Go.WideShapes Go.ChangeAt Go.RowKit
open Go.Maps (Keyed IsMap Tidy)

theorem laidOutC : laidOutB Yba.prog = true := by kernel_rfl
theorem row53 : (53 : TypeId) < Yba.prog.types.size := of_decide_eq_true (by kernel_rfl)
theorem wide53 : (match Yba.prog.underlying 53 with | some (.array _ _) | some (.struct _) => true | _ => false) = true := by kernel_rfl
theorem law53 : Keyed Yba.prog 53 := Keyed.of_law (deep_law_laid laidOutC (m := 3) (by omega) row53 (by kernel_rfl) wide53)
theorem key53 : Yba.prog.keyType 53 = true := by kernel_rfl

abbrev kk (a b : Str) : Lit := .string (keyBytes [.string a.data.toList, .string b.data.toList])
abbrev kv (a b : Str) : Value := .agg #[.string a, .string b]
theorem keyLits53 (a b : Str) (ha : a.size ≤ maxLen) (hb : b.size ≤ maxLen) : Yba.prog.keyLits (Yba.prog.types.size + 1) 53 [.string a, .string b] = some [.string a.data.toList, .string b.data.toList] := by
  obtain ⟨d, hd⟩ : ∃ d, Yba.prog.types.size = d + 1 := ⟨_, (Nat.succ_pred_eq_of_pos (Nat.lt_of_le_of_lt (Nat.zero_le _) row53)).symm⟩
  have c53 : Yba.prog.cellsOf 53 = 2 := by kernel_rfl
  have c9 : Yba.prog.cellsOf 9 = 1 := by kernel_rfl
  rw [hd]
  unfold Program.keyLits
  rw [Yba.underlying53]
  simp [c53, c9, Program.keyLits, Yba.underlying9, ha, hb]
theorem key_mk {a b : Str} (ha : a.size ≤ maxLen) (hb : b.size ≤ maxLen) : keyOf Yba.prog 53 (kv a b) = some (kk a b) := by
  have hf : (kv a b).formed Yba.prog 53 = true := by kernel_rfl
  have hc : (kv a b).cells.toList = [.string a, .string b] := rfl
  unfold keyOf
  rw [Yba.underlying53]
  simp only [key53, hf, hc, keyLits53 a b ha hb]
  rfl
theorem key_ne {a b c d : Str} (ha : a.size ≤ maxLen) (hb : b.size ≤ maxLen) (hc : c.size ≤ maxLen) (hd : d.size ≤ maxLen) (h : ¬ (a = c ∧ b = d)) : kk a b ≠ kk c d := fun e => by
  have := law53.inj (key_mk ha hb) (by rw [e]; exact key_mk hc hd)
  simp only [Value.agg.injEq, Array.mk.injEq, List.cons.injEq, Value.string.injEq, and_true] at this
  exact h this

/-- One entry, as the law is handed it. -/
structure Ent where
  own : Str
  cont : Str
  a1 : Int
  a2 : Int
  u1 : Int
  u2 : Int
def Ent.atN (e : Ent) : Int := e.a1 * 1000000000 + e.a2
def Ent.unN (e : Ent) : Int := e.u1 * 1000000000 + e.u2
def Ent.ok (e : Ent) : Prop := e.own.size ≤ maxLen ∧ e.cont.size ≤ maxLen ∧ (-2147483648 ≤ e.a1 ∧ e.a1 ≤ 2147483647) ∧ (-2147483648 ≤ e.a2 ∧ e.a2 ≤ 2147483647) ∧ (-2147483648 ≤ e.u1 ∧ e.u1 ≤ 2147483647) ∧ (-2147483648 ≤ e.u2 ∧ e.u2 ≤ 2147483647)
def Ent.is (e : Ent) (a b : Str) : Prop := e.own = a ∧ e.cont = b

/-- A filed mark in memory: two times. -/
abbrev fv (n m : Int) : Value := .agg #[.int .u64 (n % 1000000000), .int .i64 (n / 1000000000), .pointer none, .int .u64 (m % 1000000000), .int .i64 (m / 1000000000), .pointer none]
/-- How an element reads. -/
def markR (v : Value) : Option (DataW Unit × List MemPlace) :=
  match v with
  | .agg ⟨[.int .u64 a, .int .i64 b, .pointer none, .int .u64 c, .int .i64 d, .pointer none]⟩ => some (.agg [.lit (.int .u64 a), .lit (.int .i64 b), .lit (.int .u64 c), .lit (.int .i64 d)], [])
  | _ => none
def fd (n m : Int) : DataW Unit := .agg [.lit (.int .u64 (n % 1000000000)), .lit (.int .i64 (n / 1000000000)), .lit (.int .u64 (m % 1000000000)), .lit (.int .i64 (m / 1000000000))]
theorem markR_mk (n m : Int) : markR (fv n m) = some (fd n m, []) := rfl
theorem markR_inv {v : Value} {n m : Int} {ps : List MemPlace} (h : markR v = some (fd n m, ps)) : v = fv n m := by
  unfold markR at h
  split at h
  · rename_i a b c d
    simp only [Option.some.injEq, Prod.mk.injEq, fd, DataW.agg.injEq, List.cons.injEq, DataW.lit.injEq, Lit.int.injEq, true_and, and_true] at h
    obtain ⟨⟨rfl, rfl, rfl, rfl⟩, _⟩ := h
    rfl
  · cases h

/-- What the fold over the entries leaves. -/
def Dof (E : List Ent) : DataW Unit := E.foldl (fun D e => D.put (kk e.own e.cont) (fd e.atN e.unN)) (.map [])
theorem Dof_snoc (E : List Ent) (e : Ent) : Dof (E ++ [e]) = (Dof E).put (kk e.own e.cont) (fd e.atN e.unN) := by simp [Dof, List.foldl_append]
theorem Dof_isMap (E : List Ent) : IsMap (Dof E) := by
  have : ∀ (l : List Ent) (D : DataW Unit), IsMap D → IsMap (l.foldl (fun D e => D.put (kk e.own e.cont) (fd e.atN e.unN)) D) := by
    intro l
    induction l with
    | nil => exact fun D h => h
    | cons e l ih => exact fun D h => ih _ (h.put _ _)
  exact this E _ Go.Maps.isMap_empty

open Classical in
/-- The last entry under a key. -/
noncomputable def lastOf (E : List Ent) (a b : Str) : Option Ent := E.foldl (fun acc e => if e.is a b then some e else acc) none
open Classical in
theorem lastOf_snoc (E : List Ent) (e : Ent) (a b : Str) : lastOf (E ++ [e]) a b = if e.is a b then some e else lastOf E a b := by simp [lastOf, List.foldl_append]

/-- What a look-up in the fold finds. -/
theorem Dof_look (E : List Ent) (hE : ∀ e ∈ E, e.ok) (a b : Str) (ha : a.size ≤ maxLen) (hb : b.size ≤ maxLen) :
    (lastOf E a b = none ∧ Maps.has (Dof E) (kk a b) = false ∧ ∀ z, (Dof E).atKey (kk a b) z = z) ∨ ∃ e, lastOf E a b = some e ∧ e ∈ E ∧ Maps.has (Dof E) (kk a b) = true ∧ ∀ z, (Dof E).atKey (kk a b) z = fd e.atN e.unN := by
  have main : ∀ (R : List Ent), (∀ e ∈ R.reverse, e.ok) → (lastOf R.reverse a b = none ∧ Maps.has (Dof R.reverse) (kk a b) = false ∧ ∀ z, (Dof R.reverse).atKey (kk a b) z = z) ∨ ∃ e, lastOf R.reverse a b = some e ∧ e ∈ R.reverse ∧ Maps.has (Dof R.reverse) (kk a b) = true ∧ ∀ z, (Dof R.reverse).atKey (kk a b) z = fd e.atN e.unN := by
    intro R
    induction R with
    | nil => exact fun _ => .inl ⟨rfl, rfl, fun z => rfl⟩
    | cons e R ih =>
      intro hR
      rw [List.reverse_cons] at hR ⊢
      have he : e.ok := hR e (by simp)
      rw [lastOf_snoc, Dof_snoc]
      by_cases h : e.is a b
      · right
        obtain ⟨h1, h2⟩ := h
        subst h1
        subst h2
        exact ⟨e, if_pos ⟨rfl, rfl⟩, by simp, Go.Maps.has_put_same (Dof_isMap _) (law53.key (key_mk he.1 he.2.1)) _, fun z => Go.Maps.atKey_put_same (Dof_isMap _) (law53.key (key_mk he.1 he.2.1)) _ z⟩
      · have hne : kk a b ≠ kk e.own e.cont := key_ne ha hb he.1 he.2.1 (fun q => h ⟨q.1.symm, q.2.symm⟩)
        rw [if_neg h]
        rcases ih (fun x hx => hR x (by simp at hx ⊢; exact .inl hx)) with ⟨h1, h2, h3⟩ | ⟨x, h1, h2, h3, h4⟩
        · exact .inl ⟨h1, (Go.Maps.has_put_other hne _).trans h2, fun z => (Go.Maps.atKey_put_other hne _ z).trans (h3 z)⟩
        · exact .inr ⟨x, h1, by simp at h2 ⊢; exact .inl h2, (Go.Maps.has_put_other hne _).trans h3, fun z => (Go.Maps.atKey_put_other hne _ z).trans (h4 z)⟩
  have := main E.reverse (by rw [List.reverse_reverse]; exact hE)
  rw [List.reverse_reverse] at this
  exact this

/-- The same key with the same datum laid twice: once. -/
theorem filter_insert {x : Lit × DataW Unit} {f : Lit × DataW Unit → Bool} (hx : f x = false) : ∀ l : List (Lit × DataW Unit), (DataW.insert x l).filter f = l.filter f
  | [] => by simp [DataW.insert, hx]
  | y :: r => by
    unfold DataW.insert
    split
    · rw [List.filter_cons, hx]; rfl
    · rw [List.filter_cons, List.filter_cons, filter_insert hx r]
theorem put_twice {D : DataW Unit} (hD : IsMap D) {k : Lit} (hk : WideAt.IsKeyLit k) (d : DataW Unit) : (D.put k d).put k d = D.put k d := by
  obtain ⟨es, rfl⟩ := hD
  show DataW.map _ = DataW.map _
  congr 1
  have hs : (!(k, d).1.sameKey k) = false := by simp [WideAt.sameKey_self hk]
  rw [filter_insert (f := fun p => !p.1.sameKey k) hs, List.filter_filter]
  simp
theorem own_tight {w : World} {B n : Nat} {D : DataW Unit} (h : w.ownsMap Yba.prog 53 markR B n D) : w.ownsMap Yba.prog 53 markR B (Maps.size D) D := by
  obtain ⟨es, clock, hb, F, _, rfl⟩ := h
  exact ⟨es, clock, hb, F, by simp [Maps.size, length_sorted], rfl⟩
end Go.Proofs.Ybulkeine.lawC
