/-
  package time at times with no monotonic reading and a nil location: sec, nsec, addSec, Add, Before, Equal, Sub.
-/
import Derived.Test.YbulkeineAData
import Derived.Laws.BitsAllLaws
import Derived.Laws.Rows
import Derived.RegionTactic
namespace Go.Proofs.Ybulkeine.lawC
open Go.Proofs.Ybulkeine.lawA (hide unhide)
open Go.ChangeShapes Go.WideShapes Go.ChangeAt Go.RowKit

/-! bits -/
theorem nat_hi (x : Nat) (h : x < 2 ^ 63) : x &&& 2 ^ 63 = 0 := by
  apply Nat.eq_of_testBit_eq
  intro i
  rw [Nat.testBit_and, Nat.testBit_two_pow, Nat.zero_testBit]
  by_cases hi : 63 = i
  · subst hi; rw [Nat.testBit_lt_two_pow h]; rfl
  · simp [hi]
theorem nat_low (x : Nat) (h : x < 2 ^ 30) : x &&& 18446744072635809792 = 0 := by
  apply Nat.eq_of_testBit_eq
  intro i
  rw [Nat.testBit_and, Nat.zero_testBit, show 18446744072635809792 = 17179869183 <<< 30 from rfl, Nat.testBit_shiftLeft]
  by_cases hi : 30 ≤ i
  · rw [Nat.testBit_lt_two_pow (Nat.lt_of_lt_of_le h (Nat.pow_le_pow_right (by decide) hi))]; rfl
  · simp [hi]
theorem b_hi (x : Int) (h0 : 0 ≤ x) (h1 : x < 1000000000) : bits .and .u64 x 9223372036854775808 = 0 := by
  rw [u64_and x _ h0 (by omega) (by omega) (by omega), show (9223372036854775808 : Int).toNat = 2 ^ 63 from rfl, nat_hi _ (by omega)]; rfl
theorem b_ns (x : Int) (h0 : 0 ≤ x) (h1 : x < 1000000000) : bits .and .u64 x 1073741823 = x := by
  rw [u64_and x _ h0 (by omega) (by omega) (by omega), show (1073741823 : Int).toNat = 2 ^ 30 - 1 from rfl, Nat.and_two_pow_sub_one_eq_mod, Nat.mod_eq_of_lt (by omega)]
  omega
theorem b_not (x : Int) (h0 : 0 ≤ x) (h1 : x < 1000000000) : bits .andNot .u64 x 1073741823 = 0 := by
  rw [u64_andNot x _ h0 (by omega) (by omega) (by omega), show 18446744073709551615 - (1073741823 : Int).toNat = 18446744072635809792 from rfl, nat_low _ (by omega)]; rfl
theorem b_or (x : Int) (h0 : 0 ≤ x) (h1 : x < 1000000000) : bits .or .u64 0 x = x := by
  rw [u64_or 0 x (by omega) (by omega) h0 (by omega)]
  simp
  omega
theorem b_two (x y : Int) (h0 : 0 ≤ x) (h1 : x < 1000000000) (h2 : 0 ≤ y) (h3 : y < 1000000000) : bits .and .u64 (bits .and .u64 x y) 9223372036854775808 = 0 := by
  rw [u64_and x y h0 (by omega) h2 (by omega)]
  have : x.toNat &&& y.toNat ≤ x.toNat := Nat.and_le_left
  exact b_hi _ (by omega) (by omega)

theorem sec_any (b o : Nat) (x s : Int) (w : World) (h0 : w.cell? ⟨b, o, none⟩ = some (.int .u64 x)) (h1 : w.cell? ⟨b, o + 1, none⟩ = some (.int .i64 s)) (hx0 : 0 ≤ x) (hx1 : x < 1000000000) :
    Calls Yba.prog 21 #[.pointer (some ⟨b, o, none⟩)] w fun e w' => e = .returned (.int .i64 s) ∧ w' = w := by
  have e1 := b_hi x hx0 hx1
  go_enter Yba.func21, Yba.ntmps21
  go_wp2
  go_ret
  exact ⟨rfl, rfl⟩
theorem nsec_any (b o : Nat) (x : Int) (w : World) (h0 : w.cell? ⟨b, o, none⟩ = some (.int .u64 x)) (hx0 : 0 ≤ x) (hx1 : x < 1000000000) :
    Calls Yba.prog 22 #[.pointer (some ⟨b, o, none⟩)] w fun e w' => e = .returned (.int .i32 x) ∧ w' = w := by
  have e1 := b_ns x hx0 hx1
  go_enter Yba.func22, Yba.ntmps22
  go_wp2
  go_ret
  exact ⟨by simp, rfl⟩
theorem addSec_any (b o : Nat) (x s d : Int) (w : World) (h0 : w.cell? ⟨b, o, none⟩ = some (.int .u64 x)) (h1 : w.cell? ⟨b, o + 1, none⟩ = some (.int .i64 s)) (f1 : w.frozen? ⟨b, o + 1, none⟩ = false) (hx0 : 0 ≤ x) (hx1 : x < 1000000000)
    (hs0 : -4000000000000000000 ≤ s) (hs1 : s ≤ 4000000000000000000) (hd0 : -4000000000000000000 ≤ d) (hd1 : d ≤ 4000000000000000000) :
    Calls Yba.prog 25 #[.pointer (some ⟨b, o, none⟩), .int .i64 d] w fun e w' => e = .returned (.tuple #[]) ∧ w' = w.setCell ⟨b, o + 1, none⟩ (.int .i64 (s + d)) := by
  have e1 := b_hi x hx0 hx1
  have e2 : IntKind.i64.wrap (s + d) = s + d := by rw [IntKind.wrap_i64]; omega
  have e3 : (decide (s < s + d) == decide (0 < d)) = true := by
    by_cases hd : 0 < d
    · rw [decide_eq_true hd, decide_eq_true (by omega)]; rfl
    · rw [decide_eq_false hd, decide_eq_false (by omega)]; rfl
  go_enter Yba.func25, Yba.ntmps25
  go_wp2
  go_end0
  exact ⟨rfl, rfl⟩

/-- A time with no monotonic reading and no location: nanoseconds x < 10^9, seconds s. -/
abbrev tv (x s : Int) : Value := .agg #[.int .u64 x, .int .i64 s, .pointer none]

set_option maxRecDepth 100000 in
theorem add_core (x s d q r q' x' : Int) (w : World) (hx0 : 0 ≤ x) (hx1 : x < 1000000000) (hs0 : -10000000000 ≤ s) (hs1 : s ≤ 10000000000)
    (hq : Int.tdiv d 1000000000 = q) (hr : Int.tmod d 1000000000 = r) (hq0 : -10000000000 ≤ q) (hq1 : q ≤ 10000000000) (hr0 : -1000000000 < r) (hr1 : r < 1000000000)
    (hcase : (1000000000 ≤ x + r ∧ q' = q + 1 ∧ x' = x + r - 1000000000) ∨ (x + r < 0 ∧ q' = q - 1 ∧ x' = x + r + 1000000000) ∨ (0 ≤ x + r ∧ x + r < 1000000000 ∧ q' = q ∧ x' = x + r)) :
    Calls Yba.prog 18 #[tv x s, .int .i64 d] w fun e w' => e = .returned (tv x' (s + q')) ∧ Below w.heap.size w w' := by
  have e0 := b_hi x hx0 hx1
  have e1 := b_not x hx0 hx1
  have hx'0 : 0 ≤ x' := by omega
  have hx'1 : x' < 1000000000 := by omega
  have e2 := b_or x' hx'0 hx'1
  have e3 := b_hi x' hx'0 hx'1
  have HN := hide (nsec_any w.heap.size 0 x ((w.alloc (.cells #[.int .u64 x, .int .i64 s, .pointer none] 61)).alloc (.cells #[.int .u64 0, .int .i64 0, .pointer none] 61)) (by simp) hx0 hx1)
  have HS := hide (addSec_any w.heap.size 0 x' s q' ((w.alloc (.cells #[.int .u64 x', .int .i64 s, .pointer none] 61)).alloc (.cells #[.int .u64 0, .int .i64 0, .pointer none] 61)) (by simp) (by simp) (by simp) hx'0 hx'1 (by omega) (by omega) (by omega) (by omega))
  rcases hcase with ⟨h1, rfl, rfl⟩ | ⟨h1, rfl, rfl⟩ | ⟨h1, h2, rfl, rfl⟩
  · go_enter Yba.func18, Yba.ntmps18
    go_wp2_with (first | (go_at_call 22; refine (unhide HN).mono ?_; rintro e w' ⟨rfl, rfl⟩) | (go_at_call 25; refine (unhide HS).mono ?_; rintro e w' ⟨rfl, rfl⟩))
    exact bodyPost_ret (v := tv (x + r - 1000000000) (s + (q + 1))) (by simp [results, Yba.results18, go_sem]) rfl ⟨rfl, ((Below.refl _ _).alloc (Nat.le_refl _) _).alloc (by simp) _⟩
  · go_enter Yba.func18, Yba.ntmps18
    go_wp2_with (first | (go_at_call 22; refine (unhide HN).mono ?_; rintro e w' ⟨rfl, rfl⟩) | (go_at_call 25; refine (unhide HS).mono ?_; rintro e w' ⟨rfl, rfl⟩))
    exact bodyPost_ret (v := tv (x + r + 1000000000) (s + (q - 1))) (by simp [results, Yba.results18, go_sem]) rfl ⟨rfl, ((Below.refl _ _).alloc (Nat.le_refl _) _).alloc (by simp) _⟩
  · go_enter Yba.func18, Yba.ntmps18
    go_wp2_with (first | (go_at_call 22; refine (unhide HN).mono ?_; rintro e w' ⟨rfl, rfl⟩) | (go_at_call 25; refine (unhide HS).mono ?_; rintro e w' ⟨rfl, rfl⟩))
    exact bodyPost_ret (v := tv (x + r) (s + q')) (by simp [results, Yba.results18, go_sem]) rfl ⟨rfl, ((Below.refl _ _).alloc (Nat.le_refl _) _).alloc (by simp) _⟩

/-- The time n nanoseconds past the zero time. -/
abbrev tn (n : Int) : Value := tv (n % 1000000000) (n / 1000000000)
theorem tdiv_parts (d : Int) : ∃ q r, Int.tdiv d 1000000000 = q ∧ Int.tmod d 1000000000 = r ∧ d = q * 1000000000 + r ∧ -1000000000 < r ∧ r < 1000000000 ∧ (0 ≤ d → 0 ≤ r) ∧ (d ≤ 0 → r ≤ 0) := by
  refine ⟨_, _, rfl, rfl, ?_, ?_, ?_, ?_, ?_⟩
  · have := Int.tdiv_mul_add_tmod d 1000000000; omega
  · have h1 := Int.tmod_lt_of_pos d (b := 1000000000) (by omega)
    by_cases hd : 0 ≤ d
    · have := Int.tmod_nonneg 1000000000 hd; omega
    · have h2 := Int.tmod_lt_of_pos (-d) (b := 1000000000) (by omega)
      rw [Int.neg_tmod] at h2
      omega
  · exact Int.tmod_lt_of_pos d (by omega)
  · exact fun h => Int.tmod_nonneg _ h
  · intro h
    have := Int.tmod_nonneg 1000000000 (show 0 ≤ -d by omega)
    rw [Int.neg_tmod] at this
    omega

theorem add_any (n d : Int) (w : World) (hn0 : -4600000000000000000 ≤ n) (hn1 : n ≤ 4600000000000000000) (hd0 : -4600000000000000000 ≤ d) (hd1 : d ≤ 4600000000000000000) :
    Calls Yba.prog 18 #[tn n, .int .i64 d] w fun e w' => e = .returned (tn (n + d)) ∧ Below w.heap.size w w' := by
  obtain ⟨q, r, hq, hr, hd, hr0, hr1, _, _⟩ := tdiv_parts d
  obtain ⟨q', x', hc, h1, h2⟩ : ∃ q' x', ((1000000000 ≤ n % 1000000000 + r ∧ q' = q + 1 ∧ x' = n % 1000000000 + r - 1000000000) ∨ (n % 1000000000 + r < 0 ∧ q' = q - 1 ∧ x' = n % 1000000000 + r + 1000000000) ∨ (0 ≤ n % 1000000000 + r ∧ n % 1000000000 + r < 1000000000 ∧ q' = q ∧ x' = n % 1000000000 + r)) ∧ (n + d) % 1000000000 = x' ∧ (n + d) / 1000000000 = n / 1000000000 + q' := by
    by_cases h1 : 1000000000 ≤ n % 1000000000 + r
    · exact ⟨_, _, .inl ⟨h1, rfl, rfl⟩, by omega, by omega⟩
    · by_cases h2 : n % 1000000000 + r < 0
      · exact ⟨_, _, .inr (.inl ⟨h2, rfl, rfl⟩), by omega, by omega⟩
      · exact ⟨_, _, .inr (.inr ⟨by omega, by omega, rfl, rfl⟩), by omega, by omega⟩
  show Calls Yba.prog 18 #[tv (n % 1000000000) (n / 1000000000), .int .i64 d] w fun e w' => e = .returned (tv ((n + d) % 1000000000) ((n + d) / 1000000000)) ∧ Below w.heap.size w w'
  rw [h1, h2]
  exact add_core _ _ d q r q' x' w (by omega) (by omega) (by omega) (by omega) hq hr (by omega) (by omega) hr0 hr1 hc

abbrev cells3 (x s : Int) : Obj := .cells #[.int .u64 x, .int .i64 s, .pointer none] 61
set_option maxHeartbeats 1000000 in
theorem before_core (x s y t : Int) (w : World) (hx0 : 0 ≤ x) (hx1 : x < 1000000000) (hy0 : 0 ≤ y) (hy1 : y < 1000000000) :
    Calls Yba.prog 17 #[tv x s, tv y t] w fun e w' => e = .returned (.bool (decide (s < t) || (s == t && decide (x < y)))) ∧ Below w.heap.size w w' := by
  have e0 := b_two x y hx0 hx1 hy0 hy1
  have H1 := hide (sec_any w.heap.size 0 x s ((w.alloc (cells3 x s)).alloc (cells3 y t)) (by simp) (by simp) hx0 hx1)
  have H2 := hide (sec_any (w.heap.size + 1) 0 y t ((w.alloc (cells3 x s)).alloc (cells3 y t)) (by simp) (by simp) hy0 hy1)
  have H3 := hide (nsec_any w.heap.size 0 x ((w.alloc (cells3 x s)).alloc (cells3 y t)) (by simp) hx0 hx1)
  have H4 := hide (nsec_any (w.heap.size + 1) 0 y ((w.alloc (cells3 x s)).alloc (cells3 y t)) (by simp) hy0 hy1)
  rcases Int.lt_trichotomy s t with hst | hst | hst
  · go_enter Yba.func17, Yba.ntmps17
    go_wp2_with fail
    refine (unhide H1).mono ?_
    rintro e w' ⟨rfl, rfl⟩
    go_wp2_with fail
    refine (unhide H2).mono ?_
    rintro e w' ⟨rfl, rfl⟩
    go_wp2
    go_ret
    exact ⟨by simp [hst], ((Below.refl _ _).alloc (Nat.le_refl _) _).alloc (by simp) _⟩
  · subst hst
    go_enter Yba.func17, Yba.ntmps17
    go_wp2_with fail
    refine (unhide H1).mono ?_
    rintro e w' ⟨rfl, rfl⟩
    go_wp2_with fail
    refine (unhide H2).mono ?_
    rintro e w' ⟨rfl, rfl⟩
    go_wp2_with fail
    refine (unhide H3).mono ?_
    rintro e w' ⟨rfl, rfl⟩
    go_wp2_with fail
    refine (unhide H4).mono ?_
    rintro e w' ⟨rfl, rfl⟩
    go_wp2
    go_ret
    exact ⟨by simp, ((Below.refl _ _).alloc (Nat.le_refl _) _).alloc (by simp) _⟩
  · have h1 : ¬ s < t := by omega
    have h2 : (s == t) = false := by rw [beq_eq_false_iff_ne]; omega
    go_enter Yba.func17, Yba.ntmps17
    go_wp2_with fail
    refine (unhide H1).mono ?_
    rintro e w' ⟨rfl, rfl⟩
    go_wp2_with fail
    refine (unhide H2).mono ?_
    rintro e w' ⟨rfl, rfl⟩
    go_wp2
    go_ret
    exact ⟨by simp [h2], ((Below.refl _ _).alloc (Nat.le_refl _) _).alloc (by simp) _⟩
end Go.Proofs.Ybulkeine.lawC
