import Derived.Test.YbulkeimqCPlain
import Derived.Laws.BitsAllLaws
namespace Go.Proofs.Ybulkeimq.lawS6737CWhole

/-! The plain law: bit by bit comes to the packed bytes. No Go in sight. -/
theorem and_one (q : Int) (h0 : 0 ≤ q) (h1 : q ≤ 65535) : bits BinOp.and IntKind.u16 q 1 = q % 2 := by
  rw [u16_and q 1 h0 (by omega) (by omega) (by omega)]
  rw [show (1 : Int).toNat = 1 from rfl, nat_mask1]
  omega
theorem or_join (i : Nat) (a b : Int) (h0 : 0 ≤ a) (h1 : a < 256) (h2 : 0 ≤ b) (h3 : b < 256) (ha : a.toNat % 2 ^ i = 0) (hb : b.toNat < 2 ^ i) : bits BinOp.or IntKind.u8 a b = a + b := by
  rw [u8_or a b h0 h1 h2 h3, nat_join i _ _ ha hb]
  omega

/-- What a round lays over the byte: its bit at place P. -/
def lay (q : Int) (P : Nat) : Int := bits BinOp.and IntKind.u16 q 1 % 256 * 2 ^ P % 256
theorem lay0 (x q : Int) (hq : 0 ≤ q ∧ q ≤ 65535) (hx : 0 ≤ x) (hx1 : x + 1 ≤ 255) (hm : x % 2 = 0) : bits BinOp.or IntKind.u8 x (lay q 0) = x + q % 2 * 1 := by
  have e : lay q 0 = q % 2 * 1 := by
    rw [lay, and_one q hq.1 hq.2]
    simp only [Int.reducePow]
    omega
  rw [e]
  exact or_join 1 _ _ hx (by omega) (by omega) (by omega) (by simp only [Nat.reducePow]; omega) (by simp only [Nat.reducePow]; omega)
theorem lay1 (x q : Int) (hq : 0 ≤ q ∧ q ≤ 65535) (hx : 0 ≤ x) (hx1 : x + 2 ≤ 255) (hm : x % 4 = 0) : bits BinOp.or IntKind.u8 x (lay q 1) = x + q % 2 * 2 := by
  have e : lay q 1 = q % 2 * 2 := by
    rw [lay, and_one q hq.1 hq.2]
    simp only [Int.reducePow]
    omega
  rw [e]
  exact or_join 2 _ _ hx (by omega) (by omega) (by omega) (by simp only [Nat.reducePow]; omega) (by simp only [Nat.reducePow]; omega)
theorem lay2 (x q : Int) (hq : 0 ≤ q ∧ q ≤ 65535) (hx : 0 ≤ x) (hx1 : x + 4 ≤ 255) (hm : x % 8 = 0) : bits BinOp.or IntKind.u8 x (lay q 2) = x + q % 2 * 4 := by
  have e : lay q 2 = q % 2 * 4 := by
    rw [lay, and_one q hq.1 hq.2]
    simp only [Int.reducePow]
    omega
  rw [e]
  exact or_join 3 _ _ hx (by omega) (by omega) (by omega) (by simp only [Nat.reducePow]; omega) (by simp only [Nat.reducePow]; omega)
theorem lay3 (x q : Int) (hq : 0 ≤ q ∧ q ≤ 65535) (hx : 0 ≤ x) (hx1 : x + 8 ≤ 255) (hm : x % 16 = 0) : bits BinOp.or IntKind.u8 x (lay q 3) = x + q % 2 * 8 := by
  have e : lay q 3 = q % 2 * 8 := by
    rw [lay, and_one q hq.1 hq.2]
    simp only [Int.reducePow]
    omega
  rw [e]
  exact or_join 4 _ _ hx (by omega) (by omega) (by omega) (by simp only [Nat.reducePow]; omega) (by simp only [Nat.reducePow]; omega)
theorem lay4 (x q : Int) (hq : 0 ≤ q ∧ q ≤ 65535) (hx : 0 ≤ x) (hx1 : x + 16 ≤ 255) (hm : x % 32 = 0) : bits BinOp.or IntKind.u8 x (lay q 4) = x + q % 2 * 16 := by
  have e : lay q 4 = q % 2 * 16 := by
    rw [lay, and_one q hq.1 hq.2]
    simp only [Int.reducePow]
    omega
  rw [e]
  exact or_join 5 _ _ hx (by omega) (by omega) (by omega) (by simp only [Nat.reducePow]; omega) (by simp only [Nat.reducePow]; omega)
theorem lay5 (x q : Int) (hq : 0 ≤ q ∧ q ≤ 65535) (hx : 0 ≤ x) (hx1 : x + 32 ≤ 255) (hm : x % 64 = 0) : bits BinOp.or IntKind.u8 x (lay q 5) = x + q % 2 * 32 := by
  have e : lay q 5 = q % 2 * 32 := by
    rw [lay, and_one q hq.1 hq.2]
    simp only [Int.reducePow]
    omega
  rw [e]
  exact or_join 6 _ _ hx (by omega) (by omega) (by omega) (by simp only [Nat.reducePow]; omega) (by simp only [Nat.reducePow]; omega)
theorem lay6 (x q : Int) (hq : 0 ≤ q ∧ q ≤ 65535) (hx : 0 ≤ x) (hx1 : x + 64 ≤ 255) (hm : x % 128 = 0) : bits BinOp.or IntKind.u8 x (lay q 6) = x + q % 2 * 64 := by
  have e : lay q 6 = q % 2 * 64 := by
    rw [lay, and_one q hq.1 hq.2]
    simp only [Int.reducePow]
    omega
  rw [e]
  exact or_join 7 _ _ hx (by omega) (by omega) (by omega) (by simp only [Nat.reducePow]; omega) (by simp only [Nat.reducePow]; omega)
theorem lay7 (x q : Int) (hq : 0 ≤ q ∧ q ≤ 65535) (hx : 0 ≤ x) (hx1 : x + 128 ≤ 255) (hm : x % 256 = 0) : bits BinOp.or IntKind.u8 x (lay q 7) = x + q % 2 * 128 := by
  have e : lay q 7 = q % 2 * 128 := by
    rw [lay, and_one q hq.1 hq.2]
    simp only [Int.reducePow]
    omega
  rw [e]
  exact or_join 8 _ _ hx (by omega) (by omega) (by omega) (by simp only [Nat.reducePow]; omega) (by simp only [Nat.reducePow]; omega)

theorem step1 (v : Int) (k m p : Nat) (l : List Int) (a c : Int) (hp : (12 * k + m) / 8 = p) (hl : p + 1 < l.length) :
    bitStep v k m ((l.set p a).set (p + 1) c) = (l.set p (bits BinOp.or IntKind.u8 a (lay (v / 2 ^ (11 - m)) (7 - (12 * k + m) % 8)))).set (p + 1) c := by
  unfold bitStep
  rw [hp]
  have e : ((l.set p a).set (p + 1) c).getD p 0 = a := by
    rw [List.getD_eq_getElem?_getD, List.getElem?_set_ne (by omega), List.getElem?_set_self (by omega)]; rfl
  rw [e, List.set_comm _ _ (by omega), List.set_set]
  rfl
theorem step2 (v : Int) (k m p : Nat) (l : List Int) (a c : Int) (hp : (12 * k + m) / 8 = p + 1) (hl : p + 1 < l.length) :
    bitStep v k m ((l.set p a).set (p + 1) c) = (l.set p a).set (p + 1) (bits BinOp.or IntKind.u8 c (lay (v / 2 ^ (11 - m)) (7 - (12 * k + m) % 8))) := by
  unfold bitStep
  rw [hp]
  have e : ((l.set p a).set (p + 1) c).getD (p + 1) 0 = c := by
    rw [List.getD_eq_getElem?_getD, List.getElem?_set_self (by simp; omega)]; rfl
  rw [e, List.set_set]
  rfl
theorem even_bits (v : Int) (hv0 : 0 ≤ v) (hv1 : v ≤ 65535) (i : Nat) (l : List Int) (h0 : l.getD (3 * i) 0 = 0) (h1 : l.getD (3 * i + 1) 0 = 0) (hl : 3 * i + 1 < l.length) :
    bitsTo v (2 * i) l 12 = (l.set (3 * i) (v / 16 % 256 * 1)).set (3 * i + 1) (v / 1 % 16 * 16) := by
  have s0 : bitsTo v (2 * i) l 0 = (l.set (3 * i) (0)).set (3 * i + 1) 0 := by
    have e1 : l.set (3 * i) (l.getD (3 * i) 0) = l := by
      rw [List.getD_eq_getElem?_getD, List.getElem?_eq_getElem (by omega)]; exact List.set_getElem_self _
    rw [h0] at e1
    rw [bitsTo, e1]
    have e2 : l.set (3 * i + 1) (l.getD (3 * i + 1) 0) = l := by
      rw [List.getD_eq_getElem?_getD, List.getElem?_eq_getElem (by omega)]; exact List.set_getElem_self _
    rw [h1] at e2
    exact e2.symm
  have s1 : bitsTo v (2 * i) l 1 = (l.set (3 * i) (v / 2048 % 2 * 128)).set (3 * i + 1) 0 := by
    rw [bitsTo, s0, step1 v (2 * i) 0 (3 * i) l _ _ (by omega) hl, show 7 - (12 * (2 * i) + 0) % 8 = 7 by omega, show v / 2 ^ (11 - 0) = v / 2048 from rfl, lay7 _ _ (by omega) (by omega) (by omega) (by omega), show 0 + v / 2048 % 2 * 128 = v / 2048 % 2 * 128 by omega]
  have s2 : bitsTo v (2 * i) l 2 = (l.set (3 * i) (v / 1024 % 4 * 64)).set (3 * i + 1) 0 := by
    rw [bitsTo, s1, step1 v (2 * i) 1 (3 * i) l _ _ (by omega) hl, show 7 - (12 * (2 * i) + 1) % 8 = 6 by omega, show v / 2 ^ (11 - 1) = v / 1024 from rfl, lay6 _ _ (by omega) (by omega) (by omega) (by omega), show v / 2048 % 2 * 128 + v / 1024 % 2 * 64 = v / 1024 % 4 * 64 by omega]
  have s3 : bitsTo v (2 * i) l 3 = (l.set (3 * i) (v / 512 % 8 * 32)).set (3 * i + 1) 0 := by
    rw [bitsTo, s2, step1 v (2 * i) 2 (3 * i) l _ _ (by omega) hl, show 7 - (12 * (2 * i) + 2) % 8 = 5 by omega, show v / 2 ^ (11 - 2) = v / 512 from rfl, lay5 _ _ (by omega) (by omega) (by omega) (by omega), show v / 1024 % 4 * 64 + v / 512 % 2 * 32 = v / 512 % 8 * 32 by omega]
  have s4 : bitsTo v (2 * i) l 4 = (l.set (3 * i) (v / 256 % 16 * 16)).set (3 * i + 1) 0 := by
    rw [bitsTo, s3, step1 v (2 * i) 3 (3 * i) l _ _ (by omega) hl, show 7 - (12 * (2 * i) + 3) % 8 = 4 by omega, show v / 2 ^ (11 - 3) = v / 256 from rfl, lay4 _ _ (by omega) (by omega) (by omega) (by omega), show v / 512 % 8 * 32 + v / 256 % 2 * 16 = v / 256 % 16 * 16 by omega]
  have s5 : bitsTo v (2 * i) l 5 = (l.set (3 * i) (v / 128 % 32 * 8)).set (3 * i + 1) 0 := by
    rw [bitsTo, s4, step1 v (2 * i) 4 (3 * i) l _ _ (by omega) hl, show 7 - (12 * (2 * i) + 4) % 8 = 3 by omega, show v / 2 ^ (11 - 4) = v / 128 from rfl, lay3 _ _ (by omega) (by omega) (by omega) (by omega), show v / 256 % 16 * 16 + v / 128 % 2 * 8 = v / 128 % 32 * 8 by omega]
  have s6 : bitsTo v (2 * i) l 6 = (l.set (3 * i) (v / 64 % 64 * 4)).set (3 * i + 1) 0 := by
    rw [bitsTo, s5, step1 v (2 * i) 5 (3 * i) l _ _ (by omega) hl, show 7 - (12 * (2 * i) + 5) % 8 = 2 by omega, show v / 2 ^ (11 - 5) = v / 64 from rfl, lay2 _ _ (by omega) (by omega) (by omega) (by omega), show v / 128 % 32 * 8 + v / 64 % 2 * 4 = v / 64 % 64 * 4 by omega]
  have s7 : bitsTo v (2 * i) l 7 = (l.set (3 * i) (v / 32 % 128 * 2)).set (3 * i + 1) 0 := by
    rw [bitsTo, s6, step1 v (2 * i) 6 (3 * i) l _ _ (by omega) hl, show 7 - (12 * (2 * i) + 6) % 8 = 1 by omega, show v / 2 ^ (11 - 6) = v / 32 from rfl, lay1 _ _ (by omega) (by omega) (by omega) (by omega), show v / 64 % 64 * 4 + v / 32 % 2 * 2 = v / 32 % 128 * 2 by omega]
  have s8 : bitsTo v (2 * i) l 8 = (l.set (3 * i) (v / 16 % 256 * 1)).set (3 * i + 1) 0 := by
    rw [bitsTo, s7, step1 v (2 * i) 7 (3 * i) l _ _ (by omega) hl, show 7 - (12 * (2 * i) + 7) % 8 = 0 by omega, show v / 2 ^ (11 - 7) = v / 16 from rfl, lay0 _ _ (by omega) (by omega) (by omega) (by omega), show v / 32 % 128 * 2 + v / 16 % 2 * 1 = v / 16 % 256 * 1 by omega]
  have s9 : bitsTo v (2 * i) l 9 = (l.set (3 * i) (v / 16 % 256 * 1)).set (3 * i + 1) (v / 8 % 2 * 128) := by
    rw [bitsTo, s8, step2 v (2 * i) 8 (3 * i) l _ _ (by omega) hl, show 7 - (12 * (2 * i) + 8) % 8 = 7 by omega, show v / 2 ^ (11 - 8) = v / 8 from rfl, lay7 _ _ (by omega) (by omega) (by omega) (by omega), show 0 + v / 8 % 2 * 128 = v / 8 % 2 * 128 by omega]
  have s10 : bitsTo v (2 * i) l 10 = (l.set (3 * i) (v / 16 % 256 * 1)).set (3 * i + 1) (v / 4 % 4 * 64) := by
    rw [bitsTo, s9, step2 v (2 * i) 9 (3 * i) l _ _ (by omega) hl, show 7 - (12 * (2 * i) + 9) % 8 = 6 by omega, show v / 2 ^ (11 - 9) = v / 4 from rfl, lay6 _ _ (by omega) (by omega) (by omega) (by omega), show v / 8 % 2 * 128 + v / 4 % 2 * 64 = v / 4 % 4 * 64 by omega]
  have s11 : bitsTo v (2 * i) l 11 = (l.set (3 * i) (v / 16 % 256 * 1)).set (3 * i + 1) (v / 2 % 8 * 32) := by
    rw [bitsTo, s10, step2 v (2 * i) 10 (3 * i) l _ _ (by omega) hl, show 7 - (12 * (2 * i) + 10) % 8 = 5 by omega, show v / 2 ^ (11 - 10) = v / 2 from rfl, lay5 _ _ (by omega) (by omega) (by omega) (by omega), show v / 4 % 4 * 64 + v / 2 % 2 * 32 = v / 2 % 8 * 32 by omega]
  have s12 : bitsTo v (2 * i) l 12 = (l.set (3 * i) (v / 16 % 256 * 1)).set (3 * i + 1) (v / 1 % 16 * 16) := by
    rw [bitsTo, s11, step2 v (2 * i) 11 (3 * i) l _ _ (by omega) hl, show 7 - (12 * (2 * i) + 11) % 8 = 4 by omega, show v / 2 ^ (11 - 11) = v / 1 from rfl, lay4 _ _ (by omega) (by omega) (by omega) (by omega), show v / 2 % 8 * 32 + v / 1 % 2 * 16 = v / 1 % 16 * 16 by omega]
  exact s12
theorem odd_bits (v : Int) (hv0 : 0 ≤ v) (hv1 : v ≤ 65535) (i : Nat) (l : List Int) (h : Int) (hh0 : 0 ≤ h) (hh1 : h ≤ 240) (hh2 : h % 16 = 0) (h0 : l.getD (3 * i + 1) 0 = h) (h1 : l.getD (3 * i + 1 + 1) 0 = 0) (hl : 3 * i + 1 + 1 < l.length) :
    bitsTo v (2 * i + 1) l 12 = (l.set (3 * i + 1) (h + v / 256 % 16 * 1)).set (3 * i + 1 + 1) (v / 1 % 256 * 1) := by
  have s0 : bitsTo v (2 * i + 1) l 0 = (l.set (3 * i + 1) (h)).set (3 * i + 1 + 1) 0 := by
    have e1 : l.set (3 * i + 1) (l.getD (3 * i + 1) 0) = l := by
      rw [List.getD_eq_getElem?_getD, List.getElem?_eq_getElem (by omega)]; exact List.set_getElem_self _
    rw [h0] at e1
    rw [bitsTo, e1]
    have e2 : l.set (3 * i + 1 + 1) (l.getD (3 * i + 1 + 1) 0) = l := by
      rw [List.getD_eq_getElem?_getD, List.getElem?_eq_getElem (by omega)]; exact List.set_getElem_self _
    rw [h1] at e2
    exact e2.symm
  have s1 : bitsTo v (2 * i + 1) l 1 = (l.set (3 * i + 1) (h + v / 2048 % 2 * 8)).set (3 * i + 1 + 1) 0 := by
    rw [bitsTo, s0, step1 v (2 * i + 1) 0 (3 * i + 1) l _ _ (by omega) hl, show 7 - (12 * (2 * i + 1) + 0) % 8 = 3 by omega, show v / 2 ^ (11 - 0) = v / 2048 from rfl, lay3 _ _ (by omega) (by omega) (by omega) (by omega), show h + v / 2048 % 2 * 8 = h + v / 2048 % 2 * 8 by omega]
  have s2 : bitsTo v (2 * i + 1) l 2 = (l.set (3 * i + 1) (h + v / 1024 % 4 * 4)).set (3 * i + 1 + 1) 0 := by
    rw [bitsTo, s1, step1 v (2 * i + 1) 1 (3 * i + 1) l _ _ (by omega) hl, show 7 - (12 * (2 * i + 1) + 1) % 8 = 2 by omega, show v / 2 ^ (11 - 1) = v / 1024 from rfl, lay2 _ _ (by omega) (by omega) (by omega) (by omega), show h + v / 2048 % 2 * 8 + v / 1024 % 2 * 4 = h + v / 1024 % 4 * 4 by omega]
  have s3 : bitsTo v (2 * i + 1) l 3 = (l.set (3 * i + 1) (h + v / 512 % 8 * 2)).set (3 * i + 1 + 1) 0 := by
    rw [bitsTo, s2, step1 v (2 * i + 1) 2 (3 * i + 1) l _ _ (by omega) hl, show 7 - (12 * (2 * i + 1) + 2) % 8 = 1 by omega, show v / 2 ^ (11 - 2) = v / 512 from rfl, lay1 _ _ (by omega) (by omega) (by omega) (by omega), show h + v / 1024 % 4 * 4 + v / 512 % 2 * 2 = h + v / 512 % 8 * 2 by omega]
  have s4 : bitsTo v (2 * i + 1) l 4 = (l.set (3 * i + 1) (h + v / 256 % 16 * 1)).set (3 * i + 1 + 1) 0 := by
    rw [bitsTo, s3, step1 v (2 * i + 1) 3 (3 * i + 1) l _ _ (by omega) hl, show 7 - (12 * (2 * i + 1) + 3) % 8 = 0 by omega, show v / 2 ^ (11 - 3) = v / 256 from rfl, lay0 _ _ (by omega) (by omega) (by omega) (by omega), show h + v / 512 % 8 * 2 + v / 256 % 2 * 1 = h + v / 256 % 16 * 1 by omega]
  have s5 : bitsTo v (2 * i + 1) l 5 = (l.set (3 * i + 1) (h + v / 256 % 16 * 1)).set (3 * i + 1 + 1) (v / 128 % 2 * 128) := by
    rw [bitsTo, s4, step2 v (2 * i + 1) 4 (3 * i + 1) l _ _ (by omega) hl, show 7 - (12 * (2 * i + 1) + 4) % 8 = 7 by omega, show v / 2 ^ (11 - 4) = v / 128 from rfl, lay7 _ _ (by omega) (by omega) (by omega) (by omega), show 0 + v / 128 % 2 * 128 = v / 128 % 2 * 128 by omega]
  have s6 : bitsTo v (2 * i + 1) l 6 = (l.set (3 * i + 1) (h + v / 256 % 16 * 1)).set (3 * i + 1 + 1) (v / 64 % 4 * 64) := by
    rw [bitsTo, s5, step2 v (2 * i + 1) 5 (3 * i + 1) l _ _ (by omega) hl, show 7 - (12 * (2 * i + 1) + 5) % 8 = 6 by omega, show v / 2 ^ (11 - 5) = v / 64 from rfl, lay6 _ _ (by omega) (by omega) (by omega) (by omega), show v / 128 % 2 * 128 + v / 64 % 2 * 64 = v / 64 % 4 * 64 by omega]
  have s7 : bitsTo v (2 * i + 1) l 7 = (l.set (3 * i + 1) (h + v / 256 % 16 * 1)).set (3 * i + 1 + 1) (v / 32 % 8 * 32) := by
    rw [bitsTo, s6, step2 v (2 * i + 1) 6 (3 * i + 1) l _ _ (by omega) hl, show 7 - (12 * (2 * i + 1) + 6) % 8 = 5 by omega, show v / 2 ^ (11 - 6) = v / 32 from rfl, lay5 _ _ (by omega) (by omega) (by omega) (by omega), show v / 64 % 4 * 64 + v / 32 % 2 * 32 = v / 32 % 8 * 32 by omega]
  have s8 : bitsTo v (2 * i + 1) l 8 = (l.set (3 * i + 1) (h + v / 256 % 16 * 1)).set (3 * i + 1 + 1) (v / 16 % 16 * 16) := by
    rw [bitsTo, s7, step2 v (2 * i + 1) 7 (3 * i + 1) l _ _ (by omega) hl, show 7 - (12 * (2 * i + 1) + 7) % 8 = 4 by omega, show v / 2 ^ (11 - 7) = v / 16 from rfl, lay4 _ _ (by omega) (by omega) (by omega) (by omega), show v / 32 % 8 * 32 + v / 16 % 2 * 16 = v / 16 % 16 * 16 by omega]
  have s9 : bitsTo v (2 * i + 1) l 9 = (l.set (3 * i + 1) (h + v / 256 % 16 * 1)).set (3 * i + 1 + 1) (v / 8 % 32 * 8) := by
    rw [bitsTo, s8, step2 v (2 * i + 1) 8 (3 * i + 1) l _ _ (by omega) hl, show 7 - (12 * (2 * i + 1) + 8) % 8 = 3 by omega, show v / 2 ^ (11 - 8) = v / 8 from rfl, lay3 _ _ (by omega) (by omega) (by omega) (by omega), show v / 16 % 16 * 16 + v / 8 % 2 * 8 = v / 8 % 32 * 8 by omega]
  have s10 : bitsTo v (2 * i + 1) l 10 = (l.set (3 * i + 1) (h + v / 256 % 16 * 1)).set (3 * i + 1 + 1) (v / 4 % 64 * 4) := by
    rw [bitsTo, s9, step2 v (2 * i + 1) 9 (3 * i + 1) l _ _ (by omega) hl, show 7 - (12 * (2 * i + 1) + 9) % 8 = 2 by omega, show v / 2 ^ (11 - 9) = v / 4 from rfl, lay2 _ _ (by omega) (by omega) (by omega) (by omega), show v / 8 % 32 * 8 + v / 4 % 2 * 4 = v / 4 % 64 * 4 by omega]
  have s11 : bitsTo v (2 * i + 1) l 11 = (l.set (3 * i + 1) (h + v / 256 % 16 * 1)).set (3 * i + 1 + 1) (v / 2 % 128 * 2) := by
    rw [bitsTo, s10, step2 v (2 * i + 1) 10 (3 * i + 1) l _ _ (by omega) hl, show 7 - (12 * (2 * i + 1) + 10) % 8 = 1 by omega, show v / 2 ^ (11 - 10) = v / 2 from rfl, lay1 _ _ (by omega) (by omega) (by omega) (by omega), show v / 4 % 64 * 4 + v / 2 % 2 * 2 = v / 2 % 128 * 2 by omega]
  have s12 : bitsTo v (2 * i + 1) l 12 = (l.set (3 * i + 1) (h + v / 256 % 16 * 1)).set (3 * i + 1 + 1) (v / 1 % 256 * 1) := by
    rw [bitsTo, s11, step2 v (2 * i + 1) 11 (3 * i + 1) l _ _ (by omega) hl, show 7 - (12 * (2 * i + 1) + 11) % 8 = 0 by omega, show v / 2 ^ (11 - 11) = v / 1 from rfl, lay0 _ _ (by omega) (by omega) (by omega) (by omega), show v / 2 % 128 * 2 + v / 1 % 2 * 1 = v / 1 % 256 * 1 by omega]
  exact s12

theorem mid (h n M : Int) (h0 : 0 ≤ h) (h1 : h ≤ 240) (h2 : h % 16 = 0) (n0 : 0 ≤ n) (n1 : n ≤ 15) (m0 : 0 ≤ M) (m1 : M ≤ 15) :
    bits BinOp.or IntKind.u8 (h + n) (M * 16) = bits BinOp.or IntKind.u8 h (M * 16 + n) := by
  rw [u8_or _ _ (by omega) (by omega) (by omega) (by omega), u8_or _ _ (by omega) (by omega) (by omega) (by omega)]
  have e1 : (h + n).toNat = h.toNat ||| n.toNat := by
    rw [nat_join 4 h.toNat n.toNat (by simp only [Nat.reducePow]; omega) (by simp only [Nat.reducePow]; omega)]
    omega
  have e2 : (M * 16 + n).toNat = (M * 16).toNat ||| n.toNat := by
    rw [nat_join 4 (M * 16).toNat n.toNat (by simp only [Nat.reducePow]; omega) (by simp only [Nat.reducePow]; omega)]
    omega
  rw [e1, e2, Nat.or_assoc, Nat.or_comm n.toNat]

theorem set_two (P R : List Int) (a b x y : Int) (p : Nat) (hp : P.length = p) : ((P ++ a :: b :: R).set p x).set (p + 1) y = P ++ x :: y :: R := by
  subst hp
  rw [List.set_append_right _ _ (Nat.le_refl _), Nat.sub_self, List.set_cons_zero, List.set_append_right _ _ (by omega), Nat.add_sub_cancel_left]
  rfl
theorem getD_at (P R : List Int) (a : Int) (p : Nat) (hp : P.length = p) : (P ++ a :: R).getD p 0 = a := by
  subst hp
  simp

/-- An element at an even place. -/
theorem even_step (v : Int) (hv0 : 0 ≤ v) (hv1 : v ≤ 65535) (i r : Nat) (P : List Int) (hP : P.length = 3 * i) :
    fin v (2 * i) (bitsTo v (2 * i) (P ++ 0 :: 0 :: List.replicate r 0) 12) = P ++ (v / 16 % 256) :: (v % 16 * 16) :: List.replicate r 0 := by
  rw [fin, if_neg (by omega), even_bits v hv0 hv1 i _ (getD_at _ _ _ _ hP) (by
    rw [show P ++ 0 :: 0 :: List.replicate r 0 = (P ++ [0]) ++ 0 :: List.replicate r 0 by simp]
    exact getD_at _ _ _ _ (by simp [hP])) (by simp [hP]), set_two _ _ _ _ _ _ _ hP]
  rw [show v / 16 % 256 * 1 = v / 16 % 256 by omega, show v / 1 % 16 * 16 = v % 16 * 16 by omega]

/-- An element at an odd place, behind one at an even place. -/
theorem odd_step (v h : Int) (hv0 : 0 ≤ v) (hv1 : v ≤ 65535) (hh0 : 0 ≤ h) (hh1 : h ≤ 240) (hh2 : h % 16 = 0) (i r : Nat) (P : List Int) (hP : P.length = 3 * i) (x : Int) :
    fin v (2 * i + 1) (bitsTo v (2 * i + 1) (P ++ x :: h :: 0 :: List.replicate r 0) 12) = P ++ x :: bits BinOp.or IntKind.u8 h (v / 256) :: (v % 256) :: List.replicate r 0 := by
  have hP1 : (P ++ [x]).length = 3 * i + 1 := by simp [hP]
  rw [show P ++ x :: h :: 0 :: List.replicate r 0 = (P ++ [x]) ++ h :: 0 :: List.replicate r 0 by simp]
  rw [fin, if_pos (by omega), odd_bits v hv0 hv1 i _ h hh0 hh1 hh2 (getD_at _ _ _ _ hP1) (by
    rw [show (P ++ [x]) ++ h :: 0 :: List.replicate r 0 = (P ++ [x] ++ [h]) ++ 0 :: List.replicate r 0 by simp]
    exact getD_at _ _ _ _ (by simp [hP])) (by simp [hP]; omega), set_two _ _ _ _ _ _ _ hP1]
  rw [show (2 * i + 1) / 2 * 3 + 1 = 3 * i + 1 by omega, getD_at _ _ _ _ hP1]
  rw [List.set_append_right _ _ (by omega), hP1, Nat.sub_self, List.set_cons_zero]
  rw [show h + v / 256 % 16 * 1 = h + v / 256 % 16 by omega, mid h (v / 256 % 16) (v / 4096) hh0 hh1 hh2 (by omega) (by omega) (by omega) (by omega), show v / 4096 * 16 + v / 256 % 16 = v / 256 by omega,
    show v / 1 % 256 * 1 = v % 256 by omega]
  simp

theorem wrap16 (a : Int) : IntKind.u16.wrap (a * 16) % 256 = a % 16 * 16 := by
  rw [IntKind.wrap_u16]; omega

theorem outTo_even (zs : List Int) (hw : ∀ j, 0 ≤ zs.getD j 0 ∧ zs.getD j 0 ≤ 65535) (L : Nat) (i : Nat) : 3 * i ≤ L → outTo zs L (2 * i) = packTo zs i ++ List.replicate (L - 3 * i) 0 := by
  induction i with
  | zero => intro _; simp [outTo, packTo]
  | succ i ih =>
    intro hL
    have w0 := hw (2 * i)
    have w1 := hw (2 * i + 1)
    rw [show 2 * (i + 1) = 2 * i + 1 + 1 by omega, outTo, outTo, ih (by omega)]
    obtain ⟨r, hr⟩ : ∃ r, L - 3 * i = r + 3 := ⟨L - 3 * i - 3, by omega⟩
    rw [hr, show List.replicate (r + 3) (0 : Int) = 0 :: 0 :: List.replicate (r + 1) 0 from rfl, even_step _ w0.1 w0.2 i (r + 1) _ (packTo_length zs i),
      show List.replicate (r + 1) (0 : Int) = 0 :: List.replicate r 0 from rfl, odd_step _ _ w1.1 w1.2 (by omega) (by omega) (by omega) i r _ (packTo_length zs i)]
    rw [packTo, pk, wrap16, show L - 3 * (i + 1) = r by omega]
    simp

/-- THE LAW: the bit stream is the packed bytes. -/
theorem model_packed (zs : List Int) (hw : ∀ j, 0 ≤ zs.getD j 0 ∧ zs.getD j 0 ≤ 65535) : outTo zs ((12 * zs.length + 7) / 8) zs.length = packed zs := by
  rcases Nat.mod_two_eq_zero_or_one zs.length with h | h
  · obtain ⟨i, hi⟩ : ∃ i, zs.length = 2 * i := ⟨zs.length / 2, by omega⟩
    rw [packed_even zs i hi, hi, outTo_even zs hw _ i (by omega), show (12 * (2 * i) + 7) / 8 - 3 * i = 0 by omega]
    simp
  · obtain ⟨i, hi⟩ : ∃ i, zs.length = 2 * i + 1 := ⟨zs.length / 2, by omega⟩
    have w0 := hw (2 * i)
    rw [packed_odd zs i hi, hi, outTo, outTo_even zs hw _ i (by omega), show (12 * (2 * i + 1) + 7) / 8 - 3 * i = 0 + 2 by omega,
      show List.replicate (0 + 2) (0 : Int) = 0 :: 0 :: List.replicate 0 0 from rfl, even_step _ w0.1 w0.2 i 0 _ (packTo_length zs i), pk1, wrap16]
    simp
end Go.Proofs.Ybulkeimq.lawS6737CWhole
