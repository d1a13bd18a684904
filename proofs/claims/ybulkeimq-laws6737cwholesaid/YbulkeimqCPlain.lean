import Derived.Laws.Bits
import Derived.OpenShut
namespace Go.Proofs.Ybulkeimq.lawS6737CWhole

/-! What appendLengths lays down, in the walk's own spelling -/
def pk (a b : Int) : List Int := [a / 16 % 256, bits BinOp.or IntKind.u8 (IntKind.u16.wrap (a * 16) % 256) (b / 256), b % 256]
def pk1 (a : Int) : List Int := [a / 16 % 256, IntKind.u16.wrap (a * 16) % 256]
def packTo (zs : List Int) : Nat → List Int
  | 0 => []
  | k + 1 => packTo zs k ++ pk (zs.getD (2 * k) 0) (zs.getD (2 * k + 1) 0)
def packed (zs : List Int) : List Int := packTo zs (zs.length / 2) ++ (if zs.length % 2 = 1 then pk1 (zs.getD (zs.length - 1) 0) else [])
theorem packTo_length (zs : List Int) (k : Nat) : (packTo zs k).length = 3 * k := by
  induction k with
  | zero => rfl
  | succ k ih => simp [packTo, pk, ih]; omega
theorem packed_even (zs : List Int) (k : Nat) (h : zs.length = 2 * k) : packed zs = packTo zs k := by
  unfold packed
  rw [show zs.length / 2 = k by omega, if_neg (by omega), List.append_nil]
theorem packed_odd (zs : List Int) (k : Nat) (h : zs.length = 2 * k + 1) : packed zs = packTo zs k ++ pk1 (zs.getD (2 * k) 0) := by
  unfold packed
  rw [show zs.length / 2 = k by omega, if_pos (by omega), show zs.length - 1 = 2 * k by omega]

/-! What the model lays down, bit by bit, in the walk's own spelling -/
def bitStep (v : Int) (k m : Nat) (l : List Int) : List Int :=
  l.set ((12 * k + m) / 8) (bits BinOp.or IntKind.u8 (l.getD ((12 * k + m) / 8) 0) (bits BinOp.and IntKind.u16 (v / 2 ^ (11 - m)) 1 % 256 * 2 ^ (7 - (12 * k + m) % 8) % 256))
def bitsTo (v : Int) (k : Nat) (l : List Int) : Nat → List Int
  | 0 => l
  | m + 1 => bitStep v k m (bitsTo v k l m)
def fin (v : Int) (k : Nat) (l : List Int) : List Int :=
  if k % 2 = 1 then l.set (k / 2 * 3 + 1) (bits BinOp.or IntKind.u8 (l.getD (k / 2 * 3 + 1) 0) (v / 4096 * 16)) else l
def outTo (zs : List Int) (L : Nat) : Nat → List Int
  | 0 => List.replicate L 0
  | k + 1 => fin (zs.getD k 0) k (bitsTo (zs.getD k 0) k (outTo zs L k) 12)
theorem bitStep_length (v : Int) (k m : Nat) (l : List Int) : (bitStep v k m l).length = l.length := by simp [bitStep]
theorem bitsTo_length (v : Int) (k : Nat) (l : List Int) (m : Nat) : (bitsTo v k l m).length = l.length := by
  induction m with
  | zero => rfl
  | succ m ih => rw [bitsTo, bitStep_length, ih]
theorem fin_length (v : Int) (k : Nat) (l : List Int) : (fin v k l).length = l.length := by unfold fin; split <;> simp
theorem outTo_length (zs : List Int) (L k : Nat) : (outTo zs L k).length = L := by
  induction k with
  | zero => simp [outTo]
  | succ k ih => rw [outTo, fin_length, bitsTo_length, ih]
end Go.Proofs.Ybulkeimq.lawS6737CWhole
