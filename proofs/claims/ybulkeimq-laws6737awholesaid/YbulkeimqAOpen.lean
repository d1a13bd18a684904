import Derived.Test.YbulkeimqALaw
import Derived.OpenShut
import Derived.ChangeOld
namespace Go.Proofs.Ybulkeimq
theorem Yba.cells22 : Yba.prog.cellsOf 22 = 1 := by kernel_rfl
theorem Yba.cells2 : Yba.prog.cellsOf 2 = 1 := by kernel_rfl
theorem Yba.cells4 : Yba.prog.cellsOf 4 = 1 := by kernel_rfl
theorem Yba.cells23 : Yba.prog.cellsOf 23 = 1 := by kernel_rfl
theorem Yba.cells24 : Yba.prog.cellsOf 24 = 8 := by kernel_rfl
theorem Yba.cells26 : Yba.prog.cellsOf 26 = 25 := by kernel_rfl
namespace lawS6737AWhole
open Go.ChangeShapes Go.WideShapes Go.ChangeAt Go.RowKit
set_option linter.unusedVariables false

theorem own : ownKnob Yba.prog.godebug = none := by kernel_rfl
theorem laidOut : laidOutB Yba.prog = true := by kernel_rfl

theorem array25 {cs : Array Value} (h : cs.size = 25) : ∃ x0 x1 x2 x3 x4 x5 x6 x7 x8 x9 x10 x11 x12 x13 x14 x15 x16 x17 x18 x19 x20 x21 x22 x23 x24, cs = #[x0, x1, x2, x3, x4, x5, x6, x7, x8, x9, x10, x11, x12, x13, x14, x15, x16, x17, x18, x19, x20, x21, x22, x23, x24] := by
  obtain ⟨l⟩ := cs
  match l, h with
  | [x0, x1, x2, x3, x4, x5, x6, x7, x8, x9, x10, x11, x12, x13, x14, x15, x16, x17, x18, x19, x20, x21, x22, x23, x24], _ => exact ⟨_, _, _, _, _, _, _, _, _, _, _, _, _, _, _, _, _, _, _, _, _, _, _, _, _, rfl⟩

theorem open26 {H : Type} {enc : TypeId × Value → H} {w : World} {base : Nat} {spare : Nat → Bool} {held : Bool} {r : Reach} {b0 : Nat} {v : Value} {d : DataW H} {p : List MemPlace}
    (hv : Value.okWide Yba.prog w r b0 26 v) (h : DataW.Trod enc Yba.prog w base spare held 26 v d p) :
    ∃ (c0 c1 c3 r0 r1 r2 r3 r4 r5 r6 r7 c14 c15 c16 c17 c18 c19 c21 c22 c23 : Int) (c2 c4 c5 c20 c24 : Bool), v = .agg #[.int .u64 c0, .int .u64 c1, .bool c2, .int .i64 c3, .bool c4, .bool c5, .int .u16 r0, .int .u16 r1, .int .u16 r2, .int .u16 r3, .int .u16 r4, .int .u16 r5, .int .u16 r6, .int .u16 r7, .int .u64 c14, .int .i64 c15, .int .u16 c16, .int .i64 c17, .int .i64 c18, .int .i64 c19, .bool c20, .int .u16 c21, .int .u64 c22, .int .u64 c23, .bool c24] ∧ (0 ≤ r2 ∧ r2 ≤ 65535) ∧ (0 ≤ r7 ∧ r7 ≤ 65535) := by
  obtain ⟨cs, rfl, hsz⟩ := okWide_struct Yba.underlying26 hv
  obtain ⟨x0, x1, x2, x3, x4, x5, x6, x7, x8, x9, x10, x11, x12, x13, x14, x15, x16, x17, x18, x19, x20, x21, x22, x23, x24, rfl⟩ := array25 (hsz.trans Yba.cells26)
  obtain ⟨fuel, h1⟩ := h
  obtain ⟨xs, n, _, _, _, hlen, hf⟩ := DataW.trod_struct Yba.underlying26 h1
  simp only [List.size_toArray, List.length_cons, List.length_nil] at hlen
  clear h1 hv hsz
  obtain ⟨y0, e0⟩ : ∃ y, xs[0]? = some y := ⟨_, List.getElem?_eq_getElem (by omega)⟩
  have g0 : DataW.trod enc Yba.prog w base spare held n 22 (([x0, x1, x2, x3, x4, x5, x6, x7, x8, x9, x10, x11, x12, x13, x14, x15, x16, x17, x18, x19, x20, x21, x22, x23, x24].drop 0).take (Yba.prog.cellsOf 22)) = xs[0]? := hf 0 _ rfl
  rw [e0, Yba.cells22] at g0
  change DataW.trod enc Yba.prog w base spare held n 22 [x0] = some y0 at g0
  obtain ⟨c0, q0, _, _⟩ := DataW.trod_int Yba.underlying22 g0
  simp only [List.cons.injEq, and_true] at q0
  obtain ⟨y1, e1⟩ : ∃ y, xs[1]? = some y := ⟨_, List.getElem?_eq_getElem (by omega)⟩
  have g1 : DataW.trod enc Yba.prog w base spare held n 22 (([x0, x1, x2, x3, x4, x5, x6, x7, x8, x9, x10, x11, x12, x13, x14, x15, x16, x17, x18, x19, x20, x21, x22, x23, x24].drop 1).take (Yba.prog.cellsOf 22)) = xs[1]? := hf 1 _ rfl
  rw [e1, Yba.cells22] at g1
  change DataW.trod enc Yba.prog w base spare held n 22 [x1] = some y1 at g1
  obtain ⟨c1, q1, _, _⟩ := DataW.trod_int Yba.underlying22 g1
  simp only [List.cons.injEq, and_true] at q1
  obtain ⟨y2, e2⟩ : ∃ y, xs[2]? = some y := ⟨_, List.getElem?_eq_getElem (by omega)⟩
  have g2 : DataW.trod enc Yba.prog w base spare held n 4 (([x0, x1, x2, x3, x4, x5, x6, x7, x8, x9, x10, x11, x12, x13, x14, x15, x16, x17, x18, x19, x20, x21, x22, x23, x24].drop 2).take (Yba.prog.cellsOf 4)) = xs[2]? := hf 2 _ rfl
  rw [e2, Yba.cells4] at g2
  change DataW.trod enc Yba.prog w base spare held n 4 [x2] = some y2 at g2
  obtain ⟨c2, q2, _⟩ := DataW.trod_bool Yba.underlying4 g2
  simp only [List.cons.injEq, and_true] at q2
  obtain ⟨y3, e3⟩ : ∃ y, xs[3]? = some y := ⟨_, List.getElem?_eq_getElem (by omega)⟩
  have g3 : DataW.trod enc Yba.prog w base spare held n 2 (([x0, x1, x2, x3, x4, x5, x6, x7, x8, x9, x10, x11, x12, x13, x14, x15, x16, x17, x18, x19, x20, x21, x22, x23, x24].drop 3).take (Yba.prog.cellsOf 2)) = xs[3]? := hf 3 _ rfl
  rw [e3, Yba.cells2] at g3
  change DataW.trod enc Yba.prog w base spare held n 2 [x3] = some y3 at g3
  obtain ⟨c3, q3, _, _⟩ := DataW.trod_int Yba.underlying2 g3
  simp only [List.cons.injEq, and_true] at q3
  obtain ⟨y4, e4⟩ : ∃ y, xs[4]? = some y := ⟨_, List.getElem?_eq_getElem (by omega)⟩
  have g4 : DataW.trod enc Yba.prog w base spare held n 4 (([x0, x1, x2, x3, x4, x5, x6, x7, x8, x9, x10, x11, x12, x13, x14, x15, x16, x17, x18, x19, x20, x21, x22, x23, x24].drop 4).take (Yba.prog.cellsOf 4)) = xs[4]? := hf 4 _ rfl
  rw [e4, Yba.cells4] at g4
  change DataW.trod enc Yba.prog w base spare held n 4 [x4] = some y4 at g4
  obtain ⟨c4, q4, _⟩ := DataW.trod_bool Yba.underlying4 g4
  simp only [List.cons.injEq, and_true] at q4
  obtain ⟨y5, e5⟩ : ∃ y, xs[5]? = some y := ⟨_, List.getElem?_eq_getElem (by omega)⟩
  have g5 : DataW.trod enc Yba.prog w base spare held n 4 (([x0, x1, x2, x3, x4, x5, x6, x7, x8, x9, x10, x11, x12, x13, x14, x15, x16, x17, x18, x19, x20, x21, x22, x23, x24].drop 5).take (Yba.prog.cellsOf 4)) = xs[5]? := hf 5 _ rfl
  rw [e5, Yba.cells4] at g5
  change DataW.trod enc Yba.prog w base spare held n 4 [x5] = some y5 at g5
  obtain ⟨c5, q5, _⟩ := DataW.trod_bool Yba.underlying4 g5
  simp only [List.cons.injEq, and_true] at q5
  obtain ⟨y6, e6⟩ : ∃ y, xs[6]? = some y := ⟨_, List.getElem?_eq_getElem (by omega)⟩
  have g6 : DataW.trod enc Yba.prog w base spare held n 24 (([x0, x1, x2, x3, x4, x5, x6, x7, x8, x9, x10, x11, x12, x13, x14, x15, x16, x17, x18, x19, x20, x21, x22, x23, x24].drop 6).take (Yba.prog.cellsOf 24)) = xs[6]? := hf 6 _ rfl
  rw [e6, Yba.cells24] at g6
  change DataW.trod enc Yba.prog w base spare held n 24 [x6, x7, x8, x9, x10, x11, x12, x13] = some y6 at g6
  obtain ⟨ys, m, _, _, _, hyl, hys⟩ := DataW.trod_array Yba.underlying24 g6
  obtain ⟨z0, f0⟩ : ∃ y, ys[0]? = some y := ⟨_, List.getElem?_eq_getElem (by omega)⟩
  have a0 := hys 0 (by omega)
  rw [f0, Yba.cells23] at a0
  change DataW.trod enc Yba.prog w base spare held m 23 [x6] = some z0 at a0
  obtain ⟨r0, q0r, _, wr0⟩ := DataW.trod_int Yba.underlying23 a0
  simp only [List.cons.injEq, and_true] at q0r
  obtain ⟨z1, f1⟩ : ∃ y, ys[1]? = some y := ⟨_, List.getElem?_eq_getElem (by omega)⟩
  have a1 := hys 1 (by omega)
  rw [f1, Yba.cells23] at a1
  change DataW.trod enc Yba.prog w base spare held m 23 [x7] = some z1 at a1
  obtain ⟨r1, q1r, _, wr1⟩ := DataW.trod_int Yba.underlying23 a1
  simp only [List.cons.injEq, and_true] at q1r
  obtain ⟨z2, f2⟩ : ∃ y, ys[2]? = some y := ⟨_, List.getElem?_eq_getElem (by omega)⟩
  have a2 := hys 2 (by omega)
  rw [f2, Yba.cells23] at a2
  change DataW.trod enc Yba.prog w base spare held m 23 [x8] = some z2 at a2
  obtain ⟨r2, q2r, _, wr2⟩ := DataW.trod_int Yba.underlying23 a2
  simp only [List.cons.injEq, and_true] at q2r
  obtain ⟨z3, f3⟩ : ∃ y, ys[3]? = some y := ⟨_, List.getElem?_eq_getElem (by omega)⟩
  have a3 := hys 3 (by omega)
  rw [f3, Yba.cells23] at a3
  change DataW.trod enc Yba.prog w base spare held m 23 [x9] = some z3 at a3
  obtain ⟨r3, q3r, _, wr3⟩ := DataW.trod_int Yba.underlying23 a3
  simp only [List.cons.injEq, and_true] at q3r
  obtain ⟨z4, f4⟩ : ∃ y, ys[4]? = some y := ⟨_, List.getElem?_eq_getElem (by omega)⟩
  have a4 := hys 4 (by omega)
  rw [f4, Yba.cells23] at a4
  change DataW.trod enc Yba.prog w base spare held m 23 [x10] = some z4 at a4
  obtain ⟨r4, q4r, _, wr4⟩ := DataW.trod_int Yba.underlying23 a4
  simp only [List.cons.injEq, and_true] at q4r
  obtain ⟨z5, f5⟩ : ∃ y, ys[5]? = some y := ⟨_, List.getElem?_eq_getElem (by omega)⟩
  have a5 := hys 5 (by omega)
  rw [f5, Yba.cells23] at a5
  change DataW.trod enc Yba.prog w base spare held m 23 [x11] = some z5 at a5
  obtain ⟨r5, q5r, _, wr5⟩ := DataW.trod_int Yba.underlying23 a5
  simp only [List.cons.injEq, and_true] at q5r
  obtain ⟨z6, f6⟩ : ∃ y, ys[6]? = some y := ⟨_, List.getElem?_eq_getElem (by omega)⟩
  have a6 := hys 6 (by omega)
  rw [f6, Yba.cells23] at a6
  change DataW.trod enc Yba.prog w base spare held m 23 [x12] = some z6 at a6
  obtain ⟨r6, q6r, _, wr6⟩ := DataW.trod_int Yba.underlying23 a6
  simp only [List.cons.injEq, and_true] at q6r
  obtain ⟨z7, f7⟩ : ∃ y, ys[7]? = some y := ⟨_, List.getElem?_eq_getElem (by omega)⟩
  have a7 := hys 7 (by omega)
  rw [f7, Yba.cells23] at a7
  change DataW.trod enc Yba.prog w base spare held m 23 [x13] = some z7 at a7
  obtain ⟨r7, q7r, _, wr7⟩ := DataW.trod_int Yba.underlying23 a7
  simp only [List.cons.injEq, and_true] at q7r
  obtain ⟨y7, e7⟩ : ∃ y, xs[7]? = some y := ⟨_, List.getElem?_eq_getElem (by omega)⟩
  have g7 : DataW.trod enc Yba.prog w base spare held n 22 (([x0, x1, x2, x3, x4, x5, x6, x7, x8, x9, x10, x11, x12, x13, x14, x15, x16, x17, x18, x19, x20, x21, x22, x23, x24].drop 14).take (Yba.prog.cellsOf 22)) = xs[7]? := hf 7 _ rfl
  rw [e7, Yba.cells22] at g7
  change DataW.trod enc Yba.prog w base spare held n 22 [x14] = some y7 at g7
  obtain ⟨c14, q7, _, _⟩ := DataW.trod_int Yba.underlying22 g7
  simp only [List.cons.injEq, and_true] at q7
  obtain ⟨y8, e8⟩ : ∃ y, xs[8]? = some y := ⟨_, List.getElem?_eq_getElem (by omega)⟩
  have g8 : DataW.trod enc Yba.prog w base spare held n 2 (([x0, x1, x2, x3, x4, x5, x6, x7, x8, x9, x10, x11, x12, x13, x14, x15, x16, x17, x18, x19, x20, x21, x22, x23, x24].drop 15).take (Yba.prog.cellsOf 2)) = xs[8]? := hf 8 _ rfl
  rw [e8, Yba.cells2] at g8
  change DataW.trod enc Yba.prog w base spare held n 2 [x15] = some y8 at g8
  obtain ⟨c15, q8, _, _⟩ := DataW.trod_int Yba.underlying2 g8
  simp only [List.cons.injEq, and_true] at q8
  obtain ⟨y9, e9⟩ : ∃ y, xs[9]? = some y := ⟨_, List.getElem?_eq_getElem (by omega)⟩
  have g9 : DataW.trod enc Yba.prog w base spare held n 23 (([x0, x1, x2, x3, x4, x5, x6, x7, x8, x9, x10, x11, x12, x13, x14, x15, x16, x17, x18, x19, x20, x21, x22, x23, x24].drop 16).take (Yba.prog.cellsOf 23)) = xs[9]? := hf 9 _ rfl
  rw [e9, Yba.cells23] at g9
  change DataW.trod enc Yba.prog w base spare held n 23 [x16] = some y9 at g9
  obtain ⟨c16, q9, _, _⟩ := DataW.trod_int Yba.underlying23 g9
  simp only [List.cons.injEq, and_true] at q9
  obtain ⟨y10, e10⟩ : ∃ y, xs[10]? = some y := ⟨_, List.getElem?_eq_getElem (by omega)⟩
  have g10 : DataW.trod enc Yba.prog w base spare held n 2 (([x0, x1, x2, x3, x4, x5, x6, x7, x8, x9, x10, x11, x12, x13, x14, x15, x16, x17, x18, x19, x20, x21, x22, x23, x24].drop 17).take (Yba.prog.cellsOf 2)) = xs[10]? := hf 10 _ rfl
  rw [e10, Yba.cells2] at g10
  change DataW.trod enc Yba.prog w base spare held n 2 [x17] = some y10 at g10
  obtain ⟨c17, q10, _, _⟩ := DataW.trod_int Yba.underlying2 g10
  simp only [List.cons.injEq, and_true] at q10
  obtain ⟨y11, e11⟩ : ∃ y, xs[11]? = some y := ⟨_, List.getElem?_eq_getElem (by omega)⟩
  have g11 : DataW.trod enc Yba.prog w base spare held n 2 (([x0, x1, x2, x3, x4, x5, x6, x7, x8, x9, x10, x11, x12, x13, x14, x15, x16, x17, x18, x19, x20, x21, x22, x23, x24].drop 18).take (Yba.prog.cellsOf 2)) = xs[11]? := hf 11 _ rfl
  rw [e11, Yba.cells2] at g11
  change DataW.trod enc Yba.prog w base spare held n 2 [x18] = some y11 at g11
  obtain ⟨c18, q11, _, _⟩ := DataW.trod_int Yba.underlying2 g11
  simp only [List.cons.injEq, and_true] at q11
  obtain ⟨y12, e12⟩ : ∃ y, xs[12]? = some y := ⟨_, List.getElem?_eq_getElem (by omega)⟩
  have g12 : DataW.trod enc Yba.prog w base spare held n 2 (([x0, x1, x2, x3, x4, x5, x6, x7, x8, x9, x10, x11, x12, x13, x14, x15, x16, x17, x18, x19, x20, x21, x22, x23, x24].drop 19).take (Yba.prog.cellsOf 2)) = xs[12]? := hf 12 _ rfl
  rw [e12, Yba.cells2] at g12
  change DataW.trod enc Yba.prog w base spare held n 2 [x19] = some y12 at g12
  obtain ⟨c19, q12, _, _⟩ := DataW.trod_int Yba.underlying2 g12
  simp only [List.cons.injEq, and_true] at q12
  obtain ⟨y13, e13⟩ : ∃ y, xs[13]? = some y := ⟨_, List.getElem?_eq_getElem (by omega)⟩
  have g13 : DataW.trod enc Yba.prog w base spare held n 4 (([x0, x1, x2, x3, x4, x5, x6, x7, x8, x9, x10, x11, x12, x13, x14, x15, x16, x17, x18, x19, x20, x21, x22, x23, x24].drop 20).take (Yba.prog.cellsOf 4)) = xs[13]? := hf 13 _ rfl
  rw [e13, Yba.cells4] at g13
  change DataW.trod enc Yba.prog w base spare held n 4 [x20] = some y13 at g13
  obtain ⟨c20, q13, _⟩ := DataW.trod_bool Yba.underlying4 g13
  simp only [List.cons.injEq, and_true] at q13
  obtain ⟨y14, e14⟩ : ∃ y, xs[14]? = some y := ⟨_, List.getElem?_eq_getElem (by omega)⟩
  have g14 : DataW.trod enc Yba.prog w base spare held n 23 (([x0, x1, x2, x3, x4, x5, x6, x7, x8, x9, x10, x11, x12, x13, x14, x15, x16, x17, x18, x19, x20, x21, x22, x23, x24].drop 21).take (Yba.prog.cellsOf 23)) = xs[14]? := hf 14 _ rfl
  rw [e14, Yba.cells23] at g14
  change DataW.trod enc Yba.prog w base spare held n 23 [x21] = some y14 at g14
  obtain ⟨c21, q14, _, _⟩ := DataW.trod_int Yba.underlying23 g14
  simp only [List.cons.injEq, and_true] at q14
  obtain ⟨y15, e15⟩ : ∃ y, xs[15]? = some y := ⟨_, List.getElem?_eq_getElem (by omega)⟩
  have g15 : DataW.trod enc Yba.prog w base spare held n 22 (([x0, x1, x2, x3, x4, x5, x6, x7, x8, x9, x10, x11, x12, x13, x14, x15, x16, x17, x18, x19, x20, x21, x22, x23, x24].drop 22).take (Yba.prog.cellsOf 22)) = xs[15]? := hf 15 _ rfl
  rw [e15, Yba.cells22] at g15
  change DataW.trod enc Yba.prog w base spare held n 22 [x22] = some y15 at g15
  obtain ⟨c22, q15, _, _⟩ := DataW.trod_int Yba.underlying22 g15
  simp only [List.cons.injEq, and_true] at q15
  obtain ⟨y16, e16⟩ : ∃ y, xs[16]? = some y := ⟨_, List.getElem?_eq_getElem (by omega)⟩
  have g16 : DataW.trod enc Yba.prog w base spare held n 22 (([x0, x1, x2, x3, x4, x5, x6, x7, x8, x9, x10, x11, x12, x13, x14, x15, x16, x17, x18, x19, x20, x21, x22, x23, x24].drop 23).take (Yba.prog.cellsOf 22)) = xs[16]? := hf 16 _ rfl
  rw [e16, Yba.cells22] at g16
  change DataW.trod enc Yba.prog w base spare held n 22 [x23] = some y16 at g16
  obtain ⟨c23, q16, _, _⟩ := DataW.trod_int Yba.underlying22 g16
  simp only [List.cons.injEq, and_true] at q16
  obtain ⟨y17, e17⟩ : ∃ y, xs[17]? = some y := ⟨_, List.getElem?_eq_getElem (by omega)⟩
  have g17 : DataW.trod enc Yba.prog w base spare held n 4 (([x0, x1, x2, x3, x4, x5, x6, x7, x8, x9, x10, x11, x12, x13, x14, x15, x16, x17, x18, x19, x20, x21, x22, x23, x24].drop 24).take (Yba.prog.cellsOf 4)) = xs[17]? := hf 17 _ rfl
  rw [e17, Yba.cells4] at g17
  change DataW.trod enc Yba.prog w base spare held n 4 [x24] = some y17 at g17
  obtain ⟨c24, q17, _⟩ := DataW.trod_bool Yba.underlying4 g17
  simp only [List.cons.injEq, and_true] at q17
  refine ⟨c0, c1, c3, r0, r1, r2, r3, r4, r5, r6, r7, c14, c15, c16, c17, c18, c19, c21, c22, c23, c2, c4, c5, c20, c24, ?_, bounds_u16 wr2, bounds_u16 wr7⟩
  rw [q0, q1, q2, q3, q4, q5, q7, q8, q9, q10, q11, q12, q13, q14, q15, q16, q17, q0r, q1r, q2r, q3r, q4r, q5r, q6r, q7r]
end lawS6737AWhole
end Go.Proofs.Ybulkeimq
