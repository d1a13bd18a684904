import Derived.Test.YbulkeimqRows
import Derived.WalkKit
import Derived.WalkLawsBesides
import Derived.ProofKit
import Derived.Laws.StructEq
namespace Go.Proofs.Ybulkeimq.lawS6737AWhole
open Go.ChangeShapes Go.WideShapes Go.ChangeAt Go.RowKit

theorem eq_arr (d : Nat) (r0 r1 r2 r3 r4 r5 r6 r7 : Int) (w : World) : (Op.equalIn (d + 2) 24 (.agg #[.int .u16 r0, .int .u16 r1, .int .u16 r2, .int .u16 r3, .int .u16 r4, .int .u16 r5, .int .u16 r6, .int .u16 r7]) (.agg #[.int .u16 r0, .int .u16 r1, .int .u16 r2, .int .u16 r3, .int .u16 r4, .int .u16 r5, .int .u16 r6, .int .u16 r7])).run Yba.prog w = .ok true w := by
  unfold Op.equalIn
  simp only [Sem.run_bind, run_underlying Yba.underlying24, Result.andThen_ok, Yba.sizeOf23]
  simp [go_sem, Std.Legacy.Range.forIn_eq_forIn_range', List.range', part, Yba.underlying23]

set_option maxRecDepth 10000 in
set_option maxHeartbeats 1000000 in
theorem eq_in (d : Nat) (c0 c1 c3 r0 r1 r2 r3 r4 r5 r6 r7 c14 c15 c16 c17 c18 c19 c21 c22 c23 : Int) (c2 c4 c5 c20 c24 : Bool) (w : World) : (Op.equalIn (d + 3) 30 (.agg #[.int .u64 c0, .int .u64 c1, .bool c2, .int .i64 c3, .bool c4, .bool c5, .int .u16 r0, .int .u16 r1, .int .u16 r2, .int .u16 r3, .int .u16 r4, .int .u16 r5, .int .u16 r6, .int .u16 r7, .int .u64 c14, .int .i64 c15, .int .u16 c16, .int .i64 c17, .int .i64 c18, .int .i64 c19, .bool c20, .int .u16 c21, .int .u64 c22, .int .u64 c23, .bool c24]) (.agg #[.int .u64 c0, .int .u64 c1, .bool c2, .int .i64 c3, .bool c4, .bool c5, .int .u16 r0, .int .u16 r1, .int .u16 r2, .int .u16 r3, .int .u16 r4, .int .u16 r5, .int .u16 r6, .int .u16 r7, .int .u64 c14, .int .i64 c15, .int .u16 c16, .int .i64 c17, .int .i64 c18, .int .i64 c19, .bool c20, .int .u16 c21, .int .u64 c22, .int .u64 c23, .bool c24])).run Yba.prog w = .ok true w := by
  have e := fun (w : World) => eq_arr d r0 r1 r2 r3 r4 r5 r6 r7 w
  rw [run_equalIn_struct w (d + 2) 30 _ _ (by kernel_rfl) (by kernel_rfl)]
  simp only [Program.fieldsOf, Yba.underlying30]
  simp [Op.eqFields, go_sem, part, e]

theorem eq_self (c0 c1 c3 r0 r1 r2 r3 r4 r5 r6 r7 c14 c15 c16 c17 c18 c19 c21 c22 c23 : Int) (c2 c4 c5 c20 c24 : Bool) (w : World) : (binOp .eql 30 (.agg #[.int .u64 c0, .int .u64 c1, .bool c2, .int .i64 c3, .bool c4, .bool c5, .int .u16 r0, .int .u16 r1, .int .u16 r2, .int .u16 r3, .int .u16 r4, .int .u16 r5, .int .u16 r6, .int .u16 r7, .int .u64 c14, .int .i64 c15, .int .u16 c16, .int .i64 c17, .int .i64 c18, .int .i64 c19, .bool c20, .int .u16 c21, .int .u64 c22, .int .u64 c23, .bool c24]) (.agg #[.int .u64 c0, .int .u64 c1, .bool c2, .int .i64 c3, .bool c4, .bool c5, .int .u16 r0, .int .u16 r1, .int .u16 r2, .int .u16 r3, .int .u16 r4, .int .u16 r5, .int .u16 r6, .int .u16 r7, .int .u64 c14, .int .i64 c15, .int .u16 c16, .int .i64 c17, .int .i64 c18, .int .i64 c19, .bool c20, .int .u16 c21, .int .u64 c22, .int .u64 c23, .bool c24])).run Yba.prog w = .ok (.bool true) w := by
  rw [run_eql_struct, show (10000 : Nat) = 9997 + 3 from rfl, eq_in]
  rfl
end Go.Proofs.Ybulkeimq.lawS6737AWhole
