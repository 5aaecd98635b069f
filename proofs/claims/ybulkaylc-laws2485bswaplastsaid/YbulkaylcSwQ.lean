import Derived.Test.YbulkaylcRows
import Derived.WalkKit
import Derived.Laws.StructEq
namespace Go.Proofs.Ybulkaylc
open Go.RowKit
namespace Sw
theorem eq84 (a b c d : Int) (w : World) : (binOp .neq 84 (.agg #[.int .i32 a, .int .i32 b, .int .i32 c, .int .u8 0, .int .u8 d, .bool false]) (.agg #[.int .i32 a, .int .i32 b, .int .i32 c, .int .u8 0, .int .u8 d, .bool false])).run Yba.prog w = .ok (.bool false) w := by
  have u21 := Yba.underlying21
  have a21 := Yba.isAgg21
  have z21 := Yba.sizeOf21
  have u24 := Yba.underlying24
  have a24 := Yba.isAgg24
  have z24 := Yba.sizeOf24
  have u4 := Yba.underlying4
  have a4 := Yba.isAgg4
  have z4 := Yba.sizeOf4
  have hS : Yba.prog.underlying 84 = some (.struct (Yba.prog.fieldsOf 84)) := by kernel_rfl
  have hp : Yba.prog.stoodInHeld 84 = false := by kernel_rfl
  rw [run_neq_struct, show (10000 : Nat) = 9999 + 1 from rfl, run_equalIn_agg w 9999 84 _ _ hS hp]
  simp only [Program.fieldsOf, Yba.underlying84]
  go_simp
end Sw
end Go.Proofs.Ybulkaylc
