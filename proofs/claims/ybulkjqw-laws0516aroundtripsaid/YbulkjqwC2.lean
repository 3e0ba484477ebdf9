import Derived.Test.YbulkjqwD0
import Derived.Test.YbulkjqwD1
namespace Go.Proofs.Ybulkjqw
open Go.RowKit
set_option linter.unusedSimpArgs false
set_option linter.unusedVariables false

theorem roundtrip_all (d1 d2 d3 d4 d5 : Dat) (x y z : Bool) (w : World) :
    Calls Yba.prog 4 #[.agg #[.int .i32 d1.w, .int .i32 d1.h, .int .i32 d1.g, .int .i32 d1.lw, .int .i32 d1.lh, .int .i32 d1.lg, .int .i32 d1.c, .int .u32 d1.p], .agg #[.int .i32 d2.w, .int .i32 d2.h, .int .i32 d2.g, .int .i32 d2.lw, .int .i32 d2.lh, .int .i32 d2.lg, .int .i32 d2.c, .int .u32 d2.p], .agg #[.int .i32 d3.w, .int .i32 d3.h, .int .i32 d3.g, .int .i32 d3.lw, .int .i32 d3.lh, .int .i32 d3.lg, .int .i32 d3.c, .int .u32 d3.p], .agg #[.int .i32 d4.w, .int .i32 d4.h, .int .i32 d4.g, .int .i32 d4.lw, .int .i32 d4.lh, .int .i32 d4.lg, .int .i32 d4.c, .int .u32 d4.p], .agg #[.int .i32 d5.w, .int .i32 d5.h, .int .i32 d5.g, .int .i32 d5.lw, .int .i32 d5.lh, .int .i32 d5.lg, .int .i32 d5.c, .int .u32 d5.p], .bool x, .bool y, .bool z] w fun e w' => e = .returned (.bool true) ∧ Below w.heap.size w w' := by
  cases x <;> cases y <;> cases z
  · exact rt_000 d1 d2 d3 d4 d5 w
  · exact rt_001 d1 d2 d3 d4 d5 w
  · exact rt_010 d1 d2 d3 d4 d5 w
  · exact rt_011 d1 d2 d3 d4 d5 w
  · exact rt_100 d1 d2 d3 d4 d5 w
  · exact rt_101 d1 d2 d3 d4 d5 w
  · exact rt_110 d1 d2 d3 d4 d5 w
  · exact rt_111 d1 d2 d3 d4 d5 w

end Go.Proofs.Ybulkjqw
