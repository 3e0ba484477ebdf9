import Derived.Test.YbulkjqwB0
import Derived.Test.YbulkjqwB1
import Derived.Test.YbulkjqwB2
import Derived.Test.YbulkjqwB3
import Derived.Test.YbulkjqwB4
import Derived.Test.YbulkjqwB5
namespace Go.Proofs.Ybulkjqw
open Go.RowKit
set_option linter.unusedSimpArgs false
set_option linter.unusedVariables false

theorem rotate_all (d1 d2 d3 d4 d5 : Dat) (x y z : Bool) (w : World) :
    Calls Yba.prog 3 #[.agg #[.int .i32 d1.w, .int .i32 d1.h, .int .i32 d1.g, .int .i32 d1.lw, .int .i32 d1.lh, .int .i32 d1.lg, .int .i32 d1.c, .int .u32 d1.p], .agg #[.int .i32 d2.w, .int .i32 d2.h, .int .i32 d2.g, .int .i32 d2.lw, .int .i32 d2.lh, .int .i32 d2.lg, .int .i32 d2.c, .int .u32 d2.p], .agg #[.int .i32 d3.w, .int .i32 d3.h, .int .i32 d3.g, .int .i32 d3.lw, .int .i32 d3.lh, .int .i32 d3.lg, .int .i32 d3.c, .int .u32 d3.p], .agg #[.int .i32 d4.w, .int .i32 d4.h, .int .i32 d4.g, .int .i32 d4.lw, .int .i32 d4.lh, .int .i32 d4.lg, .int .i32 d4.c, .int .u32 d4.p], .agg #[.int .i32 d5.w, .int .i32 d5.h, .int .i32 d5.g, .int .i32 d5.lw, .int .i32 d5.lh, .int .i32 d5.lg, .int .i32 d5.c, .int .u32 d5.p], .bool x, .bool y, .bool z] w fun e w' => e = .returned (.bool true) ∧ Below w.heap.size w w' := by
  cases x <;> cases y <;> cases z
  · exact rot_000 d1 d2 d3 d4 d5 w
  · exact rot_001 d1 d2 d3 d4 d5 w
  · cases hB : lessB d4.lw d4.lh d4.lg d1.w d1.h d1.g
    · exact rot_010_b0 d1 d2 d3 d4 d5 hB w
    · exact rot_010_b1 d1 d2 d3 d4 d5 hB w
  · cases hB : lessB d4.lw d4.lh d4.lg d1.w d1.h d1.g
    · exact rot_011_b0 d1 d2 d3 d4 d5 hB w
    · exact rot_011_b1 d1 d2 d3 d4 d5 hB w
  · cases hA : lessB d3.lw d3.lh d3.lg d1.w d1.h d1.g
    · exact rot_100_a0 d1 d2 d3 d4 d5 hA w
    · exact rot_100_a1 d1 d2 d3 d4 d5 hA w
  · cases hA : lessB d3.lw d3.lh d3.lg d1.w d1.h d1.g
    · exact rot_101_a0 d1 d2 d3 d4 d5 hA w
    · exact rot_101_a1 d1 d2 d3 d4 d5 hA w
  · cases hA : lessB d3.lw d3.lh d3.lg d1.w d1.h d1.g
    · cases hB : lessB d4.lw d4.lh d4.lg d1.w d1.h d1.g
      · exact rot_110_a0_b0 d1 d2 d3 d4 d5 hA hB w
      · exact rot_110_a0_b1 d1 d2 d3 d4 d5 hA hB w
    · cases hB : lessB d4.lw d4.lh d4.lg d3.lw d3.lh d3.lg
      · exact rot_110_a1_b0 d1 d2 d3 d4 d5 hA hB w
      · exact rot_110_a1_b1 d1 d2 d3 d4 d5 hA hB w
  · cases hA : lessB d3.lw d3.lh d3.lg d1.w d1.h d1.g
    · cases hB : lessB d4.lw d4.lh d4.lg d1.w d1.h d1.g
      · exact rot_111_a0_b0 d1 d2 d3 d4 d5 hA hB w
      · exact rot_111_a0_b1 d1 d2 d3 d4 d5 hA hB w
    · cases hB : lessB d4.lw d4.lh d4.lg d3.lw d3.lh d3.lg
      · exact rot_111_a1_b0 d1 d2 d3 d4 d5 hA hB w
      · exact rot_111_a1_b1 d1 d2 d3 d4 d5 hA hB w

end Go.Proofs.Ybulkjqw
