/-
  OWN WORK: two events, compared.
-/
import Derived.Test.YbulkjrkW18
import Derived.Laws.StructEq
namespace Go.Proofs.Ybulkjrk
open Go.RowKit
set_option linter.unusedSimpArgs false
set_option linter.unusedVariables false
set_option maxRecDepth 100000
theorem st59 : Yba.prog.stoodInHeld 59 = false := by kernel_rfl
theorem st57 : Yba.prog.stoodInHeld 57 = false := by kernel_rfl
theorem eg59 : Yba.prog.eqGuardType Yba.prog.depth 59 = false := by kernel_rfl
theorem fo59 : Yba.prog.underlying 59 = some (.struct (Yba.prog.fieldsOf 59)) := by simp [Program.fieldsOf, Yba.underlying59]
theorem fo57 : Yba.prog.underlying 57 = some (.struct (Yba.prog.fieldsOf 57)) := by simp [Program.fieldsOf, Yba.underlying57]
theorem cc57 : Yba.prog.cellsOf 57 = 2 := by kernel_rfl
theorem evneq (k i k' i' : Int) (w : World) : (binOp .neq 59 (.agg (evc k i).toArray) (.agg (evc k' i').toArray)).run Yba.prog w = .ok (.bool (!(k == k' && i == i'))) w := by
  rw [run_neq_struct, run_equalIn_struct w 9999 59 _ _ fo59 st59]
  simp [Program.fieldsOf, Yba.underlying59, evc, Op.eqFields, go_sem]
  by_cases h1 : k = k' <;> by_cases h2 : i = i' <;> simp [h1, h2]
theorem evguard (x y : Operand) (xs ys : Array Value) (w : World) : (eqGuard .neq 59 x y (.agg xs) (.agg ys)).run Yba.prog w = .ok () w := run_eqGuard_agg w .neq 59 x y xs ys eg59
end Go.Proofs.Ybulkjrk
