/-
  OWN WORK: the state at the start.
-/
import Derived.Test.YbulkjrkW19
import Derived.Test.YbulkjrkW21
namespace Go.Proofs.Ybulkjrk
open Go.RowKit
set_option linter.unusedSimpArgs false
set_option linter.unusedVariables false
set_option linter.unusedSectionVars false
set_option maxRecDepth 100000
variable [Base]
def sd0 : Sd := ⟨fun _ => 0, fun _ _ => none, fun _ => none, fun _ => 0, fun _ _ => none, none, fun _ => none⟩
def g0 (N : Nat) : Gp := ⟨fun _ => sd0, fun _ => [], fun _ _ => undef, [], fun _ _ => undef, fun k => (eng0 N).getD k undef, 0, []⟩
/-- The engine, its book in block bb. -/
theorem ph0 {W w2 : World} (hb : Base.B ≤ W.heap.size) (hB : Below (((W.alloc (.map #[] 0)).alloc (.map #[] 0)).alloc (.cells (eng0 W.heap.size) 79)).heap.size (((W.alloc (.map #[] 0)).alloc (.map #[] 0)).alloc (.cells (eng0 W.heap.size) 79)) w2) :
    Ph (fun _ => 0) 0 (W.heap.size + 2) w2.heap.size (g0 W.heap.size) (w2.alloc (.cells book0 49)) ∧ MapIs (W.heap.size + 1) (fun _ => none) 0 0 (w2.alloc (.cells book0 49)) ∧ W.heap.size + 3 ≤ w2.heap.size := by
  have hsz := hB.size
  simp at hsz
  have hE0 : Bk (W.heap.size + 2) 79 8 (fun k => (eng0 W.heap.size).getD k undef) (((W.alloc (.map #[] 0)).alloc (.map #[] 0)).alloc (.cells (eng0 W.heap.size) 79)) := by
    have := Bk.new ((W.alloc (.map #[] 0)).alloc (.map #[] 0)) (eng0 W.heap.size) 79 (by simp; omega)
    simpa [eng0] using this
  have hE := (hE0.below hB).alloc (.cells book0 49)
  have hBk : Bk w2.heap.size 49 17 (fun k => book0.getD k undef) (w2.alloc (.cells book0 49)) := Bk.new w2 book0 49 (by omega)
  have hM0 : MapIs (W.heap.size + 1) (fun _ => none) 0 0 ((W.alloc (.map #[] 0)).alloc (.map #[] 0)) := by
    have := MapIs.made (W.alloc (.map #[] 0))
    simpa using this
  have hM1 := hM0.kept (W' := ((W.alloc (.map #[] 0)).alloc (.map #[] 0)).alloc (.cells (eng0 W.heap.size) 79)) (Go.heap_alloc_old _ _ hM0.lt)
  have hM2 := hM1.kept (hB.block _ hM1.lt)
  have hM3 := hM2.kept (W' := w2.alloc (.cells book0 49)) (Go.heap_alloc_old _ _ hM2.lt)
  refine ⟨⟨hE, hBk.blk, hBk.cell 0 (by omega), fun k hk => ⟨fun b hb => by simp [g0] at hb, fun b hb => by simp [g0] at hb, by show w2.heap.size < _; simp, fun b hb => by simp [g0] at hb, fun b hb => by simp [g0] at hb, fun o ho => ?_, fun o => hBk.frozen o, fun b hb => by simp [g0] at hb⟩, fun k hk l hl => by simp [g0] at hl, fun k hk => ⟨⟨0, Tree.nil _ _⟩, by simp [g0], fun y hy => by simp [g0] at hy, ⟨fun A x B e => by simp [g0] at e, rfl, rfl⟩, by simp [g0]⟩, fun j k _ _ _ l hl => by simp [g0] at hl, World.ownsRow_nil _ _ _ _, by simp [g0], fun l hl => by simp [g0] at hl, fun k hk l hl => by simp [g0] at hl, fun i j hi => by omega, fun i hi => by omega, World.ownsRow_nil _ _ _ _⟩, hM3, by omega⟩
  · show (w2.alloc (.cells book0 49)).cell? ⟨w2.heap.size, 1 + 4 * k + o, none⟩ = _
    rw [hBk.cell (1 + 4 * k + o) (by omega)]
    rcases (by omega : k = 0 ∨ k = 1 ∨ k = 2 ∨ k = 3) with rfl | rfl | rfl | rfl <;> rcases (by omega : o = 0 ∨ o = 1 ∨ o = 2 ∨ o = 3) with rfl | rfl | rfl | rfl <;> rfl
theorem lg0 (N : Nat) : Lg 0 0 (fun _ => 0) (g0 N) (fun _ => []) (fun _ => 0) (fun _ => none) := ⟨fun k hk l hl => by simp [g0] at hl, by simp [g0]⟩
end Go.Proofs.Ybulkjrk
