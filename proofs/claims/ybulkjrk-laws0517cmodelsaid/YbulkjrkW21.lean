/-
  OWN WORK: NewEngine, newSides.
-/
import Derived.Test.YbulkjrkM1
import Derived.Shelf.Strconv.Clone
import Derived.Shelf.Lay
namespace Go.Proofs
shelf_lay LaysM.n316 Nm 316 at Yba as Yba.l316
end Go.Proofs
namespace Go.Proofs.Ybulkjrk
open Go.RowKit
set_option linter.unusedSimpArgs false
set_option linter.unusedVariables false
set_option maxRecDepth 100000
def eng0 (N : Nat) : Array Value := #[.map (some N), .map (some (N + 1)), .bool false, .int .u64 0, .slice none 0 0, .slice none 0 0, .slice none 0 0, .slice none 0 0]
set_option maxHeartbeats 1000000 in
theorem newEngine_any (W : World) : Calls Yba.prog 25 #[.slice none 0 0] W fun e w' => e = .returned (.pointer (some ⟨W.heap.size + 2, 0, none⟩)) ∧ w' = ((W.alloc (.map #[] 0)).alloc (.map #[] 0)).alloc (.cells (eng0 W.heap.size) 79) := by
  have m1 : ∀ w, (Instr.makeMap 71 none).run Yba.prog w = .ok (.map (some w.heap.size)) (w.alloc (.map #[] 0)) := fun w => rfl
  have m2 : ∀ w, (Instr.makeMap 72 none).run Yba.prog w = .ok (.map (some w.heap.size)) (w.alloc (.map #[] 0)) := fun w => rfl
  go_enter Yba.func25, Yba.ntmps25
  go_wp2
  go_loopw [12] (fun v wr => v = .int .i64 0 ∧ wr = ((W.alloc (.map #[] 0)).alloc (.map #[] 0)).alloc (.cells (eng0 W.heap.size) 79)) (fun _ _ => 0)
  case atStart => exact ⟨rfl, rfl⟩
  case round =>
    obtain ⟨rfl, rfl⟩ := hrel
    go_wp2
    go_ret
    exact ⟨rfl, rfl⟩
set_option maxHeartbeats 1000000 in
theorem newSides_any (W : World) : Calls Yba.prog 36 #[] W fun e w' => e = .returned (.agg #[.int .u8 1, .pointer none, .pointer none, .pointer none, .int .u8 2, .pointer none, .pointer none, .pointer none]) ∧ Below W.heap.size W w' := by
  have hB : ∀ v, Below W.heap.size W (W.alloc v) := fun v => (Below.refl _ _).alloc (Nat.le_refl _) _
  go_enter Yba.func36, Yba.ntmps36
  go_wp2
  refine bodyPost_ret (v := .agg #[.int .u8 1, .pointer none, .pointer none, .pointer none, .int .u8 2, .pointer none, .pointer none, .pointer none]) (by simp [results, Yba.results36, go_sem, World.cell?_alloc_at]) rfl ⟨rfl, hB _⟩
theorem clone_any (W : World) : Calls Yba.prog 35 #[.string ⟨#[83]⟩] W fun e w' => e = .returned (.string ⟨#[83]⟩) ∧ Below W.heap.size W w' := by
  have hc : Calls Yba.prog 52 #[.string ⟨#[83]⟩] W fun e w' => e = .returned (.string ⟨#[83]⟩) ∧ Below W.heap.size W w' := Any.stringslite_Clone Yba.l316 ⟨#[83]⟩ W (by decide)
  go_enter Yba.func35, Yba.ntmps35
  go_wp2_with (go_at_call 52; refine hc.mono ?_; rintro e w1 ⟨rfl, hB⟩)
  go_ret
  exact ⟨rfl, hB⟩
def book0 : Array Value := #[.string ⟨#[83]⟩, .int .u8 1, .pointer none, .pointer none, .pointer none, .int .u8 2, .pointer none, .pointer none, .pointer none, .int .u8 1, .pointer none, .pointer none, .pointer none, .int .u8 2, .pointer none, .pointer none, .pointer none]
set_option maxHeartbeats 1000000 in
theorem newBook_any (W : World) : Calls Yba.prog 26 #[.string ⟨#[83]⟩] W fun e w' => ∃ w2, Below W.heap.size W w2 ∧ e = .returned (.pointer (some ⟨w2.heap.size, 0, none⟩)) ∧ w' = w2.alloc (.cells book0 49) := by
  have hs := fun w => newSides_any w
  have hc := clone_any W
  go_enter Yba.func26, Yba.ntmps26
  go_wp2_with (first
    | (go_at_call 35; refine hc.mono ?_; rintro e w1 ⟨rfl, hB1⟩)
    | (go_at_call 36; refine (hs _).mono ?_; rintro e w2 ⟨rfl, hB2⟩))
  go_ret
  exact ⟨w2, hB1.trans (hB2.mono hB1.size), rfl, rfl⟩
end Go.Proofs.Ybulkjrk
