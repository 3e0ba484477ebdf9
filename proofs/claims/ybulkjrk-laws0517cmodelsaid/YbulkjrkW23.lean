/-
  OWN WORK: zzs0517cbuild.
-/
import Derived.Test.YbulkjrkW20
import Derived.Test.YbulkjrkW22
import Derived.Test.YbulkjrkP1
namespace Go.Proofs.Ybulkjrk
open Go.RowKit
open Go.Maps (Keyed)
set_option linter.unusedSimpArgs false
set_option linter.unusedVariables false
set_option linter.unusedSectionVars false
set_option maxRecDepth 100000
variable [Base]
/-- The input's rows: five cells a stop. -/
structure In5 (W : World) (bs os n : Nat) (en sl : Nat → Bool) (st li qy : Nat → Int) : Prop where
  c0 : ∀ t, t < n → W.cell? ⟨bs, os + t * 5, none⟩ = some (.bool (en t))
  c1 : ∀ t, t < n → W.cell? ⟨bs, os + t * 5 + 1, none⟩ = some (.bool (sl t))
  c2 : ∀ t, t < n → W.cell? ⟨bs, os + t * 5 + 2, none⟩ = some (.int .u8 (st t))
  c3 : ∀ t, t < n → W.cell? ⟨bs, os + t * 5 + 3, none⟩ = some (.int .u8 (li t))
  c4 : ∀ t, t < n → W.cell? ⟨bs, os + t * 5 + 4, none⟩ = some (.int .u16 (qy t))
  r2 : ∀ t, t < n → 0 ≤ st t ∧ st t ≤ 255
  r3 : ∀ t, t < n → 0 ≤ li t ∧ li t ≤ 255
  r4 : ∀ t, t < n → 0 ≤ qy t ∧ qy t ≤ 65535
/-- The stops in plain words. -/
def plainS (en sl : Nat → Bool) (st li qy : Nat → Int) (t : Nat) : Stp := ⟨en t, sl t, st t % 20 + 1, li t % 21, qy t % 1000 + 1⟩
/-- The books map takes the book: only its own block turns. -/
theorem books_put {W : World} {mb : Nat} (h : W.heap[mb]? = some (.map #[] 0)) (b : Nat) : ∃ w', (Instr.mapUpdate 71 (.map (some mb)) (.string ⟨#[83]⟩) (pt b)).run Yba.prog W = .ok () w' ∧ W.mapTurned w' mb := by
  have ho : W.ownsMap Yba.prog 9 Rp mb 0 (.map []) := ⟨#[], 0, h, (by
    obtain ⟨es, cl, e, F, _⟩ := World.ownsMap_made (H := Unit) W Yba.prog 9 Rp
    rw [Go.heap_alloc_new] at e
    cases e
    exact F), by simp, rfl⟩
  obtain ⟨kl, hk⟩ : ∃ kl, keyOf Yba.prog 9 (.string ⟨#[83]⟩) = some kl := by
    refine ⟨.string [83], ?_⟩
    have hu : Yba.prog.underlying 9 = some .string := Yba.underlying9
    simp [keyOf, hu, mapKey]
    decide
  obtain ⟨w', hr, _, ht⟩ := ho.store (Maps.string_keyed Yba.underlying9) Yba.underlying71 (by unfold maxLen; omega) hk (val := pt b) (d := .lit (.int .u64 b)) (ps := []) rfl
  exact ⟨w', hr, ht⟩
end Go.Proofs.Ybulkjrk
