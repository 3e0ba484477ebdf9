/-
  OWN WORK: a small frame device: 'Chg B S w w'': below block B nothing has turned; a cell of an old block that is not in S reads as it did; no mark has turned.
-/
import Derived.Test.YbulkjrkRows
import Derived.WalkKit
import Derived.WalkSpells
import Derived.WalkLawsBesides
import Derived.Deep.QuietTactic
import Derived.BigQuiet
import Derived.RegionTactic
import Derived.BigRegion
import Derived.ChangeAlike
import Derived.Deep.RegionHeld3
namespace Go.Proofs.Ybulkjrk
open Go.RowKit
set_option linter.unusedSimpArgs false
set_option linter.unusedVariables false

theorem ret_bool {a b : Bool} (h : a = b) : Ending.returned (.bool a) = .returned (.bool b) := by rw [h]

/-- Draws turn no block. -/
theorem below_draws {B : Nat} {a w : World} (h : Below B a w) (n : Nat) : Below B a (w.drewN n) := ⟨h.os, h.tape, h.output, h.size, h.block⟩

theorem bcell {W w1 : World} (hb : Below W.heap.size W w1) : (∀ b o, b < W.heap.size → w1.cell? ⟨b, o, none⟩ = W.cell? ⟨b, o, none⟩) ∧ (∀ b o, b < W.heap.size → w1.frozen? ⟨b, o, none⟩ = W.frozen? ⟨b, o, none⟩) :=
  ⟨fun b o h => hb.cell (p := ⟨b, o, none⟩) h, fun b o h => hb.frozen (p := ⟨b, o, none⟩) h⟩

theorem below_put {B : Nat} {a w : World} {b o : Nat} {v : Value} (h : Below B a w) (hB : B ≤ b) : Below B a (w.setCell ⟨b, o, none⟩ v) := h.setCell hB v
theorem below_new {B : Nat} {a w : World} {o : Obj} (h : Below B a w) (hB : B ≤ w.heap.size) : Below B a (w.alloc o) := h.alloc hB o

structure Chg (B : Nat) (S : Nat → Nat → Prop) (w w' : World) : Prop where
  below : Below B w w'
  cell : ∀ b o, b < w.heap.size → ¬ S b o → w'.cell? ⟨b, o, none⟩ = w.cell? ⟨b, o, none⟩
  frozen : ∀ b o, b < w.heap.size → w'.frozen? ⟨b, o, none⟩ = w.frozen? ⟨b, o, none⟩

theorem Chg.refl (B : Nat) (S : Nat → Nat → Prop) (w : World) : Chg B S w w := ⟨Below.refl _ _, fun _ _ _ _ => rfl, fun _ _ _ => rfl⟩
theorem Chg.size {B : Nat} {S : Nat → Nat → Prop} {w w' : World} (h : Chg B S w w') : w.heap.size ≤ w'.heap.size := h.below.size
theorem Chg.trans {B : Nat} {S : Nat → Nat → Prop} {a b c : World} (h : Chg B S a b) (k : Chg B S b c) : Chg B S a c :=
  ⟨h.below.trans k.below, fun x o hx hs => (k.cell x o (Nat.lt_of_lt_of_le hx h.size) hs).trans (h.cell x o hx hs), fun x o hx => (k.frozen x o (Nat.lt_of_lt_of_le hx h.size)).trans (h.frozen x o hx)⟩
theorem Chg.mono {B B' : Nat} {S T : Nat → Nat → Prop} {w w' : World} (h : Chg B S w w') (hB : B' ≤ B) (hS : ∀ b o, b < w.heap.size → S b o → T b o) : Chg B' T w w' :=
  ⟨h.below.mono hB, fun b o hb hs => h.cell b o hb (fun hh => hs (hS b o hb hh)), h.frozen⟩
theorem Chg.drew {B : Nat} {S : Nat → Nat → Prop} {a w : World} (h : Chg B S a w) : Chg B S a w.drew := ⟨h.below.drew, h.cell, h.frozen⟩
theorem Chg.drewN {B : Nat} {S : Nat → Nat → Prop} {a w : World} (h : Chg B S a w) (n : Nat) : Chg B S a (w.drewN n) := ⟨below_draws h.below n, h.cell, h.frozen⟩
/-- Behind whatever turns nothing below 'w.heap.size'. -/
theorem Chg.over {B : Nat} {S : Nat → Nat → Prop} {a w w' : World} (h : Chg B S a w) (hB : B ≤ w.heap.size) (k : Below w.heap.size w w') : Chg B S a w' :=
  ⟨h.below.trans (k.mono hB), fun b o hb hs => ((bcell k).1 b o (Nat.lt_of_lt_of_le hb h.size)).trans (h.cell b o hb hs), fun b o hb => ((bcell k).2 b o (Nat.lt_of_lt_of_le hb h.size)).trans (h.frozen b o hb)⟩
theorem Chg.alloc {B : Nat} {S : Nat → Nat → Prop} {a w : World} (h : Chg B S a w) (hB : B ≤ w.heap.size) (o : Obj) : Chg B S a (w.alloc o) :=
  h.over hB ((Below.refl _ _).alloc (Nat.le_refl _) o)
theorem Chg.setCell {B : Nat} {S : Nat → Nat → Prop} {a w : World} (h : Chg B S a w) {b o : Nat} (hB : B ≤ b) (hS : b < a.heap.size → S b o) (v : Value) : Chg B S a (w.setCell ⟨b, o, none⟩ v) :=
  ⟨h.below.setCell hB v, fun b' o' hb hs => by
    rw [World.cell?_setCell_other, h.cell b' o' hb hs]
    intro e
    simp only [Addr.mk.injEq] at e
    obtain ⟨rfl, rfl, _⟩ := e
    exact hs (hS hb), fun b' o' hb => by rw [World.frozen?_setCell]; exact h.frozen b' o' hb⟩
theorem Chg.same {B : Nat} {S : Nat → Nat → Prop} {w w' : World} (h : Chg B S w w') {b o : Nat} {v : Value} (hc : w.cell? ⟨b, o, none⟩ = some v) (hs : ¬ S b o) : w'.cell? ⟨b, o, none⟩ = some v := by
  rw [h.cell b o (World.block_lt_of_cell? w ⟨b, o, none⟩ hc) hs, hc]

end Go.Proofs.Ybulkjrk
