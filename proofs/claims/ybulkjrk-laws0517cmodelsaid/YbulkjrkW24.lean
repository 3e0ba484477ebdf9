/-
  OWN WORK: zzs0517cbuild: what its loop keeps.
-/
import Derived.Test.YbulkjrkW23
namespace Go.Proofs.Ybulkjrk
open Go.RowKit
set_option linter.unusedSimpArgs false
set_option linter.unusedVariables false
set_option linter.unusedSectionVars false
set_option maxRecDepth 100000
variable [Base]
/-- The engine with t stops waiting. -/
structure CB (s : Nat → Stp) (eb bb mb t : Nat) (W0 : World) (ob : Nat → Nat) (g : Gp) (q : Nat → List Nat) (tot : Nat → Int) (lev : Nat → Option Nat) (M : Nat → Option Nat) (W : World) : Prop where
  ph : Ph ob t eb bb g W
  lg : Lg t t ob g q tot lev
  map : MapIs mb M t t W
  mM : ∀ i, M i = if i < t then some (ob i) else none
  on2 : ∀ i p, On g q 2 i p ↔ (i < t ∧ (s i).entry = false ∧ p = (s i).sp)
  on3 : ∀ i p, On g q 3 i p ↔ (i < t ∧ (s i).entry = true ∧ p = (s i).sp)
  on0 : ∀ i p, ¬ On g q 0 i p
  on1 : ∀ i p, ¬ On g q 1 i p
  oc : ∀ i, i < t → ∀ j, j < 9 → g.oc i j = (waits bb i (sdI (s i).sell) (stI (s i).entry) (s i).sp (s i).qty (s i).lim ((i : Int) + 1)).getD j undef
  ec1 : g.ec 1 = .map (some mb)
  ec2 : g.ec 2 = .bool false
  ec3 : g.ec 3 = .int .u64 t
  ec4 : g.ec 4 = .slice none 0 0
  ec5 : g.ec 5 = .slice none 0 0
  pn : g.pn = 0
  px : g.px = []
  levn : ∀ i, t ≤ i → lev i = none
  below : Below Base.B W0 W
  mbB : Base.B ≤ mb
theorem CB.next {s : Nat → Stp} {eb bb mb t : Nat} {W0 : World} {ob : Nat → Nat} {g : Gp} {q : Nat → List Nat} {tot : Nat → Int} {lev : Nat → Option Nat} {M : Nat → Option Nat} {W W1 W2 : World} (h : CB s eb bb mb t W0 ob g q tot lev M W) (hB : Below W.heap.size W W1)
    {ob' : Nat → Nat} {g' : Gp} {q' : Nat → List Nat} {tot' : Nat → Int} {lev' : Nat → Option Nat} (hw : Wtd ob ob' t t eb bb mb g g' q q' tot' lev lev' M t t (s t).entry (sdI (s t).sell) (s t).sp (s t).qty (s t).lim W1 W2) :
    CB s eb bb mb (t + 1) W0 ob' g' q' tot' lev' (upN M t (some (ob' t))) W2 := by
  have hMt : M t = none := by rw [h.mM t, if_neg (by omega)]
  have hmap := hw.map
  rw [hMt] at hmap
  have kk : ∀ b : Bool, kS b = 2 ∨ kS b = 3 := fun b => by cases b <;> simp [kS]
  have kt : ∀ b : Bool, (kS b = 3 ↔ b = true) ∧ (kS b = 2 ↔ b = false) := fun b => by cases b <;> simp [kS]
  have lt1 : ∀ i, i < t + 1 ↔ (i < t ∨ i = t) := fun i => by omega
  refine ⟨hw.ph, hw.lg, by simpa using hmap, fun i => ?_, fun i p => ?_, fun i p => ?_, fun i p hh => ?_, fun i p hh => ?_, fun i hi j hj => ?_, ?_, ?_, ?_, ?_, ?_, hw.pn.trans h.pn, hw.px.trans h.px, fun i hi => ?_, ?_, h.mbB⟩
  · by_cases e : i = t
    · subst e; rw [upN_same, if_pos (by omega)]
    · rw [upN_other _ _ e, h.mM i]
      by_cases h1 : i < t
      · rw [if_pos h1, if_pos (by omega), hw.ob i h1]
      · rw [if_neg h1, if_neg (by omega)]
  · rw [hw.on 2 (by omega), h.on2, lt1]
    constructor
    · rintro (⟨h1, h2, h3⟩ | ⟨h1, rfl, h3⟩)
      · exact ⟨.inl h1, h2, h3⟩
      · exact ⟨.inr rfl, (kt _).2.1 h1.symm, h3⟩
    · rintro ⟨h1 | rfl, h2, h3⟩
      · exact .inl ⟨h1, h2, h3⟩
      · exact .inr ⟨((kt _).2.2 h2).symm, rfl, h3⟩
  · rw [hw.on 3 (by omega), h.on3, lt1]
    constructor
    · rintro (⟨h1, h2, h3⟩ | ⟨h1, rfl, h3⟩)
      · exact ⟨.inl h1, h2, h3⟩
      · exact ⟨.inr rfl, (kt _).1.1 h1.symm, h3⟩
    · rintro ⟨h1 | rfl, h2, h3⟩
      · exact .inl ⟨h1, h2, h3⟩
      · exact .inr ⟨((kt _).1.2 h2).symm, rfl, h3⟩
  · rw [hw.on 0 (by omega)] at hh
    rcases hh with hh | ⟨h1, _⟩
    · exact h.on0 i p hh
    · rcases kk (s t).entry with e | e <;> omega
  · rw [hw.on 1 (by omega)] at hh
    rcases hh with hh | ⟨h1, _⟩
    · exact h.on1 i p hh
    · rcases kk (s t).entry with e | e <;> omega
  · by_cases e : i = t
    · subst e; exact hw.ocm j hj
    · rw [hw.oco i e j hj]; exact h.oc i (by omega) j hj
  · rw [hw.ec 1 (by omega) (by omega)]; exact h.ec1
  · rw [hw.ec 2 (by omega) (by omega)]; exact h.ec2
  · rw [hw.ec3]; simp
  · rw [hw.ec 4 (by omega) (by omega)]; exact h.ec4
  · rw [hw.ec 5 (by omega) (by omega)]; exact h.ec5
  · rw [hw.lev2 i (by omega)]; exact h.levn i (by omega)
  · have hb1 : Below Base.B W W1 := hB.mono h.ph.en.base
    have hF := hw.fr
    exact (h.below.trans hb1).trans ⟨hF.os, hF.tape, hF.output, hF.size, fun b hb => by
      by_cases hlt : b < W1.heap.size
      · exact hF.block b hlt (fun e => e.elim (fun e => by have := e.1; omega) (fun e => by have := h.mbB; omega))
      · exact absurd (Nat.lt_of_lt_of_le hb (Nat.le_trans h.ph.en.base hB.size)) hlt⟩
end Go.Proofs.Ybulkjrk
