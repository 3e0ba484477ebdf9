/-
  OWN WORK: takeCrossed: one level's queue into a row.
-/
import Derived.Test.YbulkjrkW9
namespace Go.Proofs.Ybulkjrk
open Go.RowKit
set_option linter.unusedSimpArgs false
set_option linter.unusedVariables false
set_option linter.unusedSectionVars false
variable [Base]
theorem nodup_len : ∀ (m : Nat) (l : List Nat), l.Nodup → (∀ i ∈ l, i < m) → l.length ≤ m
  | 0, l, _, h => by
    cases l with
    | nil => simp
    | cons a b => exact absurd (h a (by simp)) (by omega)
  | m + 1, l, nd, h => by
    by_cases hm : m ∈ l
    · have h1 := nodup_len m (l.erase m) (nd.erase m) (fun i hi => by
        have h2 := (List.Nodup.mem_erase_iff nd).1 hi
        have := h i h2.2
        have := h2.1
        omega)
      rw [List.length_erase_of_mem hm] at h1
      omega
    · have := nodup_len m l nd (fun i hi => by
        have := h i hi
        have : i ≠ m := fun e => hm (e ▸ hi)
        omega)
      omega
/-- A side is reached where one of its levels is. -/
theorem crossed_iff {σ : Sd} {ll : List Nat} (hG : Good σ ll) (buy : Bool) (price : Int) : crossed buy σ price = true ↔ ∃ l ∈ ll, reach buy price (σ.price l) = true := by
  unfold crossed
  cases buy with
  | true =>
    rw [hG.chain.2.2]
    rcases List.eq_nil_or_concat ll with rfl | ⟨A, x, rfl⟩
    · simp
    · rw [List.concat_eq_append] at hG ⊢
      simp only [List.getLast?_append, List.getLast?_singleton, Option.some_or]
      constructor
      · exact fun h => ⟨x, by simp, h⟩
      · rintro ⟨l, hl, h⟩
        rcases List.mem_append.1 hl with h1 | h1
        · have := (List.pairwise_append.1 hG.sort).2.2 l h1 x (by simp)
          simp only [reach, if_true, Bool.or_eq_true, decide_eq_true_eq, Bool.not_eq_true', decide_eq_false_iff_not] at h ⊢
          omega
        · simp at h1; subst h1; exact h
  | false =>
    rw [hG.chain.2.1]
    cases ll with
    | nil => simp
    | cons x B =>
      simp only [List.head?_cons]
      constructor
      · exact fun h => ⟨x, by simp, h⟩
      · rintro ⟨l, hl, h⟩
        rcases List.mem_cons.1 hl with h1 | h1
        · subst h1; exact h
        · have := (List.pairwise_cons.1 hG.sort).1 l h1
          simp only [reach, Bool.false_eq_true, if_false, Bool.or_eq_true, decide_eq_true_eq, Bool.not_eq_true', decide_eq_false_iff_not] at h ⊢
          omega
theorem crossed_best {σ : Sd} {ll : List Nat} (hG : Good σ ll) {buy : Bool} {price : Int} (h : crossed buy σ price = true) : ∃ l, σ.ends buy = some l ∧ l ∈ ll ∧ reach buy price (σ.price l) = true := by
  unfold crossed at h
  cases e : σ.ends buy with
  | none => rw [e] at h; cases h
  | some l =>
    rw [e] at h
    refine ⟨l, rfl, ?_, h⟩
    cases buy with
    | true => rw [hG.chain.2.2] at e; exact List.mem_of_getLast? e
    | false => rw [hG.chain.2.1] at e; exact List.mem_of_mem_head? e
theorem ends_mem {σ : Sd} {ll : List Nat} (hG : Good σ ll) {buy : Bool} {l : Nat} (e : σ.ends buy = some l) : l ∈ ll := by
  cases buy with
  | true => rw [hG.chain.2.2] at e; exact List.mem_of_getLast? e
  | false => rw [hG.chain.2.1] at e; exact List.mem_of_mem_head? e
section
variable {ob : Nat → Nat} {m c eb bb : Nat} {g : Gp} {W W' : World} {q : Nat → List Nat} {tot : Nat → Int} {lev : Nat → Option Nat}
/-- The order's three cells that say where it lies, cleared. -/
def offO (oc : Nat → Nat → Value) (i : Nat) : Nat → Nat → Value :=
  let o1 := upN oc i (upd (oc i) 9 (.pointer none))
  let o2 := upN o1 i (upd (o1 i) 10 (.pointer none))
  upN o2 i (upd (o2 i) 11 (.pointer none))
theorem offO_other (oc : Nat → Nat → Value) {i j : Nat} (h : j ≠ i) : offO oc i j = oc j := by
  unfold offO
  rw [upN_other _ _ h, upN_other _ _ h, upN_other _ _ h]
theorem offO_lt (oc : Nat → Nat → Value) (i j k : Nat) (h : k < 9) : offO oc i j k = oc j k := by
  simp only [offO, updN_app]
  rw [if_neg (fun h => by omega), if_neg (fun h => by omega), if_neg (fun h => by omega)]
theorem Ph.off (h : Ph ob m eb bb g W) {i : Nat} (hi : i < m) : Ph ob m eb bb { g with oc := offO g.oc i } (((W.setCell ⟨ob i, 9, none⟩ (.pointer none)).setCell ⟨ob i, 10, none⟩ (.pointer none)).setCell ⟨ob i, 11, none⟩ (.pointer none)) :=
  ((h.setO hi (by omega) (.pointer none)).setO hi (j := 10) (by omega) (.pointer none)).setO hi (j := 11) (by omega) (.pointer none)
/-- A row of orders that is nobody else's. -/
structure Qrow (ob : Nat → Nat) (g : Gp) (qv : Value) (T : List Nat) (W : World) : Prop where
  own : W.ownsRow Base.B 34 1 qv T.length (T.map fun i => pt (ob i))
  far : ∀ b, qv.ownBlock = some b → (g.ec 5).ownBlock ≠ some b
theorem Ph.grownQ (h : Ph ob m eb bb g W) {qv : Value} {T : List Nat} (hq : Qrow ob g qv T W) (hg : W.grownBy W' qv.ownBlock) : Ph ob m eb bb g W' ∧ Fr (fun b => qv.ownBlock = some b) W W' := by
  have F := Fr.grown (n' := 0) (v' := undef) (xs' := []) hq.own (by simp [rowTag]) hg
  have na : ∀ {b t n}, Blk W b t n → t ≠ 34 → ¬ qv.ownBlock = some b := fun hb ht e => hb.neRow hq.own ht e
  exact ⟨h.fr F (na h.en.blk (by decide)) (na h.bk (by decide)) (fun b hb => na hb (by decide)) (fun i hi => na (h.ord i hi).blk (by decide)) (fun b hb e => rowNotTagged (T := [34]) h.flr (by decide) hb (rowTagged hq.own (by decide) e)) (fun b hb e => hq.far b e hb), F⟩
end
end Go.Proofs.Ybulkjrk
