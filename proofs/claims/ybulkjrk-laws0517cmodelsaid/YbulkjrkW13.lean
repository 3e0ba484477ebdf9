/-
  OWN WORK: takeTriggered.
-/
import Derived.Test.YbulkjrkS13
namespace Go.Proofs.Ybulkjrk
open Go.RowKit
open Go.Sort (swp SWO PermIn SortedIn)
set_option linter.unusedSimpArgs false
set_option linter.unusedVariables false
set_option linter.unusedSectionVars false
variable [Base]
section
variable {ob : Nat → Nat} {m c eb bb : Nat} {g : Gp} {W W' : World} {q : Nat → List Nat} {tot : Nat → Int} {lev : Nat → Option Nat}
theorem On.uniq (h : Ph ob m eb bb g W) (L : Lg m c ob g q tot lev) {j k i : Nat} (hj : j < 4) (hk : k < 4) {p p' : Int} (a : On g q j i p) (b : On g q k i p') : j = k := by
  obtain ⟨l, hl, hi, _⟩ := a
  obtain ⟨l', hl', hi', _⟩ := b
  have h1 := ((L.lv j hj l hl).mem i hi).2
  rw [((L.lv k hk l' hl').mem i hi').2] at h1
  have e : l' = l := Option.some.inj h1
  subst e
  apply Classical.byContradiction; intro hne
  exact h.dis j k hj hk hne l' hl hl'
/-- The lt of numbers. -/
theorem swoN : SWO (fun x y : Nat => decide (x < y)) :=
  ⟨fun x => by simp, fun x y z h1 h2 => by simp at h1 h2 ⊢; omega, fun x y z h1 h2 => by simp at h1 h2 ⊢; omega⟩
/-- A sorted permutation without repeats goes up strictly. -/
theorem sorted_up {n : Nat} {T : List Nat} {d : Array Nat} (hn : T.length = n) (nd : T.Nodup) (hp : PermIn 0 n T.toArray d) (hs : SortedIn (fun x y : Nat => decide (x < y)) 0 n d) : d.toList.Pairwise (· < ·) ∧ d.toList.Perm T := by
  have hP : d.toList.Perm T := perm_whole hp (by simp [hn])
  have nd' := hP.nodup_iff.2 nd
  have hsz : d.size = n := by have := hp.1; simp at this; omega
  refine ⟨List.pairwise_iff_getElem.2 fun i j hi hj hij => ?_, hP⟩
  have h1 := hs i j (Nat.zero_le _) hij (by simp at hj; omega)
  have h2 := (List.pairwise_iff_getElem.1 nd') i j hi hj hij
  rw [getElem!_pos d j (by simpa using hj), getElem!_pos d i (by simpa using hi)] at h1
  simp only [Array.getElem_toList] at h2 ⊢
  simp at h1
  omega
/-- What takeTriggered answers. -/
structure Trig (ob : Nat → Nat) (m c eb bb : Nat) (g : Gp) (q : Nat → List Nat) (tot : Nat → Int) (lev : Nat → Option Nat) (price : Int) (W0 : World) (qv0 : Value) (g1 : Gp) (lev1 : Nat → Option Nat) (qv : Value) (T : List Nat) (W : World) : Prop where
  ph : Ph ob m eb bb g1 W
  lg : Lg m c ob g1 q tot lev1
  row : Qrow ob g1 qv T W
  up : T.Pairwise (· < ·)
  mem : ∀ i, i ∈ T ↔ ∃ p, (On g q 2 i p ∧ reach true price p = true) ∨ (On g q 3 i p ∧ reach false price p = true)
  on : ∀ j, j < 4 → ∀ i p, On g1 q j i p ↔ (On g q j i p ∧ i ∉ T)
  lt : ∀ i ∈ T, i < m
  oc : ∀ i j, j < 9 → g1.oc i j = g.oc i j
  ec : ∀ j, j ≠ 6 → j ≠ 7 → g1.ec j = g.ec j
  pn : g1.pn = g.pn
  px : g1.px = g.px
  levT : ∀ i ∈ T, lev1 i = none
  levO : ∀ i, i ∉ T → lev1 i = lev i
  fr : Fr (fun b => Tagged addTags W0 b ∨ qv0.ownBlock = some b) W0 W
  qb : qv.ownBlock = qv0.ownBlock ∨ ∀ b, qv.ownBlock = some b → W0.heap.size ≤ b
/-- The two sides' takings, joined. -/
theorem Tk.join {price : Int} {W0 W1 W2 : World} {qv0 qv1 qv2 : Value} {g1 g2 : Gp} {lev1 lev2 : Nat → Option Nat} {T2 T3 : List Nat} (h : Ph ob m eb bb g W0) (L : Lg m c ob g q tot lev)
    (K1 : Tk ob m c eb bb g q tot lev 2 price [] W0 qv0 g1 lev1 qv1 T2 W1) (U1 : ∀ l ∈ g1.ll 2, reach (buyk 2) price ((g1.σ 2).price l) = false)
    (K2 : Tk ob m c eb bb g1 q tot lev1 3 price T2 W1 qv1 g2 lev2 qv2 T3 W2) (U2 : ∀ l ∈ g2.ll 3, reach (buyk 3) price ((g2.σ 3).price l) = false) :
    (∀ i, i ∈ T2 ++ T3 ↔ ∃ p, (On g q 2 i p ∧ reach true price p = true) ∨ (On g q 3 i p ∧ reach false price p = true)) ∧
    (∀ j, j < 4 → ∀ i p, On g2 q j i p ↔ (On g q j i p ∧ i ∉ T2 ++ T3)) ∧ (∀ i j, j < 9 → g2.oc i j = g.oc i j) ∧ (∀ j, j ≠ 6 → g2.ec j = g.ec j) ∧ g2.pn = g.pn ∧ g2.px = g.px ∧ (∀ i ∈ T2 ++ T3, lev2 i = none) ∧ (∀ i, i ∉ T2 ++ T3 → lev2 i = lev i) ∧
    Fr (fun b => Tagged addTags W0 b ∨ qv0.ownBlock = some b) W0 W2 ∧ (qv2.ownBlock = qv0.ownBlock ∨ ∀ b, qv2.ownBlock = some b → W0.heap.size ≤ b) := by
  have hon : ∀ j, j < 4 → ∀ i p, On g2 q j i p ↔ (On g q j i p ∧ ¬ (j = 2 ∧ i ∈ T2) ∧ ¬ (j = 3 ∧ i ∈ T3)) := fun j hj i p => by
    rw [K2.on j hj, K1.on j hj, and_assoc]
  have g2' : ∀ i ∈ T2, ∃ p, On g q 2 i p ∧ reach true price p = true := fun i hi => K1.got i hi
  have g3' : ∀ i ∈ T3, ∃ p, On g q 3 i p ∧ reach false price p = true := fun i hi => by
    obtain ⟨p, h1, h2⟩ := K2.got i hi
    exact ⟨p, ((K1.on 3 (by omega) i p).1 h1).1, h2⟩
  have mem : ∀ i, i ∈ T2 ++ T3 ↔ ∃ p, (On g q 2 i p ∧ reach true price p = true) ∨ (On g q 3 i p ∧ reach false price p = true) := fun i => by
    constructor
    · intro hi
      rcases List.mem_append.1 hi with h1 | h1
      · obtain ⟨p, h2⟩ := g2' i h1
        exact ⟨p, .inl h2⟩
      · obtain ⟨p, h2⟩ := g3' i h1
        exact ⟨p, .inr h2⟩
    · rintro ⟨p, ⟨h1, h2⟩ | ⟨h1, h2⟩⟩
      · apply Classical.byContradiction; intro hn
        have hn2 : i ∉ T2 := fun hh => hn (by simp [hh])
        obtain ⟨l, hl, _, hp⟩ := (K1.on 2 (by omega) i p).2 ⟨h1, fun hh => hn2 hh.2⟩
        have := U1 l hl
        rw [hp] at this
        rw [show buyk 2 = true from rfl, h2] at this
        cases this
      · apply Classical.byContradiction; intro hn
        have hn3 : i ∉ T3 := fun hh => hn (by simp [hh])
        obtain ⟨l, hl, _, hp⟩ := (hon 3 (by omega) i p).2 ⟨h1, fun hh => by omega, fun hh => hn3 hh.2⟩
        have := U2 l hl
        rw [hp] at this
        rw [show buyk 3 = false from rfl, h2] at this
        cases this
  refine ⟨mem, fun j hj i p => ?_, fun i j hj => (K2.oc i j hj).trans (K1.oc i j hj), fun j hj => (K2.ec j hj).trans (K1.ec j hj), K2.pn.trans K1.pn, K2.px.trans K1.px, K2.lev0, fun i hi => ?_, ?_, ?_⟩
  · rw [hon j hj]
    constructor
    · rintro ⟨h1, h2, h3⟩
      refine ⟨h1, fun hi => ?_⟩
      rcases List.mem_append.1 hi with h4 | h4
      · obtain ⟨p', h5, _⟩ := g2' i h4
        exact h2 ⟨On.uniq h L hj (by omega) h1 h5, h4⟩
      · obtain ⟨p', h5, _⟩ := g3' i h4
        exact h3 ⟨On.uniq h L hj (by omega) h1 h5, h4⟩
    · rintro ⟨h1, h2⟩
      exact ⟨h1, fun hh => h2 (by simp [hh.2]), fun hh => h2 (by simp [hh.2])⟩
  · rw [K2.levO i (fun hh => hi (by simp [hh])), K1.levO i (fun hh => hi (by simp [hh]))]
  · refine K1.fr.join K2.fr (fun b hb e => ?_)
    rcases e with e | e
    · exact (Tagged.back K1.fr hb e).elim id .inl
    · rcases K1.qb with h1 | h1
      · exact .inr (by rw [← h1]; exact e)
      · have := h1 b e
        omega
  · rcases K2.qb with h1 | h1
    · rw [h1]; exact K1.qb
    · exact .inr fun b hb => Nat.le_trans K1.fr.size (h1 b hb)
/-- The queue's row has been turned about. -/
theorem Ph.frQ (h : Ph ob m eb bb g W) {qv : Value} {T : List Nat} (hq : Qrow ob g qv T W) (F : Fr (fun b => qv.ownBlock = some b) W W') : Ph ob m eb bb g W' := by
  have na : ∀ {b t n}, Blk W b t n → t ≠ 34 → ¬ qv.ownBlock = some b := fun hb ht e => hb.neRow hq.own ht e
  exact h.fr F (na h.en.blk (by decide)) (na h.bk (by decide)) (fun b hb => na hb (by decide)) (fun i hi => na (h.ord i hi).blk (by decide)) (fun b hb e => rowNotTagged (T := [34]) h.flr (by decide) hb (rowTagged hq.own (by decide) e)) (fun b hb e => hq.far b e hb)
theorem SR.fr {m' : Nat} {qb n cap : Nat} {d : Array Nat} (hS : SR ob m' W qb n cap d W') {e : TypeId} (ht : rowTag e) {cs : Array Value} {f : Nat × Nat} (hb : W.heap[qb]? = some (.cells cs e f)) : Fr (fun b => b = qb) W W' :=
  ⟨hS.os, hS.tape, hS.output, hS.size, fun k hk hne => hS.blk k hk hne, fun b cs' t fr' hnt h => by
    have hlt := (Array.getElem?_eq_some_iff.1 h).1
    refine ⟨cs', (hS.blk b hlt (fun e' => ?_)).trans h, rfl⟩
    subst e'
    rw [hb] at h
    cases h
    exact hnt ht⟩
end
end Go.Proofs.Ybulkjrk
