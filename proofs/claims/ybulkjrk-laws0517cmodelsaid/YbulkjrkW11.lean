/-
  OWN WORK: takeCrossed, plain part: what a round keeps.
-/
import Derived.Test.YbulkjrkW10
namespace Go.Proofs.Ybulkjrk
open Go.RowKit
set_option linter.unusedSimpArgs false
set_option linter.unusedVariables false
set_option linter.unusedSectionVars false
variable [Base]
def offL (oc : Nat → Nat → Value) (A : List Nat) : Nat → Nat → Value := A.foldl offO oc
theorem offL_snoc (oc : Nat → Nat → Value) (A : List Nat) (i : Nat) : offL oc (A ++ [i]) = offO (offL oc A) i := by simp [offL]
theorem offL_other : ∀ (A : List Nat) (oc : Nat → Nat → Value) {j : Nat}, j ∉ A → offL oc A j = oc j
  | [], _, _, _ => rfl
  | a :: A, oc, j, h => by
    show offL (offO oc a) A j = _
    rw [offL_other A _ (fun hh => h (by simp [hh])), offO_other _ (fun e => h (by simp [e]))]
theorem offL_lt : ∀ (A : List Nat) (oc : Nat → Nat → Value) (j k : Nat), k < 9 → offL oc A j k = oc j k
  | [], _, _, _, _ => rfl
  | a :: A, oc, j, k, h => by
    show offL (offO oc a) A j k = _
    rw [offL_lt A _ _ _ h, offO_lt _ _ _ _ h]
section
variable {ob : Nat → Nat} {m c eb bb : Nat} {g : Gp} {W W' : World} {q : Nat → List Nat} {tot : Nat → Int} {lev : Nat → Option Nat}
structure Tk (ob : Nat → Nat) (m c eb bb : Nat) (g : Gp) (q : Nat → List Nat) (tot : Nat → Int) (lev : Nat → Option Nat) (k : Nat) (price : Int) (T0 : List Nat) (W0 : World) (qv0 : Value) (g1 : Gp) (lev1 : Nat → Option Nat) (qv : Value) (T : List Nat) (W : World) : Prop where
  ph : Ph ob m eb bb g1 W
  lg : Lg m c ob g1 q tot lev1
  row : Qrow ob g1 qv (T0 ++ T) W
  on : ∀ j, j < 4 → ∀ i p, On g1 q j i p ↔ (On g q j i p ∧ ¬ (j = k ∧ i ∈ T))
  got : ∀ i ∈ T, ∃ p, On g q k i p ∧ reach (buyk k) price p = true
  nd : (T0 ++ T).Nodup
  lt : ∀ i ∈ T0 ++ T, i < m
  oc : ∀ i j, j < 9 → g1.oc i j = g.oc i j
  ec : ∀ j, j ≠ 6 → g1.ec j = g.ec j
  pn : g1.pn = g.pn
  px : g1.px = g.px
  lev0 : ∀ i ∈ T0 ++ T, lev1 i = none
  levO : ∀ i, i ∉ T → lev1 i = lev i
  fr : Fr (fun b => Tagged addTags W0 b ∨ qv0.ownBlock = some b) W0 W
  qb : qv.ownBlock = qv0.ownBlock ∨ ∀ b, qv.ownBlock = some b → W0.heap.size ≤ b
theorem Tk.start (h : Ph ob m eb bb g W) (L : Lg m c ob g q tot lev) {k : Nat} {price : Int} {T0 : List Nat} {qv : Value} (hr : Qrow ob g qv T0 W) (nd : T0.Nodup) (h0 : ∀ i ∈ T0, i < m ∧ lev i = none) : Tk ob m c eb bb g q tot lev k price T0 W qv g lev qv [] W :=
  ⟨h, L, by simpa using hr, fun j hj i p => by simp, fun i hi => by simp at hi, by simpa using nd, fun i hi => (h0 i (by simpa using hi)).1, fun _ _ _ => rfl, fun _ _ => rfl, rfl, rfl, fun i hi => (h0 i (by simpa using hi)).2, fun _ _ => rfl, Fr.refl _ _, .inl rfl⟩
/-- One level more. -/
theorem Tk.next {k : Nat} {price : Int} {T0 : List Nat} {W0 W1 W4 : World} {qv0 qv1 qv4 : Value} {g1 : Gp} {lev1 : Nat → Option Nat} {T : List Nat} (hk : k < 4) (K : Tk ob m c eb bb g q tot lev k price T0 W0 qv0 g1 lev1 qv1 T W1) {x : Nat} {L R : List Nat} (hLR : L ++ x :: R = g1.ll k) (hre : reach (buyk k) price ((g1.σ k).price x) = true) {σ' : Sd} (hσ : σ'.price = (g1.σ k).price) {v6 : Value}
    (P4 : Ph ob m eb bb { g1 with oc := offL g1.oc (q x), σ := upN g1.σ k σ', ll := upN g1.ll k (L ++ R), fl := g1.fl ++ [x], ec := upd g1.ec 6 v6 } W4) (R4 : Qrow ob { g1 with oc := offL g1.oc (q x), σ := upN g1.σ k σ', ll := upN g1.ll k (L ++ R), fl := g1.fl ++ [x], ec := upd g1.ec 6 v6 } qv4 (T0 ++ (T ++ q x)) W4) (F4 : Fr (fun b => Tagged addTags W0 b ∨ qv0.ownBlock = some b) W0 W4) (hb4 : qv4.ownBlock = qv0.ownBlock ∨ ∀ b, qv4.ownBlock = some b → W0.heap.size ≤ b) :
    ∃ g4 lev4, Tk ob m c eb bb g q tot lev k price T0 W0 qv0 g4 lev4 qv4 (T ++ q x) W4 ∧ (g4.ll k).length + 1 = (g1.ll k).length := by
  have hxk : x ∈ g1.ll k := by rw [← hLR]; simp
  have V := K.lg.lv k hk x hxk
  have hG := K.ph.good k hk
  have nd := hG.nd
  rw [← hLR] at nd
  obtain ⟨nL, nxR, nLR⟩ := List.nodup_append.1 nd
  obtain ⟨hxR, nR⟩ := List.nodup_cons.1 nxR
  have hxL : x ∉ L := fun h => nLR x h x (by simp) rfl
  have mem : ∀ j, j < 4 → ∀ l, l ∈ upN g1.ll k (L ++ R) j ↔ (l ∈ g1.ll j ∧ l ≠ x) := fun j hj l => by
    by_cases e : j = k
    · subst e
      rw [upN_same, ← hLR]
      simp
      constructor
      · rintro (h | h)
        · exact ⟨.inl h, fun e => hxL (e ▸ h)⟩
        · exact ⟨.inr (.inr h), fun e => hxR (e ▸ h)⟩
      · rintro ⟨h | h | h, hne⟩
        · exact .inl h
        · exact absurd h hne
        · exact .inr h
    · rw [upN_other _ _ e]
      exact ⟨fun h => ⟨h, fun e' => K.ph.dis j k hj hk e l h (e' ▸ hxk)⟩, fun h => h.1⟩
  have notx : ∀ j, j < 4 → ∀ l, l ∈ g1.ll j → l ≠ x → ∀ i ∈ q l, i ∉ q x := fun j hj l hl hne i hi hix => by
    have h1 := ((K.lg.lv j hj l hl).mem i hi).2
    rw [(V.mem i hix).2] at h1
    exact hne (Option.some.inj h1).symm
  have onx : ∀ j, j < 4 → ∀ i p, On { g1 with oc := offL g1.oc (q x), σ := upN g1.σ k σ', ll := upN g1.ll k (L ++ R), fl := g1.fl ++ [x], ec := upd g1.ec 6 v6 } q j i p ↔ (On g1 q j i p ∧ ¬ (j = k ∧ i ∈ q x)) := fun j hj i p => by
    have hpr : ∀ l, (upN g1.σ k σ' j).price l = (g1.σ j).price l := fun l => by
      by_cases e : j = k
      · subst e; rw [upN_same, hσ]
      · rw [upN_other _ _ e]
    constructor
    · rintro ⟨l, hl, hi, hp⟩
      replace hl : l ∈ upN g1.ll k (L ++ R) j := hl
      replace hp : (upN g1.σ k σ' j).price l = p := hp
      rw [mem j hj] at hl
      rw [hpr] at hp
      exact ⟨⟨l, hl.1, hi, hp⟩, fun h => notx j hj l hl.1 hl.2 i hi h.2⟩
    · rintro ⟨⟨l, hl, hi, hp⟩, hn⟩
      refine ⟨l, (mem j hj l).2 ⟨hl, fun e => ?_⟩, hi, (hpr l).trans hp⟩
      subst e
      refine hn ⟨?_, hi⟩
      apply Classical.byContradiction; intro hne
      exact K.ph.dis j k hj hk hne l hl hxk
  have hlx : ∀ i ∈ q x, lev1 i = some x := fun i hi => (V.mem i hi).2
  refine ⟨_, fun i => if i ∈ q x then none else lev1 i, ⟨P4, ⟨fun j hj l hl => ?_, ?_⟩, R4, fun j hj i p => ?_, fun i hi => ?_, ?_, fun i hi => ?_, fun i j hj => ?_, fun j hj => ?_, K.pn, K.px, fun i hi => ?_, fun i hi => ?_, F4, hb4⟩, ?_⟩
  · replace hl : l ∈ upN g1.ll k (L ++ R) j := hl
    rw [mem j hj] at hl
    have V' := K.lg.lv j hj l hl.1
    exact V'.congr (Nat.le_refl _) (Nat.le_refl _) rfl rfl rfl (fun i hi => if_neg (notx j hj l hl.1 hl.2 i hi)) (fun i hi => by show offL g1.oc (q x) i 11 = _; rw [offL_other _ _ (notx j hj l hl.1 hl.2 i hi)]) (fun _ _ => rfl)
  · have h1 := K.lg.len
    have h2 : (L ++ R).length + 1 = (g1.ll k).length := by have := congrArg List.length hLR; simp at this ⊢; omega
    show (g1.fl ++ [x]).length + ((upN g1.ll k (L ++ R) 0).length + (upN g1.ll k (L ++ R) 1).length + (upN g1.ll k (L ++ R) 2).length + (upN g1.ll k (L ++ R) 3).length) ≤ c
    rw [List.length_append, List.length_singleton]
    rcases (by omega : k = 0 ∨ k = 1 ∨ k = 2 ∨ k = 3) with rfl | rfl | rfl | rfl
    · rw [upN_same, upN_other _ _ (by omega), upN_other _ _ (by omega), upN_other _ _ (by omega)]; omega
    · rw [upN_same, upN_other _ _ (by omega), upN_other _ _ (by omega), upN_other _ _ (by omega)]; omega
    · rw [upN_same, upN_other _ _ (by omega), upN_other _ _ (by omega), upN_other _ _ (by omega)]; omega
    · rw [upN_same, upN_other _ _ (by omega), upN_other _ _ (by omega), upN_other _ _ (by omega)]; omega
  · rw [onx j hj, K.on j hj]
    constructor
    · rintro ⟨⟨h1, h2⟩, h3⟩
      exact ⟨h1, fun ⟨e, hi⟩ => (List.mem_append.1 hi).elim (fun hi => h2 ⟨e, hi⟩) (fun hi => h3 ⟨e, hi⟩)⟩
    · rintro ⟨h1, h2⟩
      exact ⟨⟨h1, fun ⟨e, hi⟩ => h2 ⟨e, by simp [hi]⟩⟩, fun ⟨e, hi⟩ => h2 ⟨e, by simp [hi]⟩⟩
  · rcases List.mem_append.1 hi with hi | hi
    · exact K.got i hi
    · exact ⟨_, ((K.on k hk i _).1 ⟨x, hxk, hi, rfl⟩).1, hre⟩
  · rw [← List.append_assoc]
    refine List.nodup_append.2 ⟨K.nd, V.nd, fun a ha b hb e => ?_⟩
    subst e
    have := K.lev0 a ha
    rw [hlx a hb] at this
    cases this
  · rw [← List.append_assoc] at hi
    rcases List.mem_append.1 hi with hi | hi
    · exact K.lt i hi
    · exact (V.mem i hi).1
  · show offL g1.oc (q x) i j = _
    rw [offL_lt _ _ _ _ hj]
    exact K.oc i j hj
  · show upd g1.ec 6 v6 j = _
    rw [upd_other _ _ hj]
    exact K.ec j hj
  · rw [← List.append_assoc] at hi
    show (if i ∈ q x then none else lev1 i) = none
    split
    · rfl
    · rename_i hn
      rcases List.mem_append.1 hi with hi | hi
      · exact K.lev0 i hi
      · exact absurd hi hn
  · show (if i ∈ q x then none else lev1 i) = lev i
    rw [if_neg (fun h => hi (by simp [h]))]
    exact K.levO i (fun h => hi (by simp [h]))
  · show (upN g1.ll k (L ++ R) k).length + 1 = _
    rw [upN_same, ← hLR]
    simp
    omega
end
end Go.Proofs.Ybulkjrk
