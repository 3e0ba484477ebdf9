/-
  OWN WORK: the law's own reckoning, in plain words.
-/
import Derived.Test.YbulkjrkP1
namespace Go.Proofs.Ybulkjrk
set_option linter.unusedSimpArgs false
set_option linter.unusedVariables false
section
variable {s : Nat → Stp} {lp : Int}
/-- The triggered ones below t, in order. -/
def Tl (s : Nat → Stp) (lp : Int) (t : Nat) : List Nat := (List.range t).filter (trg s lp)
theorem Tl_yes {t : Nat} (h : trg s lp t = true) : Tl s lp (t + 1) = Tl s lp t ++ [t] := by simp [Tl, List.range_succ, h]
theorem Tl_no {t : Nat} (h : trg s lp t = false) : Tl s lp (t + 1) = Tl s lp t := by simp [Tl, List.range_succ, h]
theorem Tl_mem {t i : Nat} : i ∈ Tl s lp t ↔ (i < t ∧ trg s lp i = true) := by simp [Tl]
theorem Tl_up (t : Nat) : (Tl s lp t).Pairwise (· < ·) := List.Pairwise.filter _ List.pairwise_lt_range
theorem up_ext : ∀ (A B : List Nat), A.Pairwise (· < ·) → B.Pairwise (· < ·) → (∀ i, i ∈ A ↔ i ∈ B) → A = B
  | [], [], _, _, _ => rfl
  | [], b :: B, _, _, h => by have := (h b).2 (by simp); simp at this
  | a :: A, [], _, _, h => by have := (h a).1 (by simp); simp at this
  | a :: A, b :: B, ha, hb, h => by
    obtain ⟨a1, a2⟩ := List.pairwise_cons.1 ha
    obtain ⟨b1, b2⟩ := List.pairwise_cons.1 hb
    have e : a = b := by
      have h1 := (h a).1 (by simp)
      have h2 := (h b).2 (by simp)
      simp only [List.mem_cons] at h1 h2
      rcases h1 with h1 | h1
      · exact h1
      · rcases h2 with h2 | h2
        · exact h2.symm
        · have := a1 b h2; have := b1 a h1; omega
    subst e
    rw [up_ext A B a2 b2 (fun i => by
      constructor
      · intro hi
        have h1 := (h i).1 (by simp [hi])
        have := a1 i hi
        simp only [List.mem_cons] at h1
        rcases h1 with h1 | h1
        · omega
        · exact h1
      · intro hi
        have h1 := (h i).2 (by simp [hi])
        have := b1 i hi
        simp only [List.mem_cons] at h1
        rcases h1 with h1 | h1
        · omega
        · exact h1)]
theorem T_is {T : List Nat} {n : Nat} (hup : T.Pairwise (· < ·)) (h : ∀ i, i ∈ T ↔ (i < n ∧ i ∉ ([] : List Nat) ∧ trg s lp i = true)) : T = Tl s lp n :=
  up_ext _ _ hup (Tl_up n) (fun i => by rw [h i, Tl_mem]; simp)
theorem act1_mem (st : List Nat × List (Int × Nat)) (x i : Nat) : i ∈ (act1 s st x).1 ↔ (i ∈ st.1 ∨ (i = x ∧ ¬ st.1.any (bars s x) = true ∧ ¬ (s x).lim = 0)) := by
  unfold act1
  split
  · next h => simp [h]
  · next h =>
    split
    · next h0 => simp [h0]
    · next h0 => simp [h, h0]
/-- Who rests, of the triggered below n: settled at its own turn. -/
theorem rest_at {i n : Nat} (h : i < n) : i ∈ (actAll s (Tl s lp n)).1 ↔ i ∈ (actAll s (Tl s lp (i + 1))).1 := by
  obtain ⟨k, rfl⟩ : ∃ k, n = i + 1 + k := ⟨n - (i + 1), by omega⟩
  clear h
  induction k with
  | zero => rfl
  | succ k ih =>
    rw [← ih]
    cases ht : trg s lp (i + 1 + k) with
    | false => rw [show i + 1 + (k + 1) = i + 1 + k + 1 by omega, Tl_no ht]
    | true =>
      rw [show i + 1 + (k + 1) = i + 1 + k + 1 by omega, Tl_yes ht, actAll_snoc, act1_mem]
      constructor
      · rintro (h | ⟨h, _⟩)
        · exact h
        · omega
      · exact .inl
theorem rest_lt {i t : Nat} (h : i ∈ (actAll s (Tl s lp t)).1) : i < t ∧ trg s lp i = true := Tl_mem.1 (actAll_sub s _ i h)
/-- How many orders the map holds. -/
structure Cnt (s : Nat → Stp) (lp : Int) (t k : Nat) : Prop where
  eq : k + (Tl s lp t).length = t + (actAll s (Tl s lp t)).1.length
theorem Cnt.rest {t k : Nat} (h : Cnt s lp t k) (ht : t ∈ (actAll s (Tl s lp (t + 1))).1) : Cnt s lp (t + 1) (k + 1) := by
  have h1 := (rest_lt ht).2
  have hnot : t ∉ (actAll s (Tl s lp t)).1 := fun e => by have := (rest_lt e).1; omega
  have e := h.eq
  rw [Tl_yes h1, actAll_snoc] at ht
  have h2 := (act1_mem _ _ _).1 ht
  rcases h2 with h2 | ⟨_, h3, h4⟩
  · exact absurd h2 hnot
  · refine ⟨?_⟩
    rw [Tl_yes h1, actAll_snoc]
    unfold act1
    rw [if_neg h3, if_neg h4]
    simp
    omega
theorem Cnt.gone {t k : Nat} (h : Cnt s lp t k) (h1 : trg s lp t = true) (ht : t ∉ (actAll s (Tl s lp (t + 1))).1) : Cnt s lp (t + 1) k := by
  have e := h.eq
  rw [Tl_yes h1, actAll_snoc, act1_mem] at ht
  refine ⟨?_⟩
  rw [Tl_yes h1, actAll_snoc]
  unfold act1
  split
  · simp; omega
  · next h3 =>
    split
    · simp; omega
    · next h4 => exact absurd (.inr ⟨rfl, h3, h4⟩) ht
theorem Cnt.wait {t k : Nat} (h : Cnt s lp t k) (h1 : trg s lp t = false) : Cnt s lp (t + 1) (k + 1) := by
  have e := h.eq
  refine ⟨?_⟩
  rw [Tl_no h1]
  omega
/-- What the law keeps of those who rest. -/
structure Agg (s : Nat → Stp) (R : List Nat) (bN sN : Bool) (mB mS : Int) : Prop where
  bn : bN = true ↔ ∃ j ∈ R, (s j).sell = false
  sn : sN = true ↔ ∃ j ∈ R, (s j).sell = true
  bx : ∀ x, (bN = true ∧ x ≤ mB) ↔ ∃ j ∈ R, (s j).sell = false ∧ x ≤ (s j).lim
  sx : ∀ x, (sN = true ∧ mS ≤ x) ↔ ∃ j ∈ R, (s j).sell = true ∧ (s j).lim ≤ x
variable {R : List Nat} {bN sN : Bool} {mB mS : Int}
theorem Agg.nil (s : Nat → Stp) : Agg s [] false false 0 0 := ⟨by simp, by simp, by simp, by simp⟩
theorem Agg.zBuy (h : Agg s R bN sN mB mS) {i : Nat} (h0 : (s i).lim = 0) (hs : (s i).sell = false) : R.any (bars s i) = true ↔ sN = true := by
  rw [h.sn, List.any_eq_true]
  refine exists_congr fun j => and_congr_right fun _ => ?_
  simp [bars, reach, h0, hs]
theorem Agg.zSell (h : Agg s R bN sN mB mS) {i : Nat} (h0 : (s i).lim = 0) (hs : (s i).sell = true) : R.any (bars s i) = true ↔ bN = true := by
  rw [h.bn, List.any_eq_true]
  refine exists_congr fun j => and_congr_right fun _ => ?_
  simp [bars, reach, h0, hs]
theorem Agg.buy (h : Agg s R bN sN mB mS) {i : Nat} (h0 : ¬ (s i).lim = 0) (hs : (s i).sell = false) : R.any (bars s i) = true ↔ (sN = true ∧ mS ≤ (s i).lim) := by
  rw [h.sx, List.any_eq_true]
  refine exists_congr fun j => and_congr_right fun _ => ?_
  cases hj : (s j).sell <;> simp [bars, reach, h0, hs, hj]
theorem Agg.sell (h : Agg s R bN sN mB mS) {i : Nat} (h0 : ¬ (s i).lim = 0) (hs : (s i).sell = true) : R.any (bars s i) = true ↔ (bN = true ∧ (s i).lim ≤ mB) := by
  rw [h.bx, List.any_eq_true]
  refine exists_congr fun j => and_congr_right fun _ => ?_
  cases hj : (s j).sell <;> simp [bars, reach, h0, hs, hj]
theorem Agg.addB (h : Agg s R bN sN mB mS) {i : Nat} (hs : (s i).sell = false) {mB' : Int} (hm : (bN = true ∧ (s i).lim ≤ mB ∧ mB' = mB) ∨ ((bN = false ∨ mB < (s i).lim) ∧ mB' = (s i).lim)) : Agg s (R ++ [i]) true sN mB' mS := by
  refine ⟨⟨fun _ => ⟨i, by simp, hs⟩, fun _ => rfl⟩, ?_, fun x => ?_, fun x => ?_⟩
  · rw [h.sn]
    constructor
    · rintro ⟨j, hj, e⟩; exact ⟨j, by simp [hj], e⟩
    · rintro ⟨j, hj, e⟩
      rcases List.mem_append.1 hj with hj | hj
      · exact ⟨j, hj, e⟩
      · simp at hj; subst hj; rw [hs] at e; cases e
  · have hb := h.bx x
    constructor
    · rintro ⟨_, hx⟩
      rcases hm with ⟨h1, h2, rfl⟩ | ⟨_, rfl⟩
      · obtain ⟨j, hj, e⟩ := hb.1 ⟨h1, hx⟩
        exact ⟨j, by simp [hj], e⟩
      · exact ⟨i, by simp, hs, hx⟩
    · rintro ⟨j, hj, e1, e2⟩
      refine ⟨rfl, ?_⟩
      rcases List.mem_append.1 hj with hj | hj
      · obtain ⟨c1, c2⟩ := hb.2 ⟨j, hj, e1, e2⟩
        rcases hm with ⟨_, _, rfl⟩ | ⟨h1 | h1, rfl⟩
        · exact c2
        · rw [h1] at c1; cases c1
        · omega
      · simp at hj
        subst hj
        rcases hm with ⟨_, h2, rfl⟩ | ⟨_, rfl⟩ <;> omega
  · rw [h.sx]
    constructor
    · rintro ⟨j, hj, e⟩; exact ⟨j, by simp [hj], e⟩
    · rintro ⟨j, hj, e⟩
      rcases List.mem_append.1 hj with hj | hj
      · exact ⟨j, hj, e⟩
      · simp at hj; subst hj; rw [hs] at e; cases e.1
theorem Agg.addS (h : Agg s R bN sN mB mS) {i : Nat} (hs : (s i).sell = true) {mS' : Int} (hm : (sN = true ∧ mS ≤ (s i).lim ∧ mS' = mS) ∨ ((sN = false ∨ (s i).lim < mS) ∧ mS' = (s i).lim)) : Agg s (R ++ [i]) bN true mB mS' := by
  refine ⟨?_, ⟨fun _ => ⟨i, by simp, hs⟩, fun _ => rfl⟩, fun x => ?_, fun x => ?_⟩
  · rw [h.bn]
    constructor
    · rintro ⟨j, hj, e⟩; exact ⟨j, by simp [hj], e⟩
    · rintro ⟨j, hj, e⟩
      rcases List.mem_append.1 hj with hj | hj
      · exact ⟨j, hj, e⟩
      · simp at hj; subst hj; rw [hs] at e; cases e
  · rw [h.bx]
    constructor
    · rintro ⟨j, hj, e⟩; exact ⟨j, by simp [hj], e⟩
    · rintro ⟨j, hj, e⟩
      rcases List.mem_append.1 hj with hj | hj
      · exact ⟨j, hj, e⟩
      · simp at hj; subst hj; rw [hs] at e; cases e.1
  · have hb := h.sx x
    constructor
    · rintro ⟨_, hx⟩
      rcases hm with ⟨h1, h2, rfl⟩ | ⟨_, rfl⟩
      · obtain ⟨j, hj, e⟩ := hb.1 ⟨h1, hx⟩
        exact ⟨j, by simp [hj], e⟩
      · exact ⟨i, by simp, hs, hx⟩
    · rintro ⟨j, hj, e1, e2⟩
      refine ⟨rfl, ?_⟩
      rcases List.mem_append.1 hj with hj | hj
      · obtain ⟨c1, c2⟩ := hb.2 ⟨j, hj, e1, e2⟩
        rcases hm with ⟨_, _, rfl⟩ | ⟨h1 | h1, rfl⟩
        · exact c2
        · rw [h1] at c1; cases c1
        · omega
      · simp at hj
        subst hj
        rcases hm with ⟨_, h2, rfl⟩ | ⟨_, rfl⟩ <;> omega
end
end Go.Proofs.Ybulkjrk
