import Derived.Test.YbulkjqwF7
namespace Go.Proofs.Ybulkjqw
open Go.RowKit Go.Shelf
set_option linter.unusedSimpArgs false
set_option linter.unusedVariables false

/-- The pick over the nodes with room is the pick of the plain loop. -/
theorem pk_pick (cv cs : Int) (v s : Nat → Int) (N : Nat) : pk v s (roomy cv cs v s N) = if 0 ≤ (pickTo cv cs v s N).1 then (true, (pickTo cv cs v s N).1, (pickTo cv cs v s N).2.1, (pickTo cv cs v s N).2.2) else (false, 0, 0, 0) := by
  induction N with
  | zero => simp [pk, roomy, pickTo]
  | succ k ih =>
    have hb := (pickTo_bd cv cs v s k).2
    rw [roomy, pickTo]
    by_cases hr : cv ≤ v k ∧ cs ≤ s k
    · rw [if_pos hr, pk_snoc, ih]
      generalize pickTo cv cs v s k = Q at *
      obtain ⟨a, b, c⟩ := Q
      dsimp only at hb ⊢
      by_cases h0 : 0 ≤ a
      · simp only [if_pos h0]
        have e : (true = false ∨ b < s k ∨ (s k = b ∧ (c < v k ∨ (v k = c ∧ (k : Int) < a)))) ↔ ((cv ≤ v k ∧ cs ≤ s k) ∧ (a < 0 ∨ b < s k ∨ (s k = b ∧ c < v k))) := by
          constructor
          · rintro (h | h | ⟨h1, h2 | ⟨_, h3⟩⟩)
            · exact absurd h (by simp)
            · exact ⟨hr, .inr (.inl h)⟩
            · exact ⟨hr, .inr (.inr ⟨h1, h2⟩)⟩
            · omega
          · rintro ⟨_, h | h | h⟩
            · omega
            · exact .inr (.inl h)
            · exact .inr (.inr ⟨h.1, .inl h.2⟩)
        by_cases hc : (cv ≤ v k ∧ cs ≤ s k) ∧ (a < 0 ∨ b < s k ∨ (s k = b ∧ c < v k))
        · simp only [if_pos hc, if_pos (e.2 hc)]
          rw [if_pos (by omega)]
        · simp only [if_neg hc, if_neg (fun h => hc (e.1 h)), if_pos h0]
      · simp only [if_neg h0]
        have hc : (cv ≤ v k ∧ cs ≤ s k) ∧ (a < 0 ∨ b < s k ∨ (s k = b ∧ c < v k)) := ⟨hr, .inl (by omega)⟩
        simp only [if_pos hc]
        simp
    · have hc : ¬ ((cv ≤ v k ∧ cs ≤ s k) ∧ ((pickTo cv cs v s k).1 < 0 ∨ (pickTo cv cs v s k).2.1 < s k ∨ (s k = (pickTo cv cs v s k).2.1 ∧ (pickTo cv cs v s k).2.2 < v k))) := fun h => hr h.1
      rw [if_neg hr, ih]
      simp only [if_neg hc]

theorem prevTo_is (cnt : Int → Int) (N : Nat) : 0 ≤ (prevTo cnt N).2 ∧ (∀ k : Nat, k < N → cnt k ≤ (prevTo cnt N).2) ∧ ((prevTo cnt N).1 < 0 → (prevTo cnt N).2 = 0) ∧ (0 ≤ (prevTo cnt N).1 → cnt (prevTo cnt N).1 = (prevTo cnt N).2 ∧ 0 < (prevTo cnt N).2 ∧ ∀ k : Nat, (k : Int) < (prevTo cnt N).1 → cnt k < (prevTo cnt N).2) := by
  induction N with
  | zero => simp [prevTo]
  | succ n ih =>
    obtain ⟨i1, i2, i3, i4⟩ := ih
    have hb := prevTo_bd cnt n
    rw [prevTo]
    by_cases hc : (prevTo cnt n).2 < cnt n
    · simp only [if_pos hc]
      refine ⟨by omega, fun k hk => ?_, fun h => by omega, fun _ => ⟨by first | exact trivial | rfl, by omega, fun k hk => ?_⟩⟩
      · rcases Nat.lt_succ_iff_lt_or_eq.1 hk with h | h
        · have := i2 k h; omega
        · subst h; omega
      · have := i2 k (by omega); omega
    · simp only [if_neg hc]
      refine ⟨i1, fun k hk => ?_, i3, i4⟩
      rcases Nat.lt_succ_iff_lt_or_eq.1 hk with h | h
      · exact i2 k h
      · subst h; omega

theorem cntTo_pos (req : Nat → Int) (h b : Nat) (k : Int) : 0 < cntTo req h b k ↔ ∃ j, j < b ∧ req (h + j) = k := by
  induction b with
  | zero => simp [cntTo]
  | succ b ih =>
    have hb := (cntTo_bd req h b k).1
    rw [cntTo]
    constructor
    · intro hp
      by_cases e : req (h + b) = k
      · exact ⟨b, by omega, e⟩
      · rw [if_neg e] at hp
        obtain ⟨j, hj, hr⟩ := ih.1 (by omega)
        exact ⟨j, by omega, hr⟩
    · rintro ⟨j, hj, hr⟩
      rcases Nat.lt_succ_iff_lt_or_eq.1 hj with h1 | h1
      · have := ih.2 ⟨j, h1, hr⟩
        split <;> omega
      · subst h1
        rw [if_pos hr]; omega

theorem nprev_is (req : Nat → Int) (h B : Nat) (k : Nat) (hk : k ≤ B) : ((nprev req h B k).1 < 0 → (nprev req h B k).2 = 0 ∧ ∀ j, j < k → req (h + j) < 0) ∧
    (0 ≤ (nprev req h B k).1 → cntTo req h B (nprev req h B k).1 = (nprev req h B k).2 ∧ 0 < (nprev req h B k).2 ∧ ∀ j, j < k → 0 ≤ req (h + j) → cntTo req h B (req (h + j)) < (nprev req h B k).2 ∨ (cntTo req h B (req (h + j)) = (nprev req h B k).2 ∧ (nprev req h B k).1 ≤ req (h + j))) := by
  induction k with
  | zero => simp [nprev]
  | succ k ih =>
    obtain ⟨i1, i2⟩ := ih (by omega)
    rw [nprev]
    by_cases hneg : req (h + k) < 0
    · simp only [if_pos hneg]
      refine ⟨fun h0 => ⟨(i1 h0).1, fun j hj => ?_⟩, fun h0 => ⟨(i2 h0).1, (i2 h0).2.1, fun j hj hp => ?_⟩⟩
      · rcases Nat.lt_succ_iff_lt_or_eq.1 hj with g | g
        · exact (i1 h0).2 j g
        · subst g; exact hneg
      · rcases Nat.lt_succ_iff_lt_or_eq.1 hj with g | g
        · exact (i2 h0).2.2 j g hp
        · subst g; omega
    · simp only [if_neg hneg]
      have hpos : 0 < cntTo req h B (req (h + k)) := (cntTo_pos _ _ _ _).2 ⟨k, by omega, rfl⟩
      by_cases hc : (nprev req h B k).2 < cntTo req h B (req (h + k)) ∨ (cntTo req h B (req (h + k)) = (nprev req h B k).2 ∧ req (h + k) < (nprev req h B k).1)
      · simp only [if_pos hc]
        refine ⟨fun h0 => absurd h0 hneg, fun h0 => ⟨by first | exact trivial | rfl, hpos, fun j hj hp => ?_⟩⟩
        rcases Nat.lt_succ_iff_lt_or_eq.1 hj with g | g
        · by_cases hq : 0 ≤ (nprev req h B k).1
          · have := (i2 hq).2.2 j g hp
            omega
          · have := (i1 (by omega)).2 j g
            omega
        · subst g; exact .inr ⟨rfl, Int.le_refl _⟩
      · simp only [if_neg hc]
        by_cases hq : 0 ≤ (nprev req h B k).1
        · refine ⟨fun h0 => by omega, fun h0 => ⟨(i2 h0).1, (i2 h0).2.1, fun j hj hp => ?_⟩⟩
          rcases Nat.lt_succ_iff_lt_or_eq.1 hj with g | g
          · exact (i2 h0).2.2 j g hp
          · subst g; omega
        · have := (i1 (by omega)).1
          exact absurd (Or.inl (by omega)) hc

theorem prev_same (req : Nat → Int) (h B N : Nat) (hrq : ∀ j, j < h + B → -1 ≤ req j ∧ req j < N) : (nprev req h B B).1 = (prevTo (cntTo req h B) N).1 := by
  obtain ⟨p1, p2, p3, p4⟩ := prevTo_is (cntTo req h B) N
  obtain ⟨n1, n2⟩ := nprev_is req h B B (Nat.le_refl _)
  have pb := prevTo_bd (cntTo req h B) N
  have nb := nprev_bd req h B N hrq (by omega) B (Nat.le_refl _)
  generalize prevTo (cntTo req h B) N = p at *
  generalize nprev req h B B = n at *
  by_cases hp : 0 ≤ p.1
  · obtain ⟨a1, a2, a3⟩ := p4 hp
    obtain ⟨j, hj, hr⟩ := (cntTo_pos req h B p.1).1 (by omega)
    by_cases hn : 0 ≤ n.1
    · obtain ⟨b1, b2, b3⟩ := n2 hn
      have c1 := b3 j hj (by omega)
      rw [hr] at c1
      have c2 := p2 n.1.toNat (by omega)
      rw [Int.toNat_of_nonneg hn] at c2
      have c3 := a3 n.1.toNat
      rw [Int.toNat_of_nonneg hn] at c3
      omega
    · have := (n1 (by omega)).2 j hj
      omega
  · by_cases hn : 0 ≤ n.1
    · obtain ⟨b1, b2, b3⟩ := n2 hn
      have c2 := p2 n.1.toNat (by omega)
      rw [Int.toNat_of_nonneg hn] at c2
      have := p3 (by omega)
      omega
    · omega

theorem node_same (req : Nat → Int) (h B N : Nat) (cv cs : Int) (v s : Nat → Int) (hrq : ∀ j, j < h + B → -1 ≤ req j ∧ req j < N) :
    (if (nodeAns req h B N cv cs v s).2 = true then (nodeAns req h B N cv cs v s).1 else -1) = nodeOf req h B N cv cs v s := by
  unfold nodeAns nodeOf
  rw [prev_same req h B N hrq]
  split
  · simp
  · have := (pickTo_bd cv cs v s N).1
    split
    · simp
    · simp; omega

end Go.Proofs.Ybulkjqw
