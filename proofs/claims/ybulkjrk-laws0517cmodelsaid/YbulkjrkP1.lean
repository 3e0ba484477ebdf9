/-
  OWN WORK: the plain model of activation: who is triggered, who rests, which events come.
-/
import Derived.Test.YbulkjrkW1
namespace Go.Proofs.Ybulkjrk
set_option linter.unusedSimpArgs false
set_option linter.unusedVariables false
/-- A stop order in plain words. -/
structure Stp where
  entry : Bool
  sell : Bool
  sp : Int
  lim : Int
  qty : Int
/-- Does order j, resting, stand in the way of order i? -/
def bars (s : Nat → Stp) (i j : Nat) : Bool := ((s j).sell != (s i).sell) && reach (!(s j).sell) (s i).lim (s j).lim
/-- One activation: who rests so far, which events so far. -/
def act1 (s : Nat → Stp) (st : List Nat × List (Int × Nat)) (i : Nat) : List Nat × List (Int × Nat) :=
  if st.1.any (bars s i) then (st.1, st.2 ++ [(5, i), (2, i)])
  else if (s i).lim = 0 then (st.1, st.2 ++ [(5, i)])
  else (st.1 ++ [i], st.2 ++ [(5, i)])
def actAll (s : Nat → Stp) (T : List Nat) : List Nat × List (Int × Nat) := T.foldl (act1 s) ([], [])
def trg (s : Nat → Stp) (lp : Int) (i : Nat) : Bool := decide (lp ≠ 0) && (if (s i).entry then decide ((s i).sp ≤ lp) else decide (lp ≤ (s i).sp))
theorem actAll_snoc (s : Nat → Stp) (T : List Nat) (i : Nat) : actAll s (T ++ [i]) = act1 s (actAll s T) i := by simp [actAll]
theorem act1_sub (s : Nat → Stp) (st : List Nat × List (Int × Nat)) (x i : Nat) (h : i ∈ (act1 s st x).1) : i ∈ st.1 ∨ i = x := by
  unfold act1 at h
  split at h
  · exact .inl h
  · split at h
    · exact .inl h
    · simpa using h
theorem fold_sub (s : Nat → Stp) : ∀ (T : List Nat) (st : List Nat × List (Int × Nat)), ∀ i ∈ (T.foldl (act1 s) st).1, i ∈ st.1 ∨ i ∈ T
  | [], st, i, h => .inl h
  | x :: T, st, i, h => by
    rcases fold_sub s T _ i h with h1 | h1
    · rcases act1_sub s st x i h1 with h2 | h2
      · exact .inl h2
      · exact .inr (by simp [h2])
    · exact .inr (by simp [h1])
theorem actAll_sub (s : Nat → Stp) (T : List Nat) : ∀ i ∈ (actAll s T).1, i ∈ T := fun i h => (fold_sub s T _ i h).elim (fun h => by simp at h) id
end Go.Proofs.Ybulkjrk
