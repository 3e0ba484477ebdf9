import Derived.Test.YbulkjqwF5
namespace Go.Proofs.Ybulkjqw
open Go.RowKit Go.Shelf
set_option linter.unusedSimpArgs false
set_option linter.unusedVariables false

theorem op_round {P : Program} {ops : Array Oper} {Q : Exit → Act → World → Prop} {i : Nat} {K : Act → World → Prop} {a : Act} {w : World} (l n : Nat) (hd : ∀ o c, ops[i]? = some o → o.op ≠ .defer c) (hQ : ¬ LetsOut Q)
    (h : wpOp P ops Q i K a w) : wpOpIn (Fence.wide.inRound l) n P ops Q i K a w := by
  unfold wpOp at h
  unfold wpOpIn
  cases hi : ops[i]? with
  | none => rw [hi] at h; exact h
  | some o =>
    rw [hi] at h
    dsimp only at h ⊢
    split
    · rename_i hw
      rw [if_pos hw] at h
      rcases h with h | ⟨_, hL⟩
      · refine ⟨fun _ _ => trivial, ?_⟩
        rw [Oper.semAt_eq _ _ _ (fun c => hd o c hi)]
        unfold Oper.wp at h
        generalize (execOp a.eval o).run P w = r at *
        cases r with
        | ok x w' =>
          cases x <;> simp only [Oper.upon, Oper.uponIn] at h ⊢
          case value u => exact h
          case skip => exact h
          case defer d => exact h
          case enter f args =>
            refine ⟨fun hh => (by cases hh), CallsIn.inRound l (callsIn_wide.2 (Calls.mono h fun e w'' he => ?_))⟩
            cases e <;> exact he
          case row row args =>
            refine ⟨fun hh => (by cases hh), fun c cs _ => ?_⟩
            obtain ⟨v, w'', r, s⟩ := h c cs
            exact ⟨v, w'', r, stepsIn_wide.2 s⟩
        | halt x w' =>
          cases x <;> simp only [Oper.upon, Oper.uponIn] at h ⊢
          case panic u => exact h
      · exact absurd hL hQ
    · rename_i hw
      rw [if_neg hw] at h
      exact ⟨fun _ _ => trivial, h⟩

theorem any_round {P : Program} {md : Region.Mode} {ops : Array Oper} {Q : Exit → Act → World → Prop} (l n : Nat) (hd : ∀ (i : Nat) o c, ops[i]? = some o → o.op ≠ .defer c) (hQ : ¬ LetsOut Q) :
    ∀ (fuel : Nat) (listed : Array Bool) (a : Act) (w : World), wpAny P md ops Q fuel listed a w → wpAnyIn (Fence.wide.inRound l) n P md ops Q fuel listed a w
  | 0, _, _, _, h => h
  | fuel + 1, _, _, _, h => ⟨h.1, fun i hi => op_round l n (fun o c => hd i o c) hQ (wpOp_mono (fun a' w' h' => any_round l n hd hQ fuel _ a' w' h') (h.2 i hi))⟩

/-- No operation of the region is a defer statement. -/
def noDefer (ops : Array Oper) : Bool := ops.all fun o => match o.op with | .defer _ => false | _ => true

theorem noDefer_spec {ops : Array Oper} (h : noDefer ops = true) (i : Nat) (o : Oper) (c : _) (hi : ops[i]? = some o) : o.op ≠ .defer c := by
  intro he
  obtain ⟨hlt, hv⟩ := Array.getElem?_eq_some_iff.1 hi
  have := (Array.all_eq_true.1 h) i hlt
  rw [hv, he] at this
  cases this

/-- A region that draws, in a round, from the laws of the region that holds S. -/
theorem region_round {P : Program} {ops : Array Oper} {Q : Exit → Act → World → Prop} {id l n : Nat} {a : Act} {w : World} (S : World → Prop) (hm : P.follows .mixedOrders = true) (hd : noDefer ops = true) (hQ : ¬ LetsOut Q) (hS : S w.drew)
    (h : S w.drew → wpAnyH P .any ops Q S ops.size (Array.replicate ops.size false) a w.drew) : (Code.region id ops true).wpIn (Fence.wide.inRound l) n P Q a w :=
  wpIn_region_any hm (any_round l n (fun i o c => noDefer_spec hd i o c) hQ _ _ _ _ (wpAny_of_held _ _ _ _ (h hS)))

end Go.Proofs.Ybulkjqw
