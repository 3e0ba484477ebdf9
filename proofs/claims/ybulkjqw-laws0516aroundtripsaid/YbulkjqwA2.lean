import Derived.Test.YbulkjqwA1
import Derived.Test.YbulkjqwK
namespace Go.Proofs.Ybulkjqw
open Go.RowKit
set_option linter.unusedSimpArgs false
set_option linter.unusedVariables false

def areaW (a b : Int) : Int := wrap64 (wrap64 a * wrap64 b)
def lessB (a b c d e f : Int) : Bool := if (areaW a b != areaW d e) = true then decide (areaW a b < areaW d e) else decide (c < f)

set_option maxHeartbeats 400000 in
theorem leaves_any (a b c d e f : Int) (w : World) :
    Calls Yba.prog 19 #[.agg #[.int .i32 a, .int .i32 b, .int .i32 c], .agg #[.int .i32 d, .int .i32 e, .int .i32 f]] w fun r w' => r = .returned (.bool (lessB a b c d e f)) ∧ Below w.heap.size w w' := by
  go_enter Yba.func19, Yba.ntmps19
  go_wp2
  go_quiet (fail)
  go_wp2
  all_goals (go_ret; refine ⟨ret_bool ?_, below_draws (((Below.refl _ _).alloc (Nat.le_refl _) _).alloc (by simp) _) _⟩)
  all_goals (rename_i h; unfold lessB areaW; simp only [h]; simp)

set_option maxHeartbeats 400000 in
theorem less_any (a b c d e f : Int) (w : World) :
    Calls Yba.prog 8 #[.agg #[.int .i32 a, .int .i32 b, .int .i32 c], .agg #[.int .i32 d, .int .i32 e, .int .i32 f]] w fun r w' => r = .returned (.bool (lessB a b c d e f)) ∧ Below w.heap.size w w' := by
  go_enter Yba.func8, Yba.ntmps8
  go_wp2
  all_goals (go_ret; refine ⟨ret_bool ?_, ((Below.refl _ _).alloc (Nat.le_refl _) _).alloc (by simp) _⟩)
  · rename_i h
    have h2 : (areaW a b != areaW d e) = true := by unfold areaW; simp; omega
    unfold lessB; rw [if_pos h2]; symm; exact decide_eq_true h
  · rename_i h1 h
    have h2 : (areaW a b != areaW d e) = true := by unfold areaW; simp; omega
    unfold lessB; rw [if_pos h2]; symm; refine decide_eq_false ?_; unfold areaW; omega
  · rename_i h1 h
    have h2 : ¬ (areaW a b != areaW d e) = true := by unfold areaW; simp; omega
    unfold lessB; rw [if_neg h2]

set_option maxHeartbeats 400000 in
theorem kept_same (a b c d e f g h i j d' e' f' : Int) (w : World) :
    Calls Yba.prog 9 #[.agg #[.int .i32 a, .int .i32 b, .int .i32 c, .int .i32 d, .int .i32 e, .int .i32 f, .int .i32 g, .int .i32 h, .int .i32 i, .int .u32 j], .agg #[.int .i32 a, .int .i32 b, .int .i32 c, .int .i32 d', .int .i32 e', .int .i32 f', .int .i32 g, .int .u32 j]] w
      fun r w' => r = .returned (.bool true) ∧ Below w.heap.size w w' := by
  go_enter Yba.func9, Yba.ntmps9
  go_wp2
  go_ret
  exact ⟨rfl, ((Below.refl _ _).alloc (Nat.le_refl _) _).alloc (by simp) _⟩

set_option maxHeartbeats 400000 in
theorem leaf_same (a b c d e f g j : Int) (w : World) :
    Calls Yba.prog 10 #[.agg #[.int .i32 a, .int .i32 b, .int .i32 c, .int .i32 d, .int .i32 e, .int .i32 f, .int .i32 g, .int .i32 0, .int .i32 0, .int .u32 j], .agg #[.int .i32 a, .int .i32 b, .int .i32 c, .int .i32 d, .int .i32 e, .int .i32 f, .int .i32 g, .int .u32 j]] w
      fun r w' => r = .returned (.bool true) ∧ Below w.heap.size w w' := by
  go_enter Yba.func10, Yba.ntmps10
  go_wp2_with (go_at_call 9; refine (kept_same _ _ _ _ _ _ _ _ _ _ _ _ _ _).mono ?_; rintro e w1 ⟨rfl, hb⟩; obtain ⟨hc, hf⟩ := bcell hb)
  go_ret
  exact ⟨rfl, ((((Below.refl _ _).alloc (Nat.le_refl _) _).alloc (by simp) _).trans (hb.mono (by simp; omega)))⟩

end Go.Proofs.Ybulkjqw
