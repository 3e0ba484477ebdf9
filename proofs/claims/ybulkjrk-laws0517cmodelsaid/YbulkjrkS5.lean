/-
  OWN WORK: choosePivot: a place in the range, and a hint.
-/
import Derived.Test.YbulkjrkS4
namespace Go.Proofs.Ybulkjrk
open Go.RowKit
open Go.Sort (swp SWO PermIn SortedIn)
set_option linter.unusedSimpArgs false
set_option linter.unusedVariables false
section
variable {lt : Nat → Nat → Bool} {rv sv : Value} {n N0 : Nat} {R : Array Nat → World → Prop}
theorem Bx.made {W : World} : Bx W.heap.size (W.alloc (.cells #[.int .i64 0] 3)) := by
  refine ⟨⟨0, ?_⟩, ?_⟩
  · exact cell_one_new W (.int .i64 0) 3 0 _ rfl
  · exact World.frozen?_alloc_at _ _ _ _ rfl

set_option maxHeartbeats 4000000 in
set_option maxRecDepth 100000 in
theorem pivot_any (h : Srt lt rv sv n N0 R) {d : Array Nat} {W : World} (hr : R d W) (a b : Nat) (hab : 12 < b - a) (hb : b ≤ n) :
    Calls Yba.prog 65 #[.iface 120 rv, .int .i64 a, .int .i64 b] W fun e w' => ∃ p t : Nat, e = .returned (.tuple #[.int .i64 p, .int .i64 t]) ∧ a ≤ p ∧ p < b ∧ (t = 0 ∨ t = 1 ∨ t = 2) ∧ R d w' := by
  have hsm := h.small
  have hrm := h.room hr
  have hR0 : R d (W.alloc (.cells #[.int .i64 0] 3)) := h.over hr ((Below.refl _ _).alloc hrm _)
  have hx0 : Bx W.heap.size (W.alloc (.cells #[.int .i64 0] 3)) := Bx.made
  have q4 : Int.tdiv ((b : Int) - a) 4 = (((b - a) / 4 : Nat) : Int) := by
    rw [show ((b : Int) - a) = ((b - a : Nat) : Int) by omega, Int.tdiv_eq_ediv_of_nonneg (by omega)]
    omega
  obtain ⟨g, hg⟩ : ∃ g, g = (b - a) / 4 := ⟨_, rfl⟩
  have hg1 : 4 * g ≤ b - a := by omega
  have hg2 : b - a < 4 * g + 4 := by omega
  rw [← hg] at q4
  clear hg
  go_enter Yba.func65, Yba.ntmps65
  by_cases c50 : 50 ≤ b - a
  · go_wp2_with (first
      | (go_at_call 75; refine (median_any h hR3 hrm hx3 _ _ _ p1 p2 p3 rfl rfl rfl (by omega) (by omega) (by omega)).mono ?_; rintro e w4 ⟨p4, rfl, hp4, hR4, ⟨s, hs⟩, fs⟩)
      | (go_at_call 74; refine (medianAdj_any h hR2 hrm hx2 _ (a + g * 3) (by omega) (by omega) (by omega)).mono ?_; rintro e w3 ⟨p3, rfl, hp3, hR3, hx3⟩)
      | (go_at_call 74; refine (medianAdj_any h hR1 hrm hx1 _ (a + g * 2) (by omega) (by omega) (by omega)).mono ?_; rintro e w2 ⟨p2, rfl, hp2, hR2, hx2⟩)
      | (go_at_call 74; refine (medianAdj_any h hR0 hrm hx0 _ (a + g * 1) (by omega) (by omega) (by omega)).mono ?_; rintro e w1 ⟨p1, rfl, hp1, hR1, hx1⟩))
    all_goals (go_ret2; first | exact ⟨p4, 1, rfl, by omega, by omega, by omega, hR4⟩ | exact ⟨p4, 2, rfl, by omega, by omega, by omega, hR4⟩ | exact ⟨p4, 0, rfl, by omega, by omega, by omega, hR4⟩)
  · go_wp2_with (go_at_call 75; refine (median_any h hR0 hrm hx0 _ _ _ (a + g * 1) (a + g * 2) (a + g * 3) (by omega) (by omega) (by omega) (by omega) (by omega) (by omega)).mono ?_; rintro e w4 ⟨p4, rfl, hp4, hR4, ⟨s, hs⟩, fs⟩)
    all_goals (go_ret2; first | exact ⟨p4, 1, rfl, by omega, by omega, by omega, hR4⟩ | exact ⟨p4, 2, rfl, by omega, by omega, by omega, hR4⟩ | exact ⟨p4, 0, rfl, by omega, by omega, by omega, hR4⟩)
end
end Go.Proofs.Ybulkjrk
