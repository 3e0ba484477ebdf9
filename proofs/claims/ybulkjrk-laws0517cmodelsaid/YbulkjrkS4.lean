/-
  OWN WORK: order2, median, medianAdjacent, choosePivot: which place comes out (one of those that went in).
-/
import Derived.Test.YbulkjrkS3
namespace Go.Proofs.Ybulkjrk
open Go.RowKit
open Go.Sort (swp SWO PermIn SortedIn)
set_option linter.unusedSimpArgs false
set_option linter.unusedVariables false
/-- A box for an int, in a block of its own. -/
structure Bx (b : Nat) (W : World) : Prop where
  cell : ∃ s : Int, W.cell? ⟨b, 0, none⟩ = some (.int .i64 s)
  fz : W.frozen? ⟨b, 0, none⟩ = false
section
variable {lt : Nat → Nat → Bool} {rv sv : Value} {n N0 : Nat} {R : Array Nat → World → Prop}

set_option maxHeartbeats 2000000 in
set_option maxRecDepth 100000 in
theorem order2_any (h : Srt lt rv sv n N0 R) {d : Array Nat} {W : World} (hr : R d W) {sb : Nat} (hsb : N0 ≤ sb) (hx : Bx sb W) (i j : Nat) (hi : i < n) (hj : j < n) :
    Calls Yba.prog 76 #[.iface 120 rv, .int .i64 i, .int .i64 j, .pointer (some ⟨sb, 0, none⟩)] W fun e w' => ∃ p q : Nat, e = .returned (.tuple #[.int .i64 p, .int .i64 q]) ∧ ((p = i ∧ q = j) ∨ (p = j ∧ q = i)) ∧ R d w' ∧ Bx sb w' := by
  have hsm := h.small
  have m1 := h.fLess hr
  obtain ⟨⟨s, hc⟩, hf⟩ := hx
  have hl := h.less hr j i hj hi
  go_enter Yba.func76, Yba.ntmps76
  cases hv : lt d[j]! d[i]! with
  | true =>
    rw [hv] at hl
    go_wp2_with (go_at_call 97; refine hl.mono ?_; rintro e w' ⟨rfl, q, rfl⟩)
    go_ret2
    refine ⟨j, i, rfl, .inr ⟨rfl, rfl⟩, h.over (h.drewN hr q) ((Below.refl _ _).setCell hsb _), ⟨_, World.cell?_setCell_same _ _ _ hc⟩, (World.frozen?_setCell _ _ _ _).trans hf⟩
  | false =>
    rw [hv] at hl
    go_wp2_with (go_at_call 97; refine hl.mono ?_; rintro e w' ⟨rfl, q, rfl⟩)
    go_ret2
    exact ⟨i, j, rfl, .inl ⟨rfl, rfl⟩, h.drewN hr q, ⟨s, hc⟩, hf⟩

set_option maxHeartbeats 2000000 in
set_option maxRecDepth 100000 in
theorem median_any (h : Srt lt rv sv n N0 R) {d : Array Nat} {W : World} (hr : R d W) {sb : Nat} (hsb : N0 ≤ sb) (hx : Bx sb W) (x y z : Int) (i j k : Nat) (e1 : x = i) (e2 : y = j) (e3 : z = k) (hi : i < n) (hj : j < n) (hk : k < n) :
    Calls Yba.prog 75 #[.iface 120 rv, .int .i64 x, .int .i64 y, .int .i64 z, .pointer (some ⟨sb, 0, none⟩)] W fun e w' => ∃ p : Nat, e = .returned (.int .i64 p) ∧ (p = i ∨ p = j ∨ p = k) ∧ R d w' ∧ Bx sb w' := by
  subst e1; subst e2; subst e3
  go_enter Yba.func75, Yba.ntmps75
  go_wp2_with (first
    | (go_at_call 76; refine (order2_any h hR2 hsb hx2 p1 p2 (by omega) (by omega)).mono ?_; rintro e w3 ⟨p3, q3, rfl, hpq3, hR3, hx3⟩)
    | (go_at_call 76; refine (order2_any h hR1 hsb hx1 q1 k (by omega) hk).mono ?_; rintro e w2 ⟨p2, q2, rfl, hpq2, hR2, hx2⟩)
    | (go_at_call 76; refine (order2_any h hr hsb hx i j hi hj).mono ?_; rintro e w1 ⟨p1, q1, rfl, hpq1, hR1, hx1⟩))
  go_ret
  exact ⟨q3, rfl, by omega, hR3, hx3⟩

set_option maxHeartbeats 2000000 in
set_option maxRecDepth 100000 in
theorem medianAdj_any (h : Srt lt rv sv n N0 R) {d : Array Nat} {W : World} (hr : R d W) {sb : Nat} (hsb : N0 ≤ sb) (hx : Bx sb W) (x : Int) (i : Nat) (e1 : x = i) (h1 : 1 ≤ i) (hi : i + 1 < n) :
    Calls Yba.prog 74 #[.iface 120 rv, .int .i64 x, .pointer (some ⟨sb, 0, none⟩)] W fun e w' => ∃ p : Nat, e = .returned (.int .i64 p) ∧ (p + 1 = i ∨ p = i ∨ p = i + 1) ∧ R d w' ∧ Bx sb w' := by
  subst e1
  have hsm := h.small
  go_enter Yba.func74, Yba.ntmps74
  go_wp2_with (go_at_call 75; refine (median_any h hr hsb hx _ _ _ (i - 1) i (i + 1) (by omega) (by omega) (by omega) (by omega) (by omega) (by omega)).mono ?_; rintro e w1 ⟨p1, rfl, hp, hR1, hx1⟩)
  go_ret
  exact ⟨p1, rfl, by omega, hR1, hx1⟩
end
end Go.Proofs.Ybulkjrk
