/-
  OWN WORK: breakPatterns: some places of [a, b) are swapped.
-/
import Derived.Test.YbulkjrkS5
import Derived.Test.YbulkjrkS6
namespace Go.Proofs.Ybulkjrk
open Go.RowKit
open Go.Sort (swp SWO PermIn SortedIn)
set_option linter.unusedSimpArgs false
set_option linter.unusedVariables false
theorem KeepUp.cell {N0 : Nat} {W W' : World} (k : KeepUp N0 W W') {b : Nat} (o : Nat) (hb : N0 ≤ b) : W'.cell? ⟨b, o, none⟩ = W.cell? ⟨b, o, none⟩ := by
  have := k.block b hb
  simp only [World.cell?, this]
theorem KeepUp.frozen {N0 : Nat} {W W' : World} (k : KeepUp N0 W W') {b : Nat} (o : Nat) (hb : N0 ≤ b) : W'.frozen? ⟨b, o, none⟩ = W.frozen? ⟨b, o, none⟩ := by
  have := k.block b hb
  simp only [World.frozen?, this]
theorem BxU.keep {N0 rb : Nat} {W W' : World} (h : BxU rb W) (k : KeepUp N0 W W') (hb : N0 ≤ rb) : BxU rb W' :=
  ⟨by rw [k.cell 0 hb]; exact h.cell, by rw [k.frozen 0 hb]; exact h.fz⟩
theorem and_lt (s : Int) (M : Nat) (h0 : 0 ≤ s) (h1 : s < 2 ^ 64) (hM : 1 ≤ M) (hM2 : M ≤ 4096) : 0 ≤ bits .and .u64 s ((M : Int) - 1) ∧ bits .and .u64 s ((M : Int) - 1) < M := by
  have h := bits_and_u64_nat s.toNat (M - 1) (by omega) (by omega)
  rw [Int.toNat_of_nonneg h0, show ((M - 1 : Nat) : Int) = (M : Int) - 1 by omega] at h
  have := Nat.and_le_right (n := s.toNat) (m := M - 1)
  rw [h]
  omega
theorem perm_swp {d d' : Array Nat} {a b i j : Nat} (h : PermIn a b d d') (hb : b ≤ d.size) (hi : a ≤ i) (hi' : i < b) (hj : a ≤ j) (hj' : j < b) : PermIn a b d (swp d' i j) :=
  Sort.permIn_trans _ _ _ _ _ h (Sort.swp_permIn _ _ _ _ _ hi hi' hj hj' (by rw [h.1]; exact hb))
section
variable {lt : Nat → Nat → Bool} {rv sv : Value} {n N0 : Nat} {R : Array Nat → World → Prop}
/-- 'Swap' of two places of [a, b). -/
theorem Srt.swapZ (h : Srt lt rv sv n N0 R) {d : Array Nat} {W : World} (hr : R d W) {a b : Nat} (hb : b ≤ n) (x y : Int) (hx : (a : Int) ≤ x) (hx' : x < b) (hy : (a : Int) ≤ y) (hy' : y < b) {d0 : Array Nat} (hP : PermIn a b d0 d) :
    Calls Yba.prog 98 #[sv, .int .i64 x, .int .i64 y] W fun e w' => ∃ d', e = .returned (.tuple #[]) ∧ PermIn a b d0 d' ∧ R d' w' ∧ KeepUp N0 W w' := by
  have hs := h.size hr
  have h1 := hP.1
  refine (show x = (x.toNat : Int) by omega) ▸ (show y = (y.toNat : Int) by omega) ▸ ((h.swap hr x.toNat y.toNat (by omega) (by omega)).mono ?_)
  rintro e w' ⟨rfl, hR, hK⟩
  exact ⟨_, rfl, perm_swp hP (by omega) (by omega) (by omega) (by omega) (by omega), hR, hK⟩
set_option maxHeartbeats 4000000 in
set_option maxRecDepth 100000 in
theorem break_any (h : Srt lt rv sv n N0 R) {d : Array Nat} {W : World} (hr : R d W) (a b : Nat) (hab : 12 < b - a) (hb : b ≤ n) :
    Calls Yba.prog 64 #[.iface 120 rv, .int .i64 a, .int .i64 b] W fun e w' => ∃ d', e = .returned (.tuple #[]) ∧ PermIn a b d d' ∧ R d' w' := by
  have hsm := h.small
  have hsz := h.size hr
  have hrm := h.room hr
  have q4 : Int.tdiv ((b : Int) - a) 4 = (((b - a) / 4 : Nat) : Int) := by
    rw [show ((b : Int) - a) = ((b - a : Nat) : Int) by omega, Int.tdiv_eq_ediv_of_nonneg (by omega)]
    omega
  obtain ⟨g, hg⟩ : ∃ g, g = (b - a) / 4 := ⟨_, rfl⟩
  have hg1 : 4 * g ≤ b - a := by omega
  have hg2 : b - a < 4 * g + 4 := by omega
  rw [← hg] at q4
  clear hg
  go_enter Yba.func64, Yba.ntmps64
  go_wp2_with (go_at_call 72; refine (pow2_any _ (b - a) (by omega) (by omega) (by omega) _).mono ?_; rintro e w1 ⟨M, rfl, hM1, hM2, rfl⟩)
  have hx0 : BxU W.heap.size (W.alloc (.cells #[.int .u64 ((b : Int) - a)] 155)) :=
    ⟨⟨_, cell_one_new W (.int .u64 ((b : Int) - a)) 155 0 _ rfl, by omega, by omega⟩, World.frozen?_alloc_at _ _ _ _ rfl⟩
  have hR0 : R d (W.alloc (.cells #[.int .u64 ((b : Int) - a)] 155)) := h.over hr ((Below.refl _ _).alloc hrm _)
  have hp0 : PermIn a b d d := Sort.permIn_refl _ _ _
  have hpow : M ≤ 2048 := by omega
  generalize W.alloc (.cells #[.int .u64 ((b : Int) - a)] 155) = W1 at hx0 hR0 ⊢
  go_loopw [9] (fun v wr => ∃ (i : Nat) (dk : Array Nat), v = .int .i64 i ∧ a ≤ i ∧ a + g * 2 - 1 ≤ i ∧ i ≤ a + g * 2 + 2 ∧ BxU W.heap.size wr ∧ R dk wr ∧ PermIn a b d dk) (fun v _ => a + g * 2 + 2 - (intOf v).toNat)
  case atStart => exact ⟨a + g * 2 - 1, d, by congr 1; omega, by omega, by omega, by omega, hx0, hR0, hp0⟩
  case round =>
    obtain ⟨i, dk, rfl, hi0, hi1, hi2, hx, hR, hP⟩ := hrel
    clear hx0 hR0 hp0
    by_cases hi : i ≤ a + g * 2 + 1
    · go_wp2_with (first
        | (go_at_call 98; refine (h.swapZ hR2 hb _ _ (by omega) (by omega) (by omega) (by omega) hP).mono ?_; rintro e w3 ⟨d3, rfl, hP3, hR3, hK3⟩)
        | (go_at_call 73; refine (next_any hrm hx).mono ?_; rintro e w2 ⟨s, rfl, hs0, hs1, hx2, hB2⟩; have hR2 := h.over hR hB2; have hand := and_lt s M hs0 hs1 (by omega) (by omega); have m2 := h.fSwap hR2))
      all_goals
        go_roundw
        case rel => exact ⟨i + 1, d3, by simp, by omega, by omega, by omega, hx2.keep hK3 hrm, hR3, hP3⟩
        case measure => simp [intOf]; omega
    · go_wp2
      go_end0
      exact ⟨dk, rfl, hP, hR⟩
end
end Go.Proofs.Ybulkjrk
