/-
  OWN WORK: pdqsort, the walk.
-/
import Derived.Test.YbulkjrkS10
namespace Go.Proofs.Ybulkjrk
open Go.RowKit
open Go.Sort (swp SWO PermIn SortedIn)
set_option linter.unusedSimpArgs false
set_option linter.unusedVariables false
variable {lt : Nat → Nat → Bool}
section
variable {rv sv : Value} {n N0 : Nat} {R : Array Nat → World → Prop}
/-- What pdqsort answers. -/
def Pdone (lt : Nat → Nat → Bool) (R : Array Nat → World → Prop) (a b : Nat) (d : Array Nat) (e : Ending) (w' : World) : Prop :=
  e = .returned (.tuple #[]) ∧ ∃ d', R d' w' ∧ PermIn a b d d' ∧ SortedIn lt a b d'
def PdqIH (lt : Nat → Nat → Bool) (rv : Value) (n : Nat) (R : Array Nat → World → Prop) (m : Nat) : Prop :=
  ∀ (x y l : Nat) (u v l' : Int) (dn : Array Nat) (W : World), u = x → v = y → l' = l → y - x < m → x ≤ y → y ≤ n → l ≤ 64 → R dn W → dn.toList.Nodup → Sort.Below lt x y dn →
    Calls Yba.prog 56 #[.iface 120 rv, .int .i64 u, .int .i64 v, .int .i64 l'] W (Pdone lt R x y dn)

set_option maxHeartbeats 40000000 in
set_option maxRecDepth 100000 in
theorem pdq_step (h : Srt lt rv sv n N0 R) (hS : SWO lt) (hT : ∀ x y, x ≠ y → lt x y = false → lt y x = true) (a b l : Nat) (hab : a ≤ b) (hb : b ≤ n) (hl : l ≤ 64) (d : Array Nat) (W : World) (hr : R d W) (hnd : d.toList.Nodup) (hB : Sort.Below lt a b d)
    (ih : PdqIH lt rv n R (b - a)) : Calls Yba.prog 56 #[.iface 120 rv, .int .i64 a, .int .i64 b, .int .i64 l] W (Pdone lt R a b d) := by
  have hsm := h.small
  have hsz := h.size hr
  have hP0 : Pdq lt a b d a b d := Pdq.start hab (by omega) hnd hB
  go_enter Yba.func56, Yba.ntmps56
  go_wp2
  go_loopw [1, 2, 3, 8, 9] (fun v1 v2 v3 v8 v9 wr => ∃ (x y l' : Nat) (wb wp : Bool) (dk : Array Nat), v1 = .int .i64 x ∧ v2 = .int .i64 y ∧ v3 = .int .i64 l' ∧ v8 = .bool wb ∧ v9 = .bool wp ∧ l' ≤ 64 ∧ R dk wr ∧ Pdq lt a b d x y dk) (fun v1 v2 _ _ _ _ => (intOf v2).toNat - (intOf v1).toNat)
  case atStart => exact ⟨a, b, l, true, true, d, rfl, rfl, rfl, rfl, rfl, hl, hr, hP0⟩
  case round =>
    obtain ⟨x, y, l', wb, wp, dk, rfl, rfl, rfl, rfl, rfl, hl', hR, hQ⟩ := hrel
    clear hr hP0 hB hnd
    have g1 := hQ.h1
    have g2 := hQ.h2
    have g3 := hQ.h3
    have gs := hQ.size
    by_cases c12 : y - x ≤ 12
    · go_wp2_with (go_at_call 62; refine (insertion_any h hR x y (by omega) (by omega)).mono ?_; rintro e w1 ⟨rfl, hR1⟩)
      ((try simp only [Exit.inBlock, Exit.then]); refine bodyPost_ret (results_none rfl _ _ _) rfl ?_)
      have hi := Sort.insertionSort_holds hS dk x y (by omega) (by omega)
      exact ⟨rfl, _, hR1, hQ.end hi.1 hi.2⟩
    · by_cases l0 : l' = 0
      · go_wp2_with (go_at_call 63; refine (heap_any h hR x y (by omega) (by omega)).mono ?_; rintro e w1 ⟨rfl, hR1⟩)
        ((try simp only [Exit.inBlock, Exit.then]); refine bodyPost_ret (results_none rfl _ _ _) rfl ?_)
        have hi := Sort.heapSort_holds hS dk x y (by omega) (by omega)
        exact ⟨rfl, _, hR1, hQ.end hi.1 hi.2⟩
      · have hC := hR
        clear hR
        cases wb with
        | false =>
          go_wp2_with (
            first
              | (go_at_call 56; refine (ih x mid (l' - 1) _ _ _ _ _ (by omega) (by omega) (by omega) (by omega) (by omega) (by omega) (by omega) hC7 hnd7 hbL).mono ?_; rintro e w8 ⟨rfl, d8, hC8, hp8, hs8⟩)
              | (go_at_call 56; refine (ih (mid + 1) y (l' - 1) _ _ _ _ _ (by omega) (by omega) (by omega) (by omega) (by omega) (by omega) (by omega) hC7 hnd7 hbR).mono ?_; rintro e w8 ⟨rfl, d8, hC8, hp8, hs8⟩)
              | (go_at_call 69; refine (partitionZ_any h hC _ (by omega) (by omega) (by omega)).mono ?_; rintro e w7 ⟨mid, d7, q7, rfl, hpt, hC7⟩; have hnd7 := (hQ.step hpt.perm).nd; have hbL := hpt.belowL hQ; have hbR := hpt.belowR; have pm1 := hpt.am; have pm2 := hpt.mb)
              | (go_at_call 97; refine (less_true h hT hC hQ hb _ _ (by omega) (by omega) (by omega) (by omega)).mono ?_; rintro e w6 ⟨rfl, hC6⟩; replace hC := hC6; clear hC6)
              | (go_at_call 67; refine (partial_any h hS hC (by omega) (by omega) hQ.bl).mono ?_; rintro e w5 ⟨q5, d5, rfl, hC5, hp5, hs5⟩; have hfin := fun hq => hQ.end hp5 (hs5 hq); replace hQ := hQ.step hp5; replace hC := hC5; have mL := h.fLess hC; clear hC5 hs5)
              | (go_at_call 66; refine (reverse_any h hC x y (by omega) (by omega)).mono ?_; rintro e w4 ⟨rfl, hC4⟩; replace hQ := hQ.step (Sort.reverseRange_holds _ x y (by omega) (by have := hQ.size; omega)); replace hC := hC4; have mL := h.fLess hC; clear hC4)
              | (go_at_call 65; refine (pivot_any h hC x y (by omega) (by omega)).mono ?_; rintro e w3 ⟨p, t, rfl, hp1, hp2, ht, hC3⟩; replace hC := hC3; have mL := h.fLess hC; clear hC3)
              | (go_at_call 64; refine (break_any h hC x y (by omega) (by omega)).mono ?_; rintro e w2 ⟨d2, rfl, hp2, hC2⟩; replace hQ := hQ.step hp2; replace hC := hC2; clear hC2)
            )
          all_goals (
            first
              | (go_roundw; (case rel => exact ⟨mid + 1, y, (l' - 1), _, _, d8, by simp, rfl, by first | rfl | (congr 1; omega), rfl, rfl, by omega, hC8, hQ.left hS hpt hp8 hs8⟩); (case measure => simp [intOf]; omega))
              | (go_roundw; (case rel => exact ⟨x, mid, (l' - 1), _, _, d8, rfl, rfl, by first | rfl | (congr 1; omega), rfl, rfl, by omega, hC8, hQ.right hS hpt hp8 hs8⟩); (case measure => simp [intOf]; omega))
              | (((try simp only [Exit.inBlock, Exit.then]); refine bodyPost_ret (results_none rfl _ _ _) rfl ?_); exact ⟨rfl, _, hC, hfin (by first | rfl | assumption)⟩)
            )
        | true =>
          go_wp2_with (
            first
              | (go_at_call 56; refine (ih x mid l' _ _ _ _ _ (by omega) (by omega) (by omega) (by omega) (by omega) (by omega) (by omega) hC7 hnd7 hbL).mono ?_; rintro e w8 ⟨rfl, d8, hC8, hp8, hs8⟩)
              | (go_at_call 56; refine (ih (mid + 1) y l' _ _ _ _ _ (by omega) (by omega) (by omega) (by omega) (by omega) (by omega) (by omega) hC7 hnd7 hbR).mono ?_; rintro e w8 ⟨rfl, d8, hC8, hp8, hs8⟩)
              | (go_at_call 69; refine (partitionZ_any h hC _ (by omega) (by omega) (by omega)).mono ?_; rintro e w7 ⟨mid, d7, q7, rfl, hpt, hC7⟩; have hnd7 := (hQ.step hpt.perm).nd; have hbL := hpt.belowL hQ; have hbR := hpt.belowR; have pm1 := hpt.am; have pm2 := hpt.mb)
              | (go_at_call 97; refine (less_true h hT hC hQ hb _ _ (by omega) (by omega) (by omega) (by omega)).mono ?_; rintro e w6 ⟨rfl, hC6⟩; replace hC := hC6; clear hC6)
              | (go_at_call 67; refine (partial_any h hS hC (by omega) (by omega) hQ.bl).mono ?_; rintro e w5 ⟨q5, d5, rfl, hC5, hp5, hs5⟩; have hfin := fun hq => hQ.end hp5 (hs5 hq); replace hQ := hQ.step hp5; replace hC := hC5; have mL := h.fLess hC; clear hC5 hs5)
              | (go_at_call 66; refine (reverse_any h hC x y (by omega) (by omega)).mono ?_; rintro e w4 ⟨rfl, hC4⟩; replace hQ := hQ.step (Sort.reverseRange_holds _ x y (by omega) (by have := hQ.size; omega)); replace hC := hC4; have mL := h.fLess hC; clear hC4)
              | (go_at_call 65; refine (pivot_any h hC x y (by omega) (by omega)).mono ?_; rintro e w3 ⟨p, t, rfl, hp1, hp2, ht, hC3⟩; replace hC := hC3; have mL := h.fLess hC; clear hC3)
              | (go_at_call 64; refine (break_any h hC x y (by omega) (by omega)).mono ?_; rintro e w2 ⟨d2, rfl, hp2, hC2⟩; replace hQ := hQ.step hp2; replace hC := hC2; clear hC2)
            )
          all_goals (
            first
              | (go_roundw; (case rel => exact ⟨mid + 1, y, l', _, _, d8, by simp, rfl, by first | rfl | (congr 1; omega), rfl, rfl, by omega, hC8, hQ.left hS hpt hp8 hs8⟩); (case measure => simp [intOf]; omega))
              | (go_roundw; (case rel => exact ⟨x, mid, l', _, _, d8, rfl, rfl, by first | rfl | (congr 1; omega), rfl, rfl, by omega, hC8, hQ.right hS hpt hp8 hs8⟩); (case measure => simp [intOf]; omega))
              | (((try simp only [Exit.inBlock, Exit.then]); refine bodyPost_ret (results_none rfl _ _ _) rfl ?_); exact ⟨rfl, _, hC, hfin (by first | rfl | assumption)⟩)
            )
end
end Go.Proofs.Ybulkjrk
