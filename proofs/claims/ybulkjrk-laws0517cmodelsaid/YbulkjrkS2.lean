/-
  OWN WORK: siftDown, heapSort, reverseRange.
-/
import Derived.Test.YbulkjrkS1
namespace Go.Proofs.Ybulkjrk
open Go.RowKit
open Go.Sort (swp SWO PermIn SortedIn)
set_option linter.unusedSimpArgs false
set_option linter.unusedVariables false
section
variable {lt : Nat → Nat → Bool} {rv sv : Value} {n N0 : Nat} {R : Array Nat → World → Prop}
/-- 'Less' as a caller without boxes of its own takes it. -/
theorem Srt.lessR (h : Srt lt rv sv n N0 R) {d : Array Nat} {W : World} (hr : R d W) (x y : Int) (i j : Nat) (hx : x = i) (hy : y = j) (hi : i < n) (hj : j < n) :
    Calls Yba.prog 97 #[sv, .int .i64 x, .int .i64 y] W fun e w' => e = .returned (.bool (lt d[i]! d[j]!)) ∧ R d w' := by
  subst hx; subst hy
  exact (h.less hr i j hi hj).mono (by rintro e w' ⟨rfl, q, rfl⟩; exact ⟨rfl, h.drewN hr q⟩)
theorem Srt.swapR (h : Srt lt rv sv n N0 R) {d : Array Nat} {W : World} (hr : R d W) (x y : Int) (i j : Nat) (hx : x = i) (hy : y = j) (hi : i < n) (hj : j < n) :
    Calls Yba.prog 98 #[sv, .int .i64 x, .int .i64 y] W fun e w' => e = .returned (.tuple #[]) ∧ R (swp d i j) w' := by
  subst hx; subst hy
  exact (h.swap hr i j hi hj).mono (by rintro e w' ⟨rfl, h1, _⟩; exact ⟨rfl, h1⟩)

theorem sift_end (lt : Nat → Nat → Bool) {hi first root : Nat} (d : Array Nat) (h : 2 * root + 1 ≥ hi) : Sort.siftDown lt hi first root d = d := by
  rw [Sort.siftDown, dif_pos h]
/-- The child that is taken. -/
def kid (lt : Nat → Nat → Bool) (hi first root : Nat) (d : Array Nat) : Nat :=
  if 2 * root + 2 < hi ∧ lt d[first + (2 * root + 1)]! d[first + (2 * root + 1) + 1]! = true then 2 * root + 2 else 2 * root + 1
theorem sift_stop (lt : Nat → Nat → Bool) {hi first root : Nat} (d : Array Nat) (h : ¬ 2 * root + 1 ≥ hi) (hl : lt d[first + root]! d[first + kid lt hi first root d]! = false) : Sort.siftDown lt hi first root d = d := by
  unfold kid at hl
  rw [Sort.siftDown, dif_neg h]
  by_cases c : 2 * root + 2 < hi ∧ lt d[first + (2 * root + 1)]! d[first + (2 * root + 1) + 1]! = true
  · rw [if_pos c] at hl
    rw [if_pos (by simp [c.2]; omega), if_pos (by simp [hl])]
  · rw [if_neg c] at hl
    rw [if_neg (by simpa using c), if_pos (by simp [hl])]
theorem sift_go (lt : Nat → Nat → Bool) {hi first root : Nat} (d : Array Nat) (h : ¬ 2 * root + 1 ≥ hi) (hl : lt d[first + root]! d[first + kid lt hi first root d]! = true) :
    Sort.siftDown lt hi first root d = Sort.siftDown lt hi first (kid lt hi first root d) (swp d (first + root) (first + kid lt hi first root d)) := by
  unfold kid at hl ⊢
  conv => lhs; rw [Sort.siftDown, dif_neg h]
  by_cases c : 2 * root + 2 < hi ∧ lt d[first + (2 * root + 1)]! d[first + (2 * root + 1) + 1]! = true
  · rw [if_pos c] at hl ⊢
    rw [if_pos (by simp [c.2]; omega), if_neg (by simp [hl]), dif_pos c.1]
  · rw [if_neg c] at hl ⊢
    rw [if_neg (by simpa using c), if_neg (by simp [hl])]

set_option maxHeartbeats 2000000 in
set_option maxRecDepth 100000 in
theorem sift_any (h : Srt lt rv sv n N0 R) {d : Array Nat} {W : World} (hr : R d W) (lo hi first : Nat) (hlo : lo ≤ 1024) (hb : first + hi ≤ n) :
    Calls Yba.prog 71 #[.iface 120 rv, .int .i64 lo, .int .i64 hi, .int .i64 first] W fun e w' => e = .returned (.tuple #[]) ∧ R (Sort.siftDown lt hi first lo d) w' := by
  have hsm := h.small
  go_enter Yba.func71, Yba.ntmps71
  go_wp2
  go_loopw [8] (fun v wr => ∃ (root : Nat) (dk : Array Nat), v = .int .i64 root ∧ root ≤ 1024 ∧ R dk wr ∧ Sort.siftDown lt hi first root dk = Sort.siftDown lt hi first lo d) (fun v _ => hi - (intOf v).toNat)
  case atStart => exact ⟨lo, d, rfl, hlo, hr, rfl⟩
  case round =>
    obtain ⟨root, dk, rfl, hrt, hR, hO⟩ := hrel
    have HO : Hid (Sort.siftDown lt hi first root dk = Sort.siftDown lt hi first lo d) := hO
    clear hO
    by_cases c0 : 2 * root + 1 ≥ hi
    · go_wp2
      go_end0
      exact ⟨rfl, by rw [← HO.out, sift_end lt dk c0]; exact hR⟩
    have m1 := h.fLess hR
    by_cases c1 : 2 * root + 2 < hi
    · cases hc : lt dk[first + (2 * root + 1)]! dk[first + (2 * root + 1) + 1]! with
      | true =>
        have hk : kid lt hi first root dk = 2 * root + 2 := by unfold kid; rw [if_pos ⟨c1, hc⟩]
        cases hd : lt dk[first + root]! dk[first + (2 * root + 2)]! with
        | true =>
          go_wp2_with (first
            | (go_at_call 97; refine (h.lessR hR _ _ (first + (2 * root + 1)) (first + (2 * root + 1) + 1) (by omega) (by omega) (by omega) (by omega)).mono ?_; rintro e w1 ⟨rfl, hR1⟩; clear hR; rw [hc]; have m2 := h.fLess hR1)
            | (go_at_call 97; refine (h.lessR hR1 _ _ (first + root) (first + (2 * root + 2)) (by omega) (by omega) (by omega) (by omega)).mono ?_; rintro e w2 ⟨rfl, hR2⟩; clear hR1; rw [hd]; have m3 := h.fSwap hR2)
            | (go_at_call 98; refine (h.swapR hR2 _ _ (first + root) (first + (2 * root + 2)) (by omega) (by omega) (by omega) (by omega)).mono ?_; rintro e w3 ⟨rfl, hR3⟩))
          go_roundw
          case rel => exact ⟨2 * root + 2, _, by congr 1 <;> omega, by omega, hR3, by rw [← HO.out, sift_go lt dk c0 (by rw [hk]; exact hd), hk]⟩
          case measure => simp [intOf]; omega
        | false =>
          go_wp2_with (first
            | (go_at_call 97; refine (h.lessR hR _ _ (first + (2 * root + 1)) (first + (2 * root + 1) + 1) (by omega) (by omega) (by omega) (by omega)).mono ?_; rintro e w1 ⟨rfl, hR1⟩; clear hR; rw [hc]; have m2 := h.fLess hR1)
            | (go_at_call 97; refine (h.lessR hR1 _ _ (first + root) (first + (2 * root + 2)) (by omega) (by omega) (by omega) (by omega)).mono ?_; rintro e w2 ⟨rfl, hR2⟩; clear hR1; rw [hd]))
          ((try simp only [Exit.inBlock, Exit.then]); refine bodyPost_ret (results_none rfl _ _ _) rfl ?_)
          exact ⟨rfl, by rw [← HO.out, sift_stop lt dk c0 (by rw [hk]; exact hd)]; exact hR2⟩
      | false =>
        have hk : kid lt hi first root dk = 2 * root + 1 := by unfold kid; rw [if_neg (by simp [hc])]
        cases hd : lt dk[first + root]! dk[first + (2 * root + 1)]! with
        | true =>
          go_wp2_with (first
            | (go_at_call 97; refine (h.lessR hR _ _ (first + (2 * root + 1)) (first + (2 * root + 1) + 1) (by omega) (by omega) (by omega) (by omega)).mono ?_; rintro e w1 ⟨rfl, hR1⟩; clear hR; rw [hc]; have m2 := h.fLess hR1)
            | (go_at_call 97; refine (h.lessR hR1 _ _ (first + root) (first + (2 * root + 1)) (by omega) (by omega) (by omega) (by omega)).mono ?_; rintro e w2 ⟨rfl, hR2⟩; clear hR1; rw [hd]; have m3 := h.fSwap hR2)
            | (go_at_call 98; refine (h.swapR hR2 _ _ (first + root) (first + (2 * root + 1)) (by omega) (by omega) (by omega) (by omega)).mono ?_; rintro e w3 ⟨rfl, hR3⟩))
          go_roundw
          case rel => exact ⟨2 * root + 1, _, by congr 1 <;> omega, by omega, hR3, by rw [← HO.out, sift_go lt dk c0 (by rw [hk]; exact hd), hk]⟩
          case measure => simp [intOf]; omega
        | false =>
          go_wp2_with (first
            | (go_at_call 97; refine (h.lessR hR _ _ (first + (2 * root + 1)) (first + (2 * root + 1) + 1) (by omega) (by omega) (by omega) (by omega)).mono ?_; rintro e w1 ⟨rfl, hR1⟩; clear hR; rw [hc]; have m2 := h.fLess hR1)
            | (go_at_call 97; refine (h.lessR hR1 _ _ (first + root) (first + (2 * root + 1)) (by omega) (by omega) (by omega) (by omega)).mono ?_; rintro e w2 ⟨rfl, hR2⟩; clear hR1; rw [hd]))
          ((try simp only [Exit.inBlock, Exit.then]); refine bodyPost_ret (results_none rfl _ _ _) rfl ?_)
          exact ⟨rfl, by rw [← HO.out, sift_stop lt dk c0 (by rw [hk]; exact hd)]; exact hR2⟩
    · have hk : kid lt hi first root dk = 2 * root + 1 := by unfold kid; rw [if_neg (by simp [c1])]
      cases hd : lt dk[first + root]! dk[first + (2 * root + 1)]! with
      | true =>
        go_wp2_with (first
          | (go_at_call 97; refine (h.lessR hR _ _ (first + root) (first + (2 * root + 1)) (by omega) (by omega) (by omega) (by omega)).mono ?_; rintro e w2 ⟨rfl, hR2⟩; clear hR; rw [hd]; have m3 := h.fSwap hR2)
          | (go_at_call 98; refine (h.swapR hR2 _ _ (first + root) (first + (2 * root + 1)) (by omega) (by omega) (by omega) (by omega)).mono ?_; rintro e w3 ⟨rfl, hR3⟩))
        go_roundw
        case rel => exact ⟨2 * root + 1, _, by congr 1 <;> omega, by omega, hR3, by rw [← HO.out, sift_go lt dk c0 (by rw [hk]; exact hd), hk]⟩
        case measure => simp [intOf]; omega
      | false =>
        go_wp2_with (go_at_call 97; refine (h.lessR hR _ _ (first + root) (first + (2 * root + 1)) (by omega) (by omega) (by omega) (by omega)).mono ?_; rintro e w2 ⟨rfl, hR2⟩; clear hR; rw [hd])
        ((try simp only [Exit.inBlock, Exit.then]); refine bodyPost_ret (results_none rfl _ _ _) rfl ?_)
        exact ⟨rfl, by rw [← HO.out, sift_stop lt dk c0 (by rw [hk]; exact hd)]; exact hR2⟩
end
end Go.Proofs.Ybulkjrk
