/-
  OWN WORK: heapSort, reverseRange.
-/
import Derived.Test.YbulkjrkS2
import Derived.Deep.LoopGhost
namespace Go.Proofs.Ybulkjrk
open Go.RowKit
open Go.Sort (swp SWO PermIn SortedIn)
set_option linter.unusedSimpArgs false
set_option linter.unusedVariables false
section
variable {lt : Nat → Nat → Bool} {rv sv : Value} {n N0 : Nat} {R : Array Nat → World → Prop}
theorem Srt.siftR (h : Srt lt rv sv n N0 R) {d : Array Nat} {W : World} (hr : R d W) (x y z : Int) (lo hi first : Nat) (hx : x = lo) (hy : y = hi) (hz : z = first) (hlo : lo ≤ 1024) (hb : first + hi ≤ n) :
    Calls Yba.prog 71 #[.iface 120 rv, .int .i64 x, .int .i64 y, .int .i64 z] W fun e w' => e = .returned (.tuple #[]) ∧ R (Sort.siftDown lt hi first lo d) w' := by
  subst hx; subst hy; subst hz; exact sift_any h hr lo hi first hlo hb
set_option maxHeartbeats 2000000 in
set_option maxRecDepth 100000 in
theorem heap_any (h : Srt lt rv sv n N0 R) {d : Array Nat} {W : World} (hr : R d W) (a b : Nat) (hab : a < b) (hb : b ≤ n) :
    Calls Yba.prog 63 #[.iface 120 rv, .int .i64 a, .int .i64 b] W fun e w' => e = .returned (.tuple #[]) ∧ R (Sort.heapSort lt d a b) w' := by
  have hsm := h.small
  have hq : Int.tdiv ((b : Int) - a - 1) 2 = ((((b - a - 1) / 2 + 1 : Nat) : Int) - 1) := by
    rw [show ((b : Int) - a - 1) = ((b - a - 1 : Nat) : Int) by omega, Int.tdiv_eq_ediv_of_nonneg (by omega)]
    omega
  go_enter Yba.func63, Yba.ntmps63
  go_wp2
  go_loopw [9] (fun v wr => ∃ (k : Nat) (dk : Array Nat), v = .int .i64 ((k : Int) - 1) ∧ k ≤ 1024 ∧ R dk wr ∧ Sort.heapBuild lt (b - a) a k dk = Sort.heapBuild lt (b - a) a ((b - a - 1) / 2 + 1) d) (fun v _ => (intOf v + 1).toNat)
  case atStart => exact ⟨(b - a - 1) / 2 + 1, d, by first | (simp; done) | (congr 1; done) | (congr 1; exact hq) | (simp; omega), by omega, hr, rfl⟩
  case round =>
    obtain ⟨k, dk, rfl, hk, hR, hO⟩ := hrel
    have HO : Hid (Sort.heapBuild lt (b - a) a k dk = Sort.heapBuild lt (b - a) a ((b - a - 1) / 2 + 1) d) := hO
    clear hO
    cases k with
    | succ k =>
      go_wp2_with (go_at_call 71; refine (h.siftR hR _ _ _ k (b - a) a (by omega) (by omega) rfl (by omega) (by omega)).mono ?_; rintro e w1 ⟨rfl, hR1⟩)
      go_roundw
      case rel => exact ⟨k, _, by congr 1 <;> omega, by omega, hR1, by rw [← HO.out, Sort.heapBuild]⟩
      case measure => simp [intOf] <;> omega
    | zero =>
      go_wp2
      go_loopw [10] (fun v wr => ∃ (k : Nat) (dj : Array Nat), v = .int .i64 ((k : Int) - 1) ∧ k ≤ b - a ∧ R dj wr ∧ Sort.heapPop lt a k dj = Sort.heapSort lt d a b) (fun v _ => (intOf v + 1).toNat)
      case atStart => exact ⟨b - a, dk, by congr 1 <;> omega, Nat.le_refl _, hR, by rw [Sort.heapSort, ← HO.out, Sort.heapBuild]⟩
      case round =>
        obtain ⟨k, dj, rfl, hk, hR, hO⟩ := hrel
        have HO2 : Hid (Sort.heapPop lt a k dj = Sort.heapSort lt d a b) := hO
        clear hO
        cases k with
        | succ k =>
          have m1 := h.fSwap hR
          go_wp2_with (first
            | (go_at_call 98; refine (h.swapR hR _ _ a (a + k) (by omega) (by omega) (by omega) (by omega)).mono ?_; rintro e w1 ⟨rfl, hR1⟩)
            | (go_at_call 71; refine (h.siftR hR1 _ _ _ 0 k a (by omega) (by omega) rfl (by omega) (by omega)).mono ?_; rintro e w2 ⟨rfl, hR2⟩))
          go_roundw
          case rel =>
            (repeat apply Exists.intro)
            refine ⟨⟨k, _, by congr 1 <;> omega, by omega, hR2, by rw [← HO2.out, Sort.heapPop]⟩, ?_⟩
            rfl
          case measure => simp [intOf] <;> omega
        | zero =>
          go_wp2
          go_end0
          exact ⟨rfl, by rw [← HO2.out, Sort.heapPop]; exact hR⟩

set_option maxHeartbeats 2000000 in
set_option maxRecDepth 100000 in
theorem reverse_any (h : Srt lt rv sv n N0 R) {d : Array Nat} {W : World} (hr : R d W) (a b : Nat) (hab : a < b) (hb : b ≤ n) :
    Calls Yba.prog 66 #[.iface 120 rv, .int .i64 a, .int .i64 b] W fun e w' => e = .returned (.tuple #[]) ∧ R (Sort.reverseRange d a b) w' := by
  have hsm := h.small
  go_enter Yba.func66, Yba.ntmps66
  go_wp2
  go_loopw [6, 7] (fun vi vj wr => ∃ (i j : Nat) (dk : Array Nat), vi = .int .i64 i ∧ vj = .int .i64 j ∧ a ≤ i ∧ i ≤ b ∧ i ≤ j + 1 ∧ j < b ∧ R dk wr ∧ Sort.reverseLoop i j dk = Sort.reverseLoop a (b - 1) d) (fun vi _ _ => b + 1 - (intOf vi).toNat)
  case atStart => exact ⟨a, b - 1, d, rfl, by congr 1; omega, by omega, by omega, by omega, by omega, hr, rfl⟩
  case round =>
    obtain ⟨i, j, dk, rfl, rfl, h1, h2, h3, h4, hR, hO⟩ := hrel
    have HO : Hid (Sort.reverseLoop i j dk = Sort.reverseLoop a (b - 1) d) := hO
    clear hO
    have m1 := h.fSwap hR
    by_cases hij : i < j
    · go_wp2_with (go_at_call 98; refine (h.swapR hR _ _ i j rfl rfl (by omega) (by omega)).mono ?_; rintro e w1 ⟨rfl, hR1⟩)
      go_roundw
      case rel => exact ⟨i + 1, j - 1, _, by congr 1, by congr 1; omega, by omega, by omega, by omega, by omega, hR1, by rw [← HO.out]; conv => rhs; rw [Sort.reverseLoop, if_pos hij]⟩
      case measure => simp [intOf]; omega
    · go_wp2
      go_end0
      exact ⟨rfl, by rw [Sort.reverseRange, ← HO.out, Sort.reverseLoop, if_neg hij]; exact hR⟩
end
end Go.Proofs.Ybulkjrk
