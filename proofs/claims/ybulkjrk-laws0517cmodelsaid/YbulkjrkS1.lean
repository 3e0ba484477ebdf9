/-
  OWN WORK: sort.Sort over a pointer to a named slice: what the sort needs to know of its data, and insertionSort.
-/
import Derived.Test.YbulkjrkK
import Derived.Sort.AssemblyPlain
import Derived.Sort.Row
namespace Go.Proofs.Ybulkjrk
open Go.RowKit
open Go.Sort (swp insInner insOuter SWO PermIn SortedIn)
set_option linter.unusedSimpArgs false
set_option linter.unusedVariables false

/-- What the sort's own blocks are kept through. -/
structure KeepUp (N0 : Nat) (W W' : World) : Prop where
  size : W'.heap.size = W.heap.size
  block : ∀ b, N0 ≤ b → W'.heap[b]? = W.heap[b]?

/-- What the sort may lean on: R d W says that the row reads as d in the world W. -/
structure Srt (lt : Nat → Nat → Bool) (rv sv : Value) (n N0 : Nat) (R : Array Nat → World → Prop) : Prop where
  small : n ≤ 1024
  size : ∀ {d W}, R d W → d.size = n
  room : ∀ {d W}, R d W → N0 ≤ W.heap.size
  over : ∀ {d W W'}, R d W → Below N0 W W' → R d W'
  fLen : ∀ {d W}, R d W → Sem.run Yba.prog (method 280 120 rv "Len") W = .ok (96, sv) W
  fLess : ∀ {d W}, R d W → Sem.run Yba.prog (method 280 120 rv "Less") W = .ok (97, sv) W
  fSwap : ∀ {d W}, R d W → Sem.run Yba.prog (method 280 120 rv "Swap") W = .ok (98, sv) W
  len : ∀ {d W}, R d W → Calls Yba.prog 96 #[sv] W fun e w' => e = .returned (.int .i64 n) ∧ w' = W
  less : ∀ {d W}, R d W → ∀ i j : Nat, i < n → j < n → Calls Yba.prog 97 #[sv, .int .i64 i, .int .i64 j] W fun e w' => e = .returned (.bool (lt d[i]! d[j]!)) ∧ ∃ q, w' = W.drewN q
  swap : ∀ {d W}, R d W → ∀ i j : Nat, i < n → j < n → Calls Yba.prog 98 #[sv, .int .i64 i, .int .i64 j] W fun e w' => e = .returned (.tuple #[]) ∧ R (swp d i j) w' ∧ KeepUp N0 W w'

section
variable {lt : Nat → Nat → Bool} {rv sv : Value} {n N0 : Nat} {R : Array Nat → World → Prop}
theorem Srt.drewN (h : Srt lt rv sv n N0 R) {d : Array Nat} {W : World} (hr : R d W) (q : Nat) : R d (W.drewN q) := h.over hr ⟨rfl, rfl, rfl, Nat.le_refl _, fun _ _ => rfl⟩

theorem insInner_goO (lt : Nat → Nat → Bool) (a j : Nat) (d : Array Nat) (h : a < j) (hl : lt d[j]! d[j - 1]! = true) : insInner lt a j d = insInner lt a (j - 1) (swp d j (j - 1)) := by
  cases j with
  | zero => omega
  | succ j => simp only [Nat.add_sub_cancel] at hl ⊢; rw [insInner]; simp [hl]; omega
theorem insInner_stopO (lt : Nat → Nat → Bool) (a j : Nat) (d : Array Nat) (h : j ≤ a ∨ lt d[j]! d[j - 1]! = false) : insInner lt a j d = d := by
  cases j with
  | zero => rw [insInner]
  | succ j =>
    simp only [Nat.add_sub_cancel] at h
    rw [insInner]
    rcases h with h | h
    · simp; omega
    · simp [h]

theorem insOuter_goO (lt : Nat → Nat → Bool) (a b i : Nat) (d : Array Nat) (h : i < b) : insOuter lt a b i d = insOuter lt a b (i + 1) (insInner lt a i d) := by
  conv => lhs; rw [insOuter]
  rw [if_pos h]
theorem insOuter_stopO (lt : Nat → Nat → Bool) (a b i : Nat) (d : Array Nat) (h : ¬ i < b) : insOuter lt a b i d = d := by
  rw [insOuter, if_neg h]

set_option maxHeartbeats 1000000 in
set_option maxRecDepth 100000 in
theorem insertion_any (h : Srt lt rv sv n N0 R) {d : Array Nat} {W : World} (hr : R d W) (a b : Nat) (hab : a ≤ b) (hb : b ≤ n) :
    Calls Yba.prog 62 #[.iface 120 rv, .int .i64 a, .int .i64 b] W fun e w' => e = .returned (.tuple #[]) ∧ R (Sort.insertionSort lt d a b) w' := by
  have hsm := h.small
  go_enter Yba.func62, Yba.ntmps62
  go_wp2
  go_loopw [6] (fun vi wr => ∃ (i : Nat) (dk : Array Nat), vi = .int .i64 i ∧ a < i ∧ i ≤ b + 1 ∧ R dk wr ∧ insOuter lt a b i dk = insOuter lt a b (a + 1) d) (fun vi _ => b + 1 - (intOf vi).toNat)
  case atStart => exact ⟨a + 1, d, by simp, by omega, by omega, hr, rfl⟩
  case round =>
    obtain ⟨i, dk, rfl, hai, hib, hR, hO⟩ := hrel
    have HO : Hid (insOuter lt a b i dk = insOuter lt a b (a + 1) d) := hO
    clear hO
    go_wp2
    · have hlt : i < b := by assumption
      go_loopw [7] (fun vj wr2 => ∃ (j : Nat) (dj : Array Nat), vj = .int .i64 j ∧ a ≤ j ∧ j ≤ i ∧ R dj wr2 ∧ insInner lt a j dj = insInner lt a i dk) (fun vj _ => (intOf vj).toNat)
      case atStart => exact ⟨i, dk, rfl, by omega, Nat.le_refl _, hR, rfl⟩
      case round =>
        obtain ⟨j, dj, rfl, haj, hji, hRj, hI⟩ := hrel
        have HI : Hid (insInner lt a j dj = insInner lt a i dk) := hI
        clear hI hR
        have out : (j ≤ a ∨ lt dj[j]! dj[j - 1]! = false) → ∀ q, ∃ (i' : Nat) (dk' : Array Nat), Value.int .i64 ((i : Int) + 1) = .int .i64 i' ∧ a < i' ∧ i' ≤ b + 1 ∧ R dk' (wr.drewN q) ∧ insOuter lt a b i' dk' = insOuter lt a b (a + 1) d := fun hs q =>
          ⟨i + 1, dj, by simp, by omega, by omega, h.drewN hRj q, by rw [← HO.out, insOuter_goO _ _ _ _ _ hlt, ← HI.out, insInner_stopO _ _ _ _ hs]⟩
        have OUT : Hid _ := out
        clear out
        by_cases hja : a < j
        · have mL := h.fLess hRj
          have mS := fun q => h.fSwap (h.drewN hRj q)
          have hl := h.less hRj j (j - 1) (by omega) (by omega)
          have hsw := fun q => h.swap (h.drewN hRj q) j (j - 1) (by omega) (by omega)
          rw [show (((j - 1 : Nat) : Int)) = (j : Int) - 1 by omega] at hl
          simp only [show (((j - 1 : Nat) : Int)) = (j : Int) - 1 by omega] at hsw
          cases hlv : lt dj[j]! dj[j - 1]! with
          | true =>
            rw [hlv] at hl
            have Hlv : Hid (lt dj[j]! dj[j - 1]! = true) := hlv
            clear hlv
            go_wp2_with (first
              | (go_at_call 97; refine hl.mono ?_; rintro e w' ⟨rfl, q, rfl⟩)
              | (go_at_call 98; refine (hsw _).mono ?_; rintro e w' ⟨rfl, hR2, hK2⟩))
            go_roundw
            case rel =>
              (repeat apply Exists.intro)
              refine ⟨⟨j - 1, swp dj j (j - 1), by congr 1 <;> omega, by omega, by omega, hR2, ?_⟩, by rw [decide_eq_true hlt, show ((j - 1 : Nat) : Int) = (j : Int) - 1 by omega]⟩
              rw [← HI.out, insInner_goO lt a j dj hja Hlv.out]
            case measure => simp [intOf]; omega
          | false =>
            rw [hlv] at hl
            go_wp2_with (go_at_call 97; refine hl.mono ?_; rintro e w' ⟨rfl, q, rfl⟩)
            go_roundw
            case rel => exact OUT.out (Or.inr hlv) q
            case measure => simp [intOf]; omega
        · go_wp2
          go_roundw
          case rel => exact OUT.out (Or.inl (by omega)) 0
          case measure => simp [intOf]; omega
    · have hge : ¬ i < b := by assumption
      go_end0
      exact ⟨rfl, by unfold Sort.insertionSort; rw [← HO.out, insOuter_stopO _ _ _ _ _ hge]; exact hR⟩
end
end Go.Proofs.Ybulkjrk
