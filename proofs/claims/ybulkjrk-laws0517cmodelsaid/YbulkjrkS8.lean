/-
  OWN WORK: partition: what is less than the pivot, the pivot, what is not.
-/
import Derived.Test.YbulkjrkS7
namespace Go.Proofs.Ybulkjrk
open Go.RowKit
open Go.Sort (swp SWO PermIn SortedIn)
set_option linter.unusedSimpArgs false
set_option linter.unusedVariables false
structure Part (lt : Nat → Nat → Bool) (a b : Nat) (d dk : Array Nat) (i j : Nat) : Prop where
  perm : PermIn a b d dk
  i1 : a + 1 ≤ i
  ij : i ≤ j + 1
  jb : j < b
  lo : ∀ k, a < k → k < i → lt dk[k]! dk[a]! = true
  hi : ∀ k, j < k → k < b → lt dk[k]! dk[a]! = false
variable {lt : Nat → Nat → Bool} {a b : Nat} {d dk : Array Nat} {i j : Nat}
theorem Part.up (h : Part lt a b d dk i j) (hij : i ≤ j) (hl : lt dk[i]! dk[a]! = true) : Part lt a b d dk (i + 1) j :=
  ⟨h.perm, by have := h.i1; omega, by omega, h.jb, fun k h1 h2 => by
    by_cases e : k = i
    · subst e; exact hl
    · exact h.lo k h1 (by omega), h.hi⟩
theorem Part.down (h : Part lt a b d dk i j) (hij : i ≤ j) (hl : lt dk[j]! dk[a]! = false) : Part lt a b d dk i (j - 1) :=
  ⟨h.perm, h.i1, by have := h.i1; omega, by have := h.jb; omega, h.lo, fun k h1 h2 => by
    by_cases e : k = j
    · subst e; exact hl
    · exact h.hi k (by omega) h2⟩
theorem Part.swap (h : Part lt a b d dk i j) (hb : b ≤ d.size) (hij : i ≤ j) (hl : lt dk[i]! dk[a]! = false) (hj : lt dk[j]! dk[a]! = true) : Part lt a b d (swp dk i j) (i + 1) (j - 1) := by
  have h1 := h.i1
  have h2 := h.jb
  have hs := h.perm.1
  have hne : i ≠ j := by rintro rfl; rw [hl] at hj; cases hj
  have ea : (swp dk i j)[a]! = dk[a]! := Sort.swp_other _ _ _ _ (by omega) (by omega)
  refine ⟨perm_swp h.perm hb (by omega) (by omega) (by omega) h2, by omega, by omega, by omega, fun k k1 k2 => ?_, fun k k1 k2 => ?_⟩
  · rw [ea]
    by_cases e : k = i
    · subst e; rw [Sort.swp_left _ _ _ (by omega) hne]; exact hj
    · rw [Sort.swp_other _ _ _ _ e (by omega)]; exact h.lo k k1 (by omega)
  · rw [ea]
    by_cases e : k = j
    · subst e; rw [Sort.swp_right _ _ _ (by omega)]; exact hl
    · rw [Sort.swp_other _ _ _ _ (by omega) e]; exact h.hi k (by omega) k2
/-- The end: the pivot goes to its place. -/
structure Parted (lt : Nat → Nat → Bool) (a b : Nat) (d d' : Array Nat) (mid : Nat) : Prop where
  perm : PermIn a b d d'
  am : a ≤ mid
  mb : mid < b
  lo : ∀ k, a ≤ k → k < mid → lt d'[k]! d'[mid]! = true
  hi : ∀ k, mid < k → k < b → lt d'[k]! d'[mid]! = false
theorem Part.done (h : Part lt a b d dk i j) (hb : b ≤ d.size) (hij : ¬ i ≤ j) : Parted lt a b d (swp dk j a) j := by
  have h1 := h.i1
  have h2 := h.jb
  have h3 := h.ij
  have hs := h.perm.1
  have ej : (swp dk j a)[j]! = dk[a]! := by
    by_cases e : j = a
    · subst e; rw [Sort.swp_right _ _ _ (by omega)]
    · exact Sort.swp_left _ _ _ (by omega) e
  refine ⟨perm_swp h.perm hb (by omega) h2 (by omega) (by omega), by omega, h2, fun k k1 k2 => ?_, fun k k1 k2 => ?_⟩
  · rw [ej]
    by_cases e : k = a
    · subst e; rw [Sort.swp_right _ _ _ (by omega)]; exact h.lo j (by omega) (by omega)
    · rw [Sort.swp_other _ _ _ _ (by omega) e]; exact h.lo k (by omega) (by omega)
  · rw [ej, Sort.swp_other _ _ _ _ (by omega) (by omega)]; exact h.hi k k1 k2
section
variable {rv sv : Value} {n N0 : Nat} {R : Array Nat → World → Prop}
set_option maxHeartbeats 8000000 in
set_option maxRecDepth 100000 in
theorem partition_any (h : Srt lt rv sv n N0 R) {W : World} (hr : R d W) (p : Nat) (hap : a ≤ p) (hpb : p < b) (hb : b ≤ n) :
    Calls Yba.prog 69 #[.iface 120 rv, .int .i64 a, .int .i64 b, .int .i64 p] W fun e w' => ∃ (mid : Nat) (d' : Array Nat) (q : Bool), e = .returned (.tuple #[.int .i64 mid, .bool q]) ∧ Parted lt a b d d' mid ∧ R d' w' := by
  have hsm := h.small
  have hsz := h.size hr
  have m0 := h.fSwap hr
  have hP1 : Part lt a b d (swp d a p) (a + 1) (b - 1) :=
    ⟨perm_swp (Sort.permIn_refl _ _ _) (by omega) (by omega) (by omega) hap hpb, by omega, by omega, by omega, fun k _ _ => by omega, fun k _ _ => by omega⟩
  go_enter Yba.func69, Yba.ntmps69
  go_wp2_with (go_at_call 98; refine (h.swapR hr _ _ a p rfl rfl (by omega) (by omega)).mono ?_; rintro e w1 ⟨rfl, hR1⟩)
  generalize swp d a p = d1 at hR1 hP1
  clear m0 hr
  go_loopw [10] (fun v wr => ∃ i : Nat, v = .int .i64 i ∧ R d1 wr ∧ Part lt a b d d1 i (b - 1)) (fun v _ => b - (intOf v).toNat)
  case atStart => exact ⟨a + 1, by simp, hR1, hP1⟩
  case round =>
    obtain ⟨i, rfl, hR, hPt⟩ := hrel
    clear hR1 hP1
    have h1 := hPt.i1
    have h3 := hPt.ij
    by_cases hij : i ≤ b - 1
    · have mL := h.fLess hR
      have hle := h.lessR hR i a i a rfl rfl (by omega) (by omega)
      cases hl : lt d1[i]! d1[a]! with
      | true =>
        rw [hl] at hle
        go_wp2_with (go_at_call 97; refine hle.mono ?_; rintro e w2 ⟨rfl, hR2⟩)
        go_roundw
        case rel => exact ⟨i + 1, by simp, hR2, hPt.up hij hl⟩
        case measure => simp [intOf]; omega
      | false =>
        rw [hl] at hle
        go_wp2_with (go_at_call 97; refine hle.mono ?_; rintro e w2 ⟨rfl, hR2⟩)
        clear hle hR mL
        go_loopw [11] (fun v wr => ∃ j : Nat, v = .int .i64 j ∧ R d1 wr ∧ Part lt a b d d1 i j) (fun v _ => (intOf v).toNat)
        case atStart => exact ⟨b - 1, by congr 1; omega, hR2, hPt⟩
        case round =>
          obtain ⟨j, rfl, hR3, hPt3⟩ := hrel
          clear hR2 hPt h3 hij
          have h2 := hPt3.jb
          have h3 := hPt3.ij
          by_cases hij : i ≤ j
          · have mL := h.fLess hR3
            have hle := h.lessR hR3 j a j a rfl rfl (by omega) (by omega)
            cases hlj : lt d1[j]! d1[a]! with
            | false =>
              rw [hlj] at hle
              go_wp2_with (go_at_call 97; refine hle.mono ?_; rintro e w4 ⟨rfl, hR4⟩)
              go_roundw
              case rel => exact ⟨j - 1, by congr 1; omega, hR4, hPt3.down hij hlj⟩
              case measure => simp [intOf]; omega
            | true =>
              rw [hlj] at hle
              have hPs := hPt3.swap (by omega) hij hl hlj
              have hne : i ≠ j := by rintro rfl; rw [hl] at hlj; cases hlj
              clear hl hlj
              go_wp2_with (first
                | (go_at_call 98; refine (h.swapR hR4 _ _ i j rfl rfl (by omega) (by omega)).mono ?_; rintro e w5 ⟨rfl, hR5⟩)
                | (go_at_call 97; refine hle.mono ?_; rintro e w4 ⟨rfl, hR4⟩; have mS := h.fSwap hR4))
              have hbd : b ≤ d.size := by omega
              clear hPt3 hR3 hR4 hle mL mS h3 hij h2 h1
              generalize swp d1 i j = d2 at hR5 hPs
              go_loopw [10, 11] (fun vi vj wr => ∃ (i j : Nat) (dk : Array Nat), vi = .int .i64 i ∧ vj = .int .i64 j ∧ R dk wr ∧ Part lt a b d dk i j) (fun vi vj _ => (intOf vj).toNat + 1 - (intOf vi).toNat)
              case atStart => exact ⟨i + 1, j - 1, d2, by simp, by congr 1; omega, hR5, hPs⟩
              case round =>
                obtain ⟨i, j, dk, rfl, rfl, hR, hPt⟩ := hrel
                clear hR5 hPs
                have h1 := hPt.i1
                go_wp2
                go_loopw [10] (fun v wr => ∃ i' : Nat, v = .int .i64 i' ∧ i ≤ i' ∧ R dk wr ∧ Part lt a b d dk i' j) (fun v _ => b - (intOf v).toNat)
                case atStart => exact ⟨i, by simp, Nat.le_refl _, hR, hPt⟩
                case round =>
                  obtain ⟨i', rfl, hii, hR6, hPt6⟩ := hrel
                  clear hR
                  have h2 := hPt6.jb
                  have h3 := hPt6.ij
                  by_cases hij : i' ≤ j
                  · have mL := h.fLess hR6
                    have hle := h.lessR hR6 i' a i' a rfl rfl (by omega) (by omega)
                    cases hl : lt dk[i']! dk[a]! with
                    | true =>
                      rw [hl] at hle
                      go_wp2_with (go_at_call 97; refine hle.mono ?_; rintro e w2 ⟨rfl, hR7⟩)
                      go_roundw
                      case rel => exact ⟨i' + 1, by simp, by omega, hR7, hPt6.up hij hl⟩
                      case measure => simp [intOf]; omega
                    | false =>
                      rw [hl] at hle
                      go_wp2_with (go_at_call 97; refine hle.mono ?_; rintro e w2 ⟨rfl, hR7⟩)
                      clear hle mL hR6
                      go_loopw [11] (fun v wr => ∃ j' : Nat, v = .int .i64 j' ∧ j' ≤ j ∧ R dk wr ∧ Part lt a b d dk i' j') (fun v _ => (intOf v).toNat)
                      case atStart => exact ⟨j, by simp, Nat.le_refl _, hR7, hPt6⟩
                      case round =>
                        obtain ⟨j', rfl, hjj, hR8, hPt8⟩ := hrel
                        clear hR7 h2 h3 hij
                        have h2 := hPt8.jb
                        have h3 := hPt8.ij
                        by_cases hij : i' ≤ j'
                        · have mL := h.fLess hR8
                          have hle := h.lessR hR8 j' a j' a rfl rfl (by omega) (by omega)
                          cases hlj : lt dk[j']! dk[a]! with
                          | false =>
                            rw [hlj] at hle
                            go_wp2_with (go_at_call 97; refine hle.mono ?_; rintro e w4 ⟨rfl, hR9⟩)
                            go_roundw
                            case rel => exact ⟨j' - 1, by congr 1; omega, by omega, hR9, hPt8.down hij hlj⟩
                            case measure => simp [intOf]; omega
                          | true =>
                            rw [hlj] at hle
                            have hPs := hPt8.swap hbd hij hl hlj
                            have hne : i' ≠ j' := by rintro rfl; rw [hl] at hlj; cases hlj
                            clear hl hlj
                            go_wp2_with (first
                              | (go_at_call 98; refine (h.swapR hR9 _ _ i' j' rfl rfl (by omega) (by omega)).mono ?_; rintro e w5 ⟨rfl, hR10⟩)
                              | (go_at_call 97; refine hle.mono ?_; rintro e w4 ⟨rfl, hR9⟩; have mS := h.fSwap hR9))
                            go_roundw
                            case rel => exact ⟨i' + 1, j' - 1, swp dk i' j', by simp, by congr 1; omega, hR10, hPs⟩
                            case measure => simp [intOf]; omega
                        · have mS := h.fSwap hR8
                          go_wp2_with (go_at_call 98; refine (h.swapR hR8 _ _ j' a rfl rfl (by omega) (by omega)).mono ?_; rintro e w4 ⟨rfl, hR9⟩)
                          go_ret2
                          exact ⟨j', _, false, rfl, hPt8.done hbd hij, hR9⟩
                  · go_wp2
                    go_loopw [11] (fun v wr => v = .int .i64 j ∧ R dk wr) (fun v _ => 0)
                    case atStart => exact ⟨rfl, hR6⟩
                    case round =>
                      obtain ⟨rfl, hR7⟩ := hrel
                      have mS := h.fSwap hR7
                      go_wp2_with (go_at_call 98; refine (h.swapR hR7 _ _ j a rfl rfl (by omega) (by omega)).mono ?_; rintro e w4 ⟨rfl, hR8⟩)
                      go_ret2
                      exact ⟨j, _, false, rfl, hPt6.done hbd hij, hR8⟩
          · have mS := h.fSwap hR3
            go_wp2_with (go_at_call 98; refine (h.swapR hR3 _ _ j a rfl rfl (by omega) (by omega)).mono ?_; rintro e w4 ⟨rfl, hR4⟩)
            go_ret2
            exact ⟨j, _, true, rfl, hPt3.done (by omega) hij, hR4⟩
    · go_wp2
      go_loopw [11] (fun v wr => v = .int .i64 (b - 1) ∧ R d1 wr) (fun v _ => 0)
      case atStart => exact ⟨rfl, hR⟩
      case round =>
        obtain ⟨rfl, hR3⟩ := hrel
        have mS := h.fSwap hR3
        go_wp2_with (go_at_call 98; refine (h.swapR hR3 _ _ (b - 1) a (by omega) rfl (by omega) (by omega)).mono ?_; rintro e w4 ⟨rfl, hR4⟩)
        go_ret2
        exact ⟨b - 1, _, true, by simp only [show (((b - 1 : Nat) : Int)) = (b : Int) - 1 by omega]; rfl, hPt.done (by omega) hij, hR4⟩
end
end Go.Proofs.Ybulkjrk
