/-
  OWN WORK: partialInsertionSort.
-/
import Derived.Test.YbulkjrkS7
namespace Go.Proofs.Ybulkjrk
open Go.RowKit
open Go.Sort (swp SWO PermIn SortedIn)
set_option linter.unusedSimpArgs false
set_option linter.unusedVariables false
variable {lt : Nat → Nat → Bool} {a b : Nat} {d : Array Nat}
section
variable {rv sv : Value} {n N0 : Nat} {R : Array Nat → World → Prop}
set_option maxHeartbeats 16000000 in
set_option maxRecDepth 100000 in
theorem partial_any (h : Srt lt rv sv n N0 R) (hS : SWO lt) {W : World} (hr : R d W) (hab : a < b) (hb : b ≤ n) (hB : Sort.Below lt a b d) :
    Calls Yba.prog 67 #[.iface 120 rv, .int .i64 a, .int .i64 b] W fun e w' => ∃ (q : Bool) (d' : Array Nat), e = .returned (.bool q) ∧ R d' w' ∧ PermIn a b d d' ∧ (q = true → SortedIn lt a b d') := by
  have hsm := h.small
  have hsz := h.size hr
  go_enter Yba.func67, Yba.ntmps67
  go_wp2
  go_loopw [7, 8] (fun vi vs wr => ∃ (i s : Nat) (dk : Array Nat), vi = .int .i64 i ∧ vs = .int .i64 s ∧ s ≤ 5 ∧ a < i ∧ i ≤ b ∧ R dk wr ∧ PermIn a b d dk ∧ SortedIn lt a i dk) (fun vi vs _ => 5 - (intOf vs).toNat)
  case atStart => exact ⟨a + 1, 0, d, by simp, rfl, by omega, by omega, by omega, hr, Sort.permIn_refl _ _ _, fun p q h1 h2 h3 => by omega⟩
  case round =>
    obtain ⟨i, s, dk, rfl, rfl, hs5, hai, hib0, hRk0, hPk, hSk0⟩ := hrel
    clear hr
    by_cases hs : s < 5
    · go_wp2
      rw [show (decide ((s : Int) < 5)) = true by simp; omega]
      have HS : Hid (s < 5) := hs
      go_loopw [7] (fun v wr => ∃ i' : Nat, v = .int .i64 i' ∧ i ≤ i' ∧ i' ≤ b ∧ R dk wr ∧ SortedIn lt a i' dk) (fun v _ => b - (intOf v).toNat)
      case atStart => exact ⟨i, rfl, Nat.le_refl _, hib0, hRk0, hSk0⟩
      case round =>
        obtain ⟨i', rfl, hii, hib1, hRk, hSk⟩ := hrel
        clear hRk0 hSk0
        by_cases hib : i' < b
        · have mL := h.fLess hRk
          have hle := h.lessR hRk i' (i' - 1) i' (i' - 1) rfl (by omega) (by omega) (by omega)
          cases hl : lt dk[i']! dk[i' - 1]! with
          | false =>
            rw [hl] at hle
            go_wp2_with (go_at_call 97; refine hle.mono ?_; rintro e w2 ⟨rfl, hR2⟩)
            go_roundw
            case rel => first | exact ⟨i' + 1, by simp, by omega, by omega, hR2, Sort.SortedIn.snoc hS hSk hl⟩ | ((repeat apply Exists.intro); refine ⟨?_, rfl⟩; exact ⟨i' + 1, by simp, by omega, by omega, hR2, Sort.SortedIn.snoc hS hSk hl⟩)
            case measure => simp [intOf] <;> omega
          | true =>
            rw [hl] at hle
            clear hl
            have hne := hsz
            have hsk := hPk.1
            have hI2 : Sort.Ins lt a (i' - 1) (i' - 1) (swp dk i' (i' - 1)) :=
              ⟨fun p q h1 h2 h3 h4 h5 => by
                rw [Sort.swp_other _ _ _ _ (by omega) (by omega), Sort.swp_other _ _ _ _ (by omega) (by omega)]
                exact hSk p q h1 h2 (by omega), fun q h1 h2 => by omega⟩
            have hP2 : PermIn a b d (swp dk i' (i' - 1)) := perm_swp hPk (by omega) (by omega) hib (by omega) (by omega)
            by_cases hc : b - a < 50
            · go_wp2_with (go_at_call 97; refine hle.mono ?_; rintro e w3 ⟨rfl, hR4⟩)
              go_ret
              exact ⟨false, dk, rfl, hR4, hPk, by simp⟩
            · by_cases c1 : i' - a ≥ 2
              · go_wp2_with (first
                  | (go_at_call 98; refine (h.swapR hR4 _ _ i' (i' - 1) rfl (by omega) (by omega) (by omega)).mono ?_; rintro e w5 ⟨rfl, hR5⟩)
                  | (go_at_call 97; refine hle.mono ?_; rintro e w4 ⟨rfl, hR4⟩; have mS := h.fSwap hR4))
                clear hle mL
                try rw [show (decide ((2 : Int) ≤ (i' : Int) - (a : Int))) = true by simp; omega]
                try rw [show (decide ((b : Int) - (a : Int) < 50)) = false by simp; omega]
                go_loopw [9] (fun v wr => ∃ (j : Nat) (dj : Array Nat), v = .int .i64 j ∧ a ≤ j ∧ j < i' ∧ R dj wr ∧ PermIn a b d dj ∧ Sort.Ins lt a j (i' - 1) dj) (fun v _ => (intOf v).toNat)
                case atStart => exact ⟨i' - 1, _, by congr 1; omega, by omega, by omega, hR5, hP2, hI2⟩
                case round =>
                  obtain ⟨j, d3, rfl, haj, hji, hR6, hP3, hI3⟩ := hrel
                  clear hR5 hR4 hI2 hP2
                  have hsz3 := hP3.1
                  have stop : (j ≤ a ∨ lt d3[j]! d3[j - 1]! = false) → SortedIn lt a i' d3 := fun hs => by
                    have := Sort.Ins.stop hS hI3 hs
                    rwa [show i' - 1 + 1 = i' by omega] at this
                  by_cases hj : 1 ≤ j
                  · have mL := h.fLess hR6
                    have hle := h.lessR hR6 j (j - 1) j (j - 1) rfl (by omega) (by omega) (by omega)
                    cases hl : lt d3[j]! d3[j - 1]! with
                    | true =>
                      rw [hl] at hle
                      have haj' : a < j := by
                        rcases Nat.lt_or_ge a j with h' | h'
                        · exact h'
                        · exfalso
                          obtain rfl : a = j := by omega
                          rcases Sort.Below.perm hB (by omega) hP3 with h0 | h0
                          · omega
                          · rw [h0 a (by omega) (by omega)] at hl; cases hl
                      have hst := Sort.Ins.step (j := j - 1) (by rw [show j - 1 + 1 = j by omega]; exact hI3) (by rw [show j - 1 + 1 = j by omega]; exact hl) (by omega) (by omega)
                      rw [show j - 1 + 1 = j by omega] at hst
                      clear stop hl
                      go_wp2_with (first
                        | (go_at_call 98; refine (h.swapR hR7 _ _ j (j - 1) rfl (by omega) (by omega) (by omega)).mono ?_; rintro e w8 ⟨rfl, hR8⟩)
                        | (go_at_call 97; refine hle.mono ?_; rintro e w7 ⟨rfl, hR7⟩; have mS := h.fSwap hR7))
                      go_roundw
                      case rel => first | exact ⟨j - 1, _, by congr 1; omega, by omega, by omega, hR8, perm_swp hP3 (by omega) (by omega) (by omega) (by omega) (by omega), hst⟩ | ((repeat apply Exists.intro); refine ⟨?_, rfl⟩; exact ⟨j - 1, _, by congr 1; omega, by omega, by omega, hR8, perm_swp hP3 (by omega) (by omega) (by omega) (by omega) (by omega), hst⟩)
                      case measure => simp [intOf] <;> omega
                    | false =>
                      rw [hl] at hle
                      have hS3 := stop (.inr hl)
                      clear stop hl
                      by_cases c2 : b - i' ≥ 2
                      · go_wp2_with (go_at_call 97; refine hle.mono ?_; rintro e w7 ⟨rfl, hR3⟩)
                        try rw [show (decide ((2 : Int) ≤ (b : Int) - (i' : Int))) = true by simp; omega]
                        try rw [show (decide ((b : Int) - (a : Int) < 50)) = false by simp; omega]
                        go_loopw [10] (fun v wr => ∃ (j : Nat) (dj : Array Nat), v = .int .i64 j ∧ i' < j ∧ j ≤ b ∧ R dj wr ∧ PermIn a b d dj ∧ (∀ p, p < i' → dj[p]! = d3[p]!)) (fun v _ => b - (intOf v).toNat)
                        case atStart => exact ⟨i' + 1, d3, by simp, by omega, by omega, hR3, hP3, fun _ _ => rfl⟩
                        case round =>
                          obtain ⟨j, dj, rfl, hij, hjb, hRj, hPj, hEj⟩ := hrel
                          clear hR3
                          have hsz3 := hPj.1
                          by_cases hj : j < b
                          · have mL := h.fLess hRj
                            have hle := h.lessR hRj j (j - 1) j (j - 1) rfl (by omega) (by omega) (by omega)
                            cases hl : lt dj[j]! dj[j - 1]! with
                            | true =>
                              rw [hl] at hle
                              go_wp2_with (first
                                | (go_at_call 98; refine (h.swapR hR7 _ _ j (j - 1) rfl (by omega) (by omega) (by omega)).mono ?_; rintro e w8 ⟨rfl, hR8⟩)
                                | (go_at_call 97; refine hle.mono ?_; rintro e w7 ⟨rfl, hR7⟩; have mS := h.fSwap hR7))
                              go_roundw
                              case rel => first | exact ⟨j + 1, swp dj j (j - 1), by simp, by omega, by omega, hR8, perm_swp hPj (by omega) (by omega) hj (by omega) (by omega), fun p hp => (Sort.swp_other _ _ _ _ (by omega) (by omega)).trans (hEj p hp)⟩ | ((repeat apply Exists.intro); refine ⟨?_, rfl⟩; exact ⟨j + 1, swp dj j (j - 1), by simp, by omega, by omega, hR8, perm_swp hPj (by omega) (by omega) hj (by omega) (by omega), fun p hp => (Sort.swp_other _ _ _ _ (by omega) (by omega)).trans (hEj p hp)⟩)
                              case measure => simp [intOf] <;> omega
                            | false =>
                              rw [hl] at hle
                              go_wp2_with (go_at_call 97; refine hle.mono ?_; rintro e w7 ⟨rfl, hR7⟩)
                              go_roundw
                              case rel => first | exact ⟨i', s + 1, dj, rfl, by simp, by have := HS.out; omega, by omega, by omega, hR7, hPj, Sort.SortedIn.congrA hS3 hEj⟩ | ((repeat apply Exists.intro); refine ⟨?_, rfl⟩; exact ⟨i', s + 1, dj, rfl, by simp, by have := HS.out; omega, by omega, by omega, hR7, hPj, Sort.SortedIn.congrA hS3 hEj⟩)
                              case measure => simp [intOf] <;> omega
                          · go_wp2
                            go_roundw
                            case rel => first | exact ⟨i', s + 1, dj, rfl, by simp, by have := HS.out; omega, by omega, by omega, hRj, hPj, Sort.SortedIn.congrA hS3 hEj⟩ | ((repeat apply Exists.intro); refine ⟨?_, rfl⟩; exact ⟨i', s + 1, dj, rfl, by simp, by have := HS.out; omega, by omega, by omega, hRj, hPj, Sort.SortedIn.congrA hS3 hEj⟩)
                            case measure => simp [intOf] <;> omega
                      · go_wp2_with (go_at_call 97; refine hle.mono ?_; rintro e w7 ⟨rfl, hR3⟩)
                        go_roundw
                        case rel => first | exact ⟨i', s + 1, d3, rfl, by simp, by have := HS.out; omega, by omega, by omega, hR3, hP3, hS3⟩ | ((repeat apply Exists.intro); refine ⟨?_, rfl⟩; exact ⟨i', s + 1, d3, rfl, by simp, by have := HS.out; omega, by omega, by omega, hR3, hP3, hS3⟩)
                        case measure => simp [intOf] <;> omega
                  · have hS3 := stop (.inl (by omega))
                    have hR3 := hR6
                    clear stop
                    by_cases c2 : b - i' ≥ 2
                    · go_wp2
                      try rw [show (decide ((2 : Int) ≤ (b : Int) - (i' : Int))) = true by simp; omega]
                      try rw [show (decide ((b : Int) - (a : Int) < 50)) = false by simp; omega]
                      go_loopw [10] (fun v wr => ∃ (j : Nat) (dj : Array Nat), v = .int .i64 j ∧ i' < j ∧ j ≤ b ∧ R dj wr ∧ PermIn a b d dj ∧ (∀ p, p < i' → dj[p]! = d3[p]!)) (fun v _ => b - (intOf v).toNat)
                      case atStart => exact ⟨i' + 1, d3, by simp, by omega, by omega, hR3, hP3, fun _ _ => rfl⟩
                      case round =>
                        obtain ⟨j, dj, rfl, hij, hjb, hRj, hPj, hEj⟩ := hrel
                        clear hR3
                        have hsz3 := hPj.1
                        by_cases hj : j < b
                        · have mL := h.fLess hRj
                          have hle := h.lessR hRj j (j - 1) j (j - 1) rfl (by omega) (by omega) (by omega)
                          cases hl : lt dj[j]! dj[j - 1]! with
                          | true =>
                            rw [hl] at hle
                            go_wp2_with (first
                              | (go_at_call 98; refine (h.swapR hR7 _ _ j (j - 1) rfl (by omega) (by omega) (by omega)).mono ?_; rintro e w8 ⟨rfl, hR8⟩)
                              | (go_at_call 97; refine hle.mono ?_; rintro e w7 ⟨rfl, hR7⟩; have mS := h.fSwap hR7))
                            go_roundw
                            case rel => first | exact ⟨j + 1, swp dj j (j - 1), by simp, by omega, by omega, hR8, perm_swp hPj (by omega) (by omega) hj (by omega) (by omega), fun p hp => (Sort.swp_other _ _ _ _ (by omega) (by omega)).trans (hEj p hp)⟩ | ((repeat apply Exists.intro); refine ⟨?_, rfl⟩; exact ⟨j + 1, swp dj j (j - 1), by simp, by omega, by omega, hR8, perm_swp hPj (by omega) (by omega) hj (by omega) (by omega), fun p hp => (Sort.swp_other _ _ _ _ (by omega) (by omega)).trans (hEj p hp)⟩)
                            case measure => simp [intOf] <;> omega
                          | false =>
                            rw [hl] at hle
                            go_wp2_with (go_at_call 97; refine hle.mono ?_; rintro e w7 ⟨rfl, hR7⟩)
                            go_roundw
                            case rel => first | exact ⟨i', s + 1, dj, rfl, by simp, by have := HS.out; omega, by omega, by omega, hR7, hPj, Sort.SortedIn.congrA hS3 hEj⟩ | ((repeat apply Exists.intro); refine ⟨?_, rfl⟩; exact ⟨i', s + 1, dj, rfl, by simp, by have := HS.out; omega, by omega, by omega, hR7, hPj, Sort.SortedIn.congrA hS3 hEj⟩)
                            case measure => simp [intOf] <;> omega
                        · go_wp2
                          go_roundw
                          case rel => first | exact ⟨i', s + 1, dj, rfl, by simp, by have := HS.out; omega, by omega, by omega, hRj, hPj, Sort.SortedIn.congrA hS3 hEj⟩ | ((repeat apply Exists.intro); refine ⟨?_, rfl⟩; exact ⟨i', s + 1, dj, rfl, by simp, by have := HS.out; omega, by omega, by omega, hRj, hPj, Sort.SortedIn.congrA hS3 hEj⟩)
                          case measure => simp [intOf] <;> omega
                    · go_wp2
                      go_roundw
                      case rel => first | exact ⟨i', s + 1, d3, rfl, by simp, by have := HS.out; omega, by omega, by omega, hR3, hP3, hS3⟩ | ((repeat apply Exists.intro); refine ⟨?_, rfl⟩; exact ⟨i', s + 1, d3, rfl, by simp, by have := HS.out; omega, by omega, by omega, hR3, hP3, hS3⟩)
                      case measure => simp [intOf] <;> omega
              · obtain ⟨d3, hd3⟩ : ∃ d3, d3 = swp dk i' (i' - 1) := ⟨_, rfl⟩
                have hP3 := hP2
                have hS3 : SortedIn lt a i' d3 := fun p q h1 h2 h3 => by omega
                rw [← hd3] at hP3
                by_cases c2 : b - i' ≥ 2
                · go_wp2_with (first
                    | (go_at_call 98; refine (h.swapR hR4 _ _ i' (i' - 1) rfl (by omega) (by omega) (by omega)).mono ?_; rintro e w5 ⟨rfl, hR3⟩; rw [← hd3] at hR3)
                    | (go_at_call 97; refine hle.mono ?_; rintro e w4 ⟨rfl, hR4⟩; have mS := h.fSwap hR4))
                  try rw [show (decide ((2 : Int) ≤ (b : Int) - (i' : Int))) = true by simp; omega]
                  try rw [show (decide ((b : Int) - (a : Int) < 50)) = false by simp; omega]
                  go_loopw [10] (fun v wr => ∃ (j : Nat) (dj : Array Nat), v = .int .i64 j ∧ i' < j ∧ j ≤ b ∧ R dj wr ∧ PermIn a b d dj ∧ (∀ p, p < i' → dj[p]! = d3[p]!)) (fun v _ => b - (intOf v).toNat)
                  case atStart => exact ⟨i' + 1, d3, by simp, by omega, by omega, hR3, hP3, fun _ _ => rfl⟩
                  case round =>
                    obtain ⟨j, dj, rfl, hij, hjb, hRj, hPj, hEj⟩ := hrel
                    clear hR3
                    have hsz3 := hPj.1
                    by_cases hj : j < b
                    · have mL := h.fLess hRj
                      have hle := h.lessR hRj j (j - 1) j (j - 1) rfl (by omega) (by omega) (by omega)
                      cases hl : lt dj[j]! dj[j - 1]! with
                      | true =>
                        rw [hl] at hle
                        go_wp2_with (first
                          | (go_at_call 98; refine (h.swapR hR7 _ _ j (j - 1) rfl (by omega) (by omega) (by omega)).mono ?_; rintro e w8 ⟨rfl, hR8⟩)
                          | (go_at_call 97; refine hle.mono ?_; rintro e w7 ⟨rfl, hR7⟩; have mS := h.fSwap hR7))
                        go_roundw
                        case rel => first | exact ⟨j + 1, swp dj j (j - 1), by simp, by omega, by omega, hR8, perm_swp hPj (by omega) (by omega) hj (by omega) (by omega), fun p hp => (Sort.swp_other _ _ _ _ (by omega) (by omega)).trans (hEj p hp)⟩ | ((repeat apply Exists.intro); refine ⟨?_, rfl⟩; exact ⟨j + 1, swp dj j (j - 1), by simp, by omega, by omega, hR8, perm_swp hPj (by omega) (by omega) hj (by omega) (by omega), fun p hp => (Sort.swp_other _ _ _ _ (by omega) (by omega)).trans (hEj p hp)⟩)
                        case measure => simp [intOf] <;> omega
                      | false =>
                        rw [hl] at hle
                        go_wp2_with (go_at_call 97; refine hle.mono ?_; rintro e w7 ⟨rfl, hR7⟩)
                        go_roundw
                        case rel => first | exact ⟨i', s + 1, dj, rfl, by simp, by have := HS.out; omega, by omega, by omega, hR7, hPj, Sort.SortedIn.congrA hS3 hEj⟩ | ((repeat apply Exists.intro); refine ⟨?_, rfl⟩; exact ⟨i', s + 1, dj, rfl, by simp, by have := HS.out; omega, by omega, by omega, hR7, hPj, Sort.SortedIn.congrA hS3 hEj⟩)
                        case measure => simp [intOf] <;> omega
                    · go_wp2
                      go_roundw
                      case rel => first | exact ⟨i', s + 1, dj, rfl, by simp, by have := HS.out; omega, by omega, by omega, hRj, hPj, Sort.SortedIn.congrA hS3 hEj⟩ | ((repeat apply Exists.intro); refine ⟨?_, rfl⟩; exact ⟨i', s + 1, dj, rfl, by simp, by have := HS.out; omega, by omega, by omega, hRj, hPj, Sort.SortedIn.congrA hS3 hEj⟩)
                      case measure => simp [intOf] <;> omega
                · exfalso; omega
        · go_wp2
          go_ret
          obtain rfl : i' = b := by omega
          exact ⟨true, dk, rfl, hRk, hPk, fun _ => hSk⟩
    · go_wp2
      go_ret
      exact ⟨false, dk, rfl, hRk0, hPk, by simp⟩
end
end Go.Proofs.Ybulkjrk
