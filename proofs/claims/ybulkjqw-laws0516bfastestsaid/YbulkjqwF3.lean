import Derived.Test.YbulkjqwF2
namespace Go.Proofs.Ybulkjqw
open Go.RowKit
set_option linter.unusedSimpArgs false
set_option linter.unusedVariables false

theorem hide {p : Prop} (h : p) : Hid p := h

def cmpI (x y : Int) : Int := if x < y then -1 else if y < x then 1 else 0

set_option maxHeartbeats 400000 in
theorem compare_any (x y : Int) (w : World) : Calls Yba.prog 26 #[.int .i64 x, .int .i64 y] w fun e w' => e = .returned (.int .i64 (cmpI x y)) ∧ w = w' := by
  go_enter Yba.func26, Yba.ntmps26
  go_wp2
  all_goals (go_ret; refine ⟨ret_int ?_, rfl⟩)
  · unfold cmpI; rw [if_pos (by assumption)]
  · unfold cmpI; rw [if_neg (by omega), if_pos (by assumption)]
  · unfold cmpI; rw [if_neg (by omega), if_neg (by omega)]

set_option maxHeartbeats 400000 in
theorem room_any (v s cv cs B L : Int) (st : ByteArray) (w : World) : Calls Yba.prog 20 #[.agg #[.int .i64 v, .int .i64 s, .string st], .agg #[.int .i64 B, .int .i64 cv, .int .i64 cs, .int .i64 L]] w fun e w' => e = .returned (.bool (decide (cv ≤ v ∧ cs ≤ s))) ∧ Below w.heap.size w w' := by
  by_cases h1 : cv ≤ v
  · by_cases h2 : cs ≤ s
    · go_enter Yba.func20, Yba.ntmps20
      go_wp2
      go_ret
      exact ⟨ret_bool (by simp [h1, h2]), ((Below.refl _ _).alloc (Nat.le_refl _) _).alloc (by simp) _⟩
    · go_enter Yba.func20, Yba.ntmps20
      go_wp2
      go_ret
      exact ⟨ret_bool (by simp [h1, h2]), ((Below.refl _ _).alloc (Nat.le_refl _) _).alloc (by simp) _⟩
  · go_enter Yba.func20, Yba.ntmps20
    go_wp2
    go_ret
    exact ⟨ret_bool (by rw [decide_eq_false (by omega : ¬ cv ≤ v)]; rfl), ((Below.refl _ _).alloc (Nat.le_refl _) _).alloc (by simp) _⟩

set_option maxHeartbeats 400000 in
theorem warmOf_zero (v s : Int) (w : World) : Calls Yba.prog 22 #[.agg #[.int .i64 v, .int .i64 s, .string ⟨#[0]⟩], .int .i64 0] w fun e w' => e = .returned (.bool false) ∧ Below w.heap.size w w' := by
  go_enter Yba.func22, Yba.ntmps22
  go_wp2
  go_quiet (fail)
  go_wp2
  go_ret
  exact ⟨ret_bool (by first | rfl | simp), below_draws ((Below.refl _ _).alloc (Nat.le_refl _) _) _⟩

set_option maxHeartbeats 400000 in
theorem len_zero (b o : Nat) (w : World) (h : w.cell? ⟨b, o, none⟩ = some (.slice none 0 0)) : Calls Yba.prog 30 #[.pointer (some ⟨b, o, none⟩)] w fun e w' => e = .returned (.int .i64 0) ∧ w = w' := by
  go_enter Yba.func30, Yba.ntmps30
  go_wp2
  go_ret
  exact ⟨rfl, rfl⟩

set_option maxHeartbeats 400000 in
theorem expire_zero (b : Nat) (w : World) (h : w.cell? ⟨b, 8, none⟩ = some (.slice none 0 0)) : Calls Yba.prog 28 #[.pointer (some ⟨b, 0, none⟩)] w fun e w' => e = .returned (.tuple #[]) ∧ ∃ n, w' = w.drewN n := by
  have hdd : decide ((0 : Int) < 0) = false := by decide
  go_enter Yba.func28, Yba.ntmps28
  go_wp2
  refine wp_loop_rounds 1 ?_
  rw [rounds_succ]
  go_wp2
  go_quiet ((go_at_call 30; exact Calls.quiet_of_same ((len_zero _ _ _ (by simpa using h)).mono fun e w' h => ⟨h.1, h.2.symm⟩)))
  go_wp2
  go_end0
  exact ⟨rfl, _, rfl⟩

/-- slices.Compare at two rows of four: the first place where they part decides. -/
def lexTo (x y : Nat → Int) : Nat → Int
  | 0 => 0
  | k + 1 => if lexTo x y k = 0 then cmpI (x k) (y k) else lexTo x y k
theorem lexTo_stays (x y : Nat → Int) (j : Nat) (h : lexTo x y j ≠ 0) : ∀ k, j ≤ k → lexTo x y k = lexTo x y j := by
  intro k hk
  induction k with
  | zero => rw [show j = 0 from by omega]
  | succ k ih =>
    by_cases e : j = k + 1
    · rw [e]
    · rw [lexTo, ih (by omega), if_neg h]

set_option maxHeartbeats 1000000 in
theorem compare4 (b1 b2 : Nat) (x y : Nat → Int) (w : World) (hx : ∀ k, k < 4 → w.cell? ⟨b1, k, none⟩ = some (.int .i64 (x k))) (hy : ∀ k, k < 4 → w.cell? ⟨b2, k, none⟩ = some (.int .i64 (y k))) :
    Calls Yba.prog 25 #[.slice (some ⟨b1, 0, none⟩) 4 4, .slice (some ⟨b2, 0, none⟩) 4 4] w fun e w' => e = .returned (.int .i64 (lexTo x y 4)) ∧ w = w' := by
  go_enter Yba.func25, Yba.ntmps25
  go_wp2
  go_loop [11] (fun j => ∃ jn : Nat, jn ≤ 4 ∧ j = .int .i64 jn ∧ lexTo x y jn = 0) (fun j => 4 - (intOf j).toNat)
  case atStart => exact ⟨0, by omega, rfl, rfl⟩
  case round =>
    obtain ⟨j, hj, rfl, h0⟩ := hrel
    have H0 : Hid (lexTo x y j = 0) := h0
    clear h0
    by_cases hlt : j < 4
    · have hltI : (j : Int) < 4 := by omega
      have c1 := hx j hlt
      have c2 := hy j hlt
      have HS : Hid (lexTo x y (j + 1) = cmpI (x j) (y j)) := by show _ = _; rw [lexTo, if_pos H0.out]
      clear hx hy
      by_cases hc : cmpI (x j) (y j) = 0
      · have hcb : (cmpI (x j) (y j) != 0) = false := by simp [hc]
        have HC : Hid (cmpI (x j) (y j) = 0) := hc
        clear hc
        go_wp2_with (go_at_call 26; refine (compare_any _ _ _).mono ?_; rintro e w' ⟨rfl, rfl⟩)
        go_round
        case rel => exact ⟨j + 1, by omega, by go_num, by rw [HS.out]; exact HC.out⟩
        case measure => simp [intOf]; omega
      · have hcb : (cmpI (x j) (y j) != 0) = true := by simp [hc]
        have HC : Hid (lexTo x y 4 = cmpI (x j) (y j)) := by show _ = _; rw [lexTo_stays x y (j + 1) (by rw [HS.out]; exact hc) 4 (by omega), HS.out]
        clear hc
        go_wp2_with (go_at_call 26; refine (compare_any _ _ _).mono ?_; rintro e w' ⟨rfl, rfl⟩)
        go_ret
        exact ⟨ret_int HC.out.symm, rfl⟩
    · have hge : ¬ (j : Int) < 4 := by omega
      have hj4 : j = 4 := by omega
      subst hj4
      go_wp2
      go_ret
      exact ⟨ret_int H0.out.symm, rfl⟩

set_option maxHeartbeats 400000 in
theorem or2 (b : Nat) (x y : Int) (w : World) (h0 : w.cell? ⟨b, 0, none⟩ = some (.int .i64 x)) (h1 : w.cell? ⟨b, 1, none⟩ = some (.int .i64 y)) :
    Calls Yba.prog 24 #[.slice (some ⟨b, 0, none⟩) 2 2] w fun e w' => e = .returned (.int .i64 (if x = 0 then y else x)) ∧ w = w' := by
  by_cases hx : x = 0
  · subst hx
    by_cases hy : y = 0
    · subst hy
      go_enter Yba.func24, Yba.ntmps24
      go_wp2
      refine wp_loop_rounds 3 ?_
      rw [rounds_succ]
      go_wp2
      rw [rounds_succ]
      go_wp2
      rw [rounds_succ]
      go_wp2
      go_ret
      exact ⟨rfl, rfl⟩
    · have hyb : (y != 0) = true := by simp [hy]
      have HY := hide hy
      clear hy
      go_enter Yba.func24, Yba.ntmps24
      go_wp2
      refine wp_loop_rounds 2 ?_
      rw [rounds_succ]
      go_wp2
      rw [rounds_succ]
      go_wp2
      go_ret
      exact ⟨rfl, rfl⟩
  · have hxb : (x != 0) = true := by simp [hx]
    have HX := hide hx
    clear hx
    go_enter Yba.func24, Yba.ntmps24
    go_wp2
    refine wp_loop_rounds 1 ?_
    rw [rounds_succ]
    go_wp2
    go_ret
    exact ⟨ret_int (by first | rfl | (rw [if_neg HX.out])), rfl⟩

end Go.Proofs.Ybulkjqw
