/-
  OWN WORK: the engine's small functions: best, crossedBy, side, sideOf, opposite, immediate.
-/
import Derived.Test.YbulkjrkV16
namespace Go.Proofs.Ybulkjrk
open Go.RowKit
set_option linter.unusedSimpArgs false
set_option linter.unusedVariables false
section
variable {S : Sid} {D : Nat → Prop} {ex : Nat → Nat → Value} {W : World} {σ : Sd} {buy : Bool}
/-- A side's first cell: 1 for what sorts as a buy, 2 as a sell. -/
def sdv (buy : Bool) : Value := .int .u8 (if buy then 1 else 2)
def bestOf (buy : Bool) (σ : Sd) : Option Nat := σ.ends buy
/-- Does 'price' reach a best level at 'pl'? -/
def reach (buy : Bool) (price pl : Int) : Bool := decide (price = 0) || !(if buy then decide (pl < price) else decide (price < pl))
def crossed (buy : Bool) (σ : Sd) (price : Int) : Bool :=
  match σ.ends buy with
  | none => false
  | some l => reach buy price (σ.price l)

set_option maxRecDepth 100000 in
theorem bestWay_any (h : Rep S D ex (sdv buy) W σ) : Calls Yba.prog 51 #[.pointer (some ⟨S.b, S.o, none⟩)] W fun e w' => e = .returned (.int .i64 (if buy then 1 else 0)) ∧ w' = W := by
  have c0 := h.side 0 (by omega)
  simp only [sv, Nat.add_zero] at c0
  cases buy with
  | true =>
    simp only [sdv, if_true] at c0
    go_enter Yba.func51, Yba.ntmps51
    go_wp2
    go_ret
    exact ⟨rfl, rfl⟩
  | false =>
    simp only [sdv, Bool.false_eq_true, if_false] at c0
    go_enter Yba.func51, Yba.ntmps51
    go_wp2
    go_ret
    exact ⟨rfl, rfl⟩
set_option maxRecDepth 100000 in
theorem better_any (h : Rep S D ex (sdv buy) W σ) (x y : Int) : Calls Yba.prog 57 #[.pointer (some ⟨S.b, S.o, none⟩), .int .i64 x, .int .i64 y] W fun e w' => e = .returned (.bool (if buy then decide (y < x) else decide (x < y))) ∧ w' = W := by
  have c0 := h.side 0 (by omega)
  simp only [sv, Nat.add_zero] at c0
  cases buy with
  | true =>
    simp only [sdv, if_true] at c0
    go_enter Yba.func57, Yba.ntmps57
    go_wp2
    go_ret
    exact ⟨rfl, rfl⟩
  | false =>
    simp only [sdv, Bool.false_eq_true, if_false] at c0
    go_enter Yba.func57, Yba.ntmps57
    go_wp2
    go_ret
    exact ⟨rfl, rfl⟩
set_option maxRecDepth 100000 in
theorem best_any (h : Rep S D ex (sdv buy) W σ) : Calls Yba.prog 34 #[.pointer (some ⟨S.b, S.o, none⟩)] W fun e w' => e = .returned (ptr (σ.ends buy)) ∧ ∃ q, w' = W.drewN q := by
  have c2 := h.side 2 (by omega)
  have c3 := h.side 3 (by omega)
  simp only [sv] at c2 c3
  cases buy with
  | true =>
    have hb : ∀ n, Calls Yba.prog 51 #[.pointer (some ⟨S.b, S.o, none⟩)] (W.drewN n) fun e w' => e = .returned (.int .i64 1) ∧ w' = W.drewN n := fun n => bestWay_any (h.drewN n)
    go_enter Yba.func34, Yba.ntmps34
    go_wp2
    go_quiet ((go_at_call 51; exact Calls.quiet_of_same (hb _)))
    go_wp2
    go_ret
    exact ⟨rfl, _, rfl⟩
  | false =>
    have hb : ∀ n, Calls Yba.prog 51 #[.pointer (some ⟨S.b, S.o, none⟩)] (W.drewN n) fun e w' => e = .returned (.int .i64 0) ∧ w' = W.drewN n := fun n => bestWay_any (h.drewN n)
    go_enter Yba.func34, Yba.ntmps34
    go_wp2
    go_quiet ((go_at_call 51; exact Calls.quiet_of_same (hb _)))
    go_wp2
    go_ret
    exact ⟨rfl, _, rfl⟩
set_option maxRecDepth 100000 in
set_option maxHeartbeats 1000000 in
theorem crossed_any (h : Rep S D ex (sdv buy) W σ) (hD : ∀ l, σ.ends buy = some l → D l) (price : Int) : Calls Yba.prog 44 #[.pointer (some ⟨S.b, S.o, none⟩), .int .i64 price] W fun e w' => e = .returned (.bool (crossed buy σ price)) ∧ ∃ q, w' = W.drewN q := by
  have hb := best_any h
  unfold crossed
  cases he : σ.ends buy with
  | none =>
    rw [he] at hb
    go_enter Yba.func44, Yba.ntmps44
    go_wp2_with (go_at_call 34; refine hb.mono ?_; rintro e w1 ⟨rfl, q, rfl⟩; simp only [ptr, Option.map_none])
    go_ret
    exact ⟨rfl, q, rfl⟩
  | some l =>
    rw [he] at hb
    have cl := fun q => (h.drewN q).cell l (hD l he) 0 (by omega)
    simp only [lv] at cl
    have hbt := fun q x y => better_any (h.drewN q) (buy := buy) x y
    simp only [reach]
    by_cases h0 : price = 0
    · subst h0
      go_enter Yba.func44, Yba.ntmps44
      go_wp2_with (go_at_call 34; refine hb.mono ?_; rintro e w1 ⟨rfl, q, rfl⟩; simp only [ptr, Option.map_some])
      all_goals
        go_ret
        refine ⟨?_, q, rfl⟩
        first | rfl | simp | (simp; rfl)
    · go_enter Yba.func44, Yba.ntmps44
      go_wp2_with (first
        | (go_at_call 34; refine hb.mono ?_; rintro e w1 ⟨rfl, q, rfl⟩; simp only [ptr, Option.map_some]; have clq := cl q)
        | (go_at_call 57; refine (hbt _ _ _).mono ?_; rintro e w2 ⟨rfl, rfl⟩))
      all_goals
        go_ret
        refine ⟨?_, q, rfl⟩
        have hp : (price == 0) = false := by simp [h0]
        rw [hp]
        first | rfl | simp | (simp; rfl)
end
end Go.Proofs.Ybulkjrk
