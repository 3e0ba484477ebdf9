/-
  OWN WORK: small functions of the engine's road.
-/
import Derived.Test.YbulkjrkM1
import Derived.Test.YbulkjrkW12
namespace Go.Proofs.Ybulkjrk
open Go.RowKit
set_option linter.unusedSimpArgs false
set_option linter.unusedVariables false
set_option linter.unusedSectionVars false
set_option maxRecDepth 100000
variable [Base]
theorem cid_any (i : Int) (h0 : -1 ≤ i) (h1 : i < 2 ^ 62) (W : World) : Calls Yba.prog 17 #[.int .i64 i] W fun e w' => e = .returned (.agg #[.int .u64 7, .int .u64 (IntKind.u64.wrap i)]) ∧ Below W.heap.size W w' := by
  have hB : ∀ v, Below W.heap.size W (W.alloc v) := fun v => (Below.refl _ _).alloc (Nat.le_refl _) _
  go_enter Yba.func17, Yba.ntmps17
  go_wp2
  refine bodyPost_ret (v := .agg #[.int .u64 7, .int .u64 (IntKind.u64.wrap i)]) (by simp [results, Yba.results17, go_sem, World.cell?_alloc_at]) rfl ⟨rfl, hB _⟩
theorem cside_any (a b : Bool) (x y z : Value) (hx : x.oneCell' = true) (hy : y.oneCell' = true) (hz : z.oneCell' = true) (W : World) : Calls Yba.prog 18 #[.agg #[.bool a, .bool b, x, y, z]] W fun e w' => e = .returned (.int .u8 (if b then 2 else 1)) ∧ Below W.heap.size W w' := by
  have hB : ∀ v, Below W.heap.size W (W.alloc v) := fun v => (Below.refl _ _).alloc (Nat.le_refl _) _
  cases b with
  | true =>
    go_enter Yba.func18, Yba.ntmps18
    go_wp2
    go_ret
    exact ⟨rfl, hB _⟩
  | false =>
    go_enter Yba.func18, Yba.ntmps18
    go_wp2
    go_ret
    exact ⟨rfl, hB _⟩
/-- A side's number: 0 buy, 1 sell. -/
def sdn (sell : Bool) : Nat := if sell then 1 else 0
def sdV (sell : Bool) : Value := .int .u8 (if sell then 2 else 1)
theorem side_any (bb : Nat) (sell : Bool) (W : World) : Calls Yba.prog 42 #[.pointer (some ⟨bb, 1, none⟩), sdV sell] W fun e w' => e = .returned (.pointer (some ⟨bb, 1 + 4 * sdn sell, none⟩)) ∧ w' = W := by
  cases sell with
  | true =>
    simp only [sdV, if_true]
    go_enter Yba.func42, Yba.ntmps42
    go_wp2
    go_ret
    exact ⟨rfl, rfl⟩
  | false =>
    simp only [sdV, Bool.false_eq_true, if_false]
    go_enter Yba.func42, Yba.ntmps42
    go_wp2
    go_ret
    exact ⟨rfl, rfl⟩
theorem opposite_any (sell : Bool) (W : World) : Calls Yba.prog 43 #[sdV sell] W fun e w' => e = .returned (sdV (!sell)) ∧ w' = W := by
  cases sell with
  | true =>
    simp only [sdV, if_true]
    go_enter Yba.func43, Yba.ntmps43
    go_wp2
    go_ret
    exact ⟨rfl, rfl⟩
  | false =>
    simp only [sdV, Bool.false_eq_true, if_false]
    go_enter Yba.func43, Yba.ntmps43
    go_wp2
    go_ret
    exact ⟨rfl, rfl⟩
theorem sideOf_any {W : World} {x bb : Nat} (entry : Bool) (hc : W.cell? ⟨x, 3, none⟩ = some (.int .u8 (if entry then 2 else 1))) : Calls Yba.prog 38 #[.pointer (some ⟨bb, 0, none⟩), .pointer (some ⟨x, 0, none⟩)] W fun e w' => e = .returned (.pointer (some ⟨bb, 1 + 4 * (if entry then 3 else 2), none⟩)) ∧ w' = W := by
  cases entry with
  | true =>
    simp only [if_true] at hc
    go_enter Yba.func38, Yba.ntmps38
    go_wp2
    go_ret
    exact ⟨rfl, rfl⟩
  | false =>
    simp only [Bool.false_eq_true, if_false] at hc
    go_enter Yba.func38, Yba.ntmps38
    go_wp2
    go_ret
    exact ⟨rfl, rfl⟩
/-- An order as it is handed in: nine cells. -/
def ordv (i : Nat) (sell : Bool) (price qty : Int) (stop : Int) (sp : Int) : Value := .agg #[.int .u64 7, .int .u64 i, .string ⟨#[83]⟩, sdV sell, .int .i64 price, .int .i64 qty, .int .u8 stop, .int .i64 sp, .int .u8 0]
theorem immediate_any (i : Nat) (sell : Bool) (price qty stop sp : Int) (W : World) : Calls Yba.prog 45 #[ordv i sell price qty stop sp] W fun e w' => e = .returned (.bool (decide (price = 0))) ∧ Below W.heap.size W w' := by
  have hB : ∀ v, Below W.heap.size W (W.alloc v) := fun v => (Below.refl _ _).alloc (Nat.le_refl _) _
  unfold ordv sdV
  generalize (if sell = true then 2 else 1 : Int) = s
  by_cases h : price = 0
  · subst h
    go_enter Yba.func45, Yba.ntmps45
    go_wp2
    go_ret
    exact ⟨rfl, hB _⟩
  · have hb : (price == 0) = false := by simp [h]
    have hd : decide (price = 0) = false := by simp [h]
    rw [hd]
    go_enter Yba.func45, Yba.ntmps45
    go_wp2
    go_ret
    exact ⟨rfl, hB _⟩
end Go.Proofs.Ybulkjrk
