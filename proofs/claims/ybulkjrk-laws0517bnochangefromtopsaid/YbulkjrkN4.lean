import Derived.Test.YbulkjrkN3
namespace Go.Proofs.Ybulkjrk
open Go.RowKit
set_option linter.unusedSimpArgs false
set_option linter.unusedVariables false

set_option maxHeartbeats 1000000 in
theorem noChange (b : Nat) (p q p' q' : Int) (ev : Value) (a : Option Addr) (n c : Nat) (hev : ev = .slice a n c) (w : World) (hb : b < w.heap.size) (h1 : Ends w b 1 1 p q) (h2 : Ends w b 5 2 p' q') :
    Calls Yba.prog 13 #[.pointer (some ⟨b, 0, none⟩), .agg #[.int .i64 p, .int .i64 q, .int .i64 p', .int .i64 q'], ev] w fun e w' => e = .returned ev ∧ Below w.heap.size w w' := by
  subst hev
  have i0 : ∀ w, (Instr.index 93 (.agg #[.pointer (some ⟨b, 1, none⟩), .pointer (some ⟨b, 5, none⟩)]) (.int .i64 0)).run Yba.prog w = .ok (.pointer (some ⟨b, 1, none⟩)) w := fun _ => by kernel_rfl
  have i1 : ∀ w, (Instr.index 93 (.agg #[.pointer (some ⟨b, 1, none⟩), .pointer (some ⟨b, 5, none⟩)]) (.int .i64 1)).run Yba.prog w = .ok (.pointer (some ⟨b, 5, none⟩)) w := fun _ => by kernel_rfl
  have hB0 : Below w.heap.size w (w.alloc (.cells #[.int .i64 p, .int .i64 q, .int .i64 p', .int .i64 q'] 52)) := (Below.refl _ _).alloc (Nat.le_refl _) _
  have k0 : (w.alloc (.cells #[.int .i64 p, .int .i64 q, .int .i64 p', .int .i64 q'] 52)).cell? ⟨w.heap.size, 0, none⟩ = some (.int .i64 p) := by simp
  have k1 : (w.alloc (.cells #[.int .i64 p, .int .i64 q, .int .i64 p', .int .i64 q'] 52)).cell? ⟨w.heap.size, 1, none⟩ = some (.int .i64 q) := by simp
  have k2 : (w.alloc (.cells #[.int .i64 p, .int .i64 q, .int .i64 p', .int .i64 q'] 52)).cell? ⟨w.heap.size, 2, none⟩ = some (.int .i64 p') := by simp
  have k3 : (w.alloc (.cells #[.int .i64 p, .int .i64 q, .int .i64 p', .int .i64 q'] 52)).cell? ⟨w.heap.size, 3, none⟩ = some (.int .i64 q') := by simp
  have hz : w.heap.size < (w.alloc (.cells #[.int .i64 p, .int .i64 q, .int .i64 p', .int .i64 q'] 52)).heap.size := by simp
  go_enter Yba.func13, Yba.ntmps13
  go_wp2
  generalize w.alloc (.cells #[.int .i64 p, .int .i64 q, .int .i64 p', .int .i64 q'] 52) = w0 at *
  go_quiet (fail)
  go_wp2
  go_loopw [2, 19] (fun e k wr => e = .slice a n c ∧ ∃ j : Nat, j ≤ 2 ∧ k = .int .i64 j ∧ Below w0.heap.size w0 wr) (fun _ k _ => 2 - (intOf k).toNat)
  case atStart => exact ⟨rfl, 0, by omega, rfl, below_draws (Below.refl _ _) _⟩
  case round =>
    obtain ⟨rfl, j, hj, rfl, hbr⟩ := hrel
    rcases (by omega : j = 0 ∨ j = 1 ∨ j = 2) with rfl | rfl | rfl
    · have hbz : b < wr.heap.size := by have := hbr.size; have := hB0.size; omega
      have hwz : w.heap.size < wr.heap.size := Nat.lt_of_lt_of_le hz hbr.size
      have hE : Ends wr b 1 1 p q := h1.below (hB0.trans (hbr.mono hB0.size)) hb
      obtain ⟨hcr, hfr⟩ := bcell hbr
      have r0 : wr.cell? ⟨w.heap.size, 0, none⟩ = some (.int .i64 p) := (hcr _ _ hz).trans k0
      have r1 : wr.cell? ⟨w.heap.size, 1, none⟩ = some (.int .i64 q) := (hcr _ _ hz).trans k1
      clear hcr hfr k0 k1 k2 k3
      go_wp2_with (go_at_call 24; refine (side_top b 1 1 p q _ hbz (.inl rfl) hE).mono ?_; rintro e w1 ⟨rfl, hb1⟩)
      have hz1 : w.heap.size < w1.heap.size := Nat.lt_of_lt_of_le hwz hb1.size
      have s0 : w1.cell? ⟨w.heap.size, 0, none⟩ = some (.int .i64 p) := ((bcell hb1).1 _ _ hwz).trans r0
      have s1 : w1.cell? ⟨w.heap.size, 1, none⟩ = some (.int .i64 q) := ((bcell hb1).1 _ _ hwz).trans r1
      go_quiet (fail)
      go_wp2
      go_roundw
      case rel => exact ⟨rfl, 1, by omega, by go_num, below_draws ((hbr.trans (hb1.mono hbr.size)).alloc (Nat.le_trans hbr.size hb1.size) _) _⟩
      case measure => simp [intOf]
    · have hbz : b < wr.heap.size := by have := hbr.size; have := hB0.size; omega
      have hwz : w.heap.size < wr.heap.size := Nat.lt_of_lt_of_le hz hbr.size
      have hE : Ends wr b 5 2 p' q' := h2.below (hB0.trans (hbr.mono hB0.size)) hb
      obtain ⟨hcr, hfr⟩ := bcell hbr
      have r0 : wr.cell? ⟨w.heap.size, 2, none⟩ = some (.int .i64 p') := (hcr _ _ hz).trans k2
      have r1 : wr.cell? ⟨w.heap.size, 3, none⟩ = some (.int .i64 q') := (hcr _ _ hz).trans k3
      clear hcr hfr k0 k1 k2 k3
      go_wp2_with (go_at_call 24; refine (side_top b 5 2 p' q' _ hbz (.inr rfl) hE).mono ?_; rintro e w1 ⟨rfl, hb1⟩)
      have hz1 : w.heap.size < w1.heap.size := Nat.lt_of_lt_of_le hwz hb1.size
      have s0 : w1.cell? ⟨w.heap.size, 2, none⟩ = some (.int .i64 p') := ((bcell hb1).1 _ _ hwz).trans r0
      have s1 : w1.cell? ⟨w.heap.size, 3, none⟩ = some (.int .i64 q') := ((bcell hb1).1 _ _ hwz).trans r1
      go_quiet (fail)
      go_wp2
      go_roundw
      case rel => exact ⟨rfl, 2, by omega, by go_num, below_draws ((hbr.trans (hb1.mono hbr.size)).alloc (Nat.le_trans hbr.size hb1.size) _) _⟩
      case measure => simp [intOf]
    · go_wp2
      go_ret
      exact ⟨rfl, hB0.trans (hbr.mono hB0.size)⟩

end Go.Proofs.Ybulkjrk
