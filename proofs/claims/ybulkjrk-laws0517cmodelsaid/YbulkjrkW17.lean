/-
  OWN WORK: the admission of an order.
-/
import Derived.Test.YbulkjrkW16
namespace Go.Proofs.Ybulkjrk
open Go.RowKit
set_option linter.unusedSimpArgs false
set_option linter.unusedVariables false
set_option linter.unusedSectionVars false
set_option maxRecDepth 100000
variable [Base]
section
variable {ob : Nat → Nat} {m c eb bb : Nat} {g : Gp} {W W' : World} {q : Nat → List Nat} {tot : Nat → Int} {lev : Nat → Option Nat}
theorem crossed_ph (h : Ph ob m eb bb g W) {k : Nat} (hk : k < 4) (price : Int) (n : Nat) : Calls Yba.prog 44 #[.pointer (some ⟨bb, 1 + 4 * k, none⟩), .int .i64 price] (W.drewN n) fun e w' => e = .returned (.bool (crossed (buyk k) (g.σ k) price)) ∧ ∃ m, w' = W.drewN m := by
  refine (crossed_any ((h.drewN n).rep k hk) (fun l e => ends_mem (h.good k hk) e) price).mono ?_
  rintro e w' ⟨rfl, q, rfl⟩
  exact ⟨rfl, n + q, by simp⟩
theorem Place.shape {σ : Sd} {ll : List Nat} {price : Int} {pl : Value} (h : Place σ ll price pl) : ∃ a b d, pl = .agg #[.pointer a, .pointer b, .int .i64 d] := by
  rcases h with ⟨x, _, _, rfl⟩ | ⟨n, p, d, L, R, _, _, _, _, rfl⟩
  · exact ⟨_, _, _, rfl⟩
  · cases d
    · exact ⟨_, _, _, rfl⟩
    · exact ⟨_, _, _, rfl⟩
theorem box_facts {W w2 : World} {n : Nat} {v0 v1 v2 v3 v4 v5 v6 v7 v8 : Value} (hB2 : Below (((W.alloc (.cells #[v0, v1, v2, v3, v4, v5, v6, v7, v8] 99)).alloc (.cells #[.pointer none, .pointer none, .int .i64 0] 86)).drewN n).heap.size (((W.alloc (.cells #[v0, v1, v2, v3, v4, v5, v6, v7, v8] 99)).alloc (.cells #[.pointer none, .pointer none, .int .i64 0] 86)).drewN n) w2) :
    Below W.heap.size W w2 ∧ W.heap.size + 2 ≤ w2.heap.size ∧ w2.cell? ⟨W.heap.size, 3, none⟩ = some v3 ∧ w2.cell? ⟨W.heap.size, 4, none⟩ = some v4 ∧ w2.cell? ⟨W.heap.size, 5, none⟩ = some v5 ∧ w2.cell? ⟨W.heap.size + 1, 0, none⟩ = some (.pointer none) ∧ w2.cell? ⟨W.heap.size + 1, 1, none⟩ = some (.pointer none) ∧ w2.cell? ⟨W.heap.size + 1, 2, none⟩ = some (.int .i64 0) ∧
      w2.frozen? ⟨W.heap.size + 1, 0, none⟩ = false ∧ w2.frozen? ⟨W.heap.size + 1, 1, none⟩ = false ∧ w2.frozen? ⟨W.heap.size + 1, 2, none⟩ = false := by
  have hN := hB2.size
  simp at hN
  have hB0 : Below W.heap.size W ((W.alloc (.cells #[v0, v1, v2, v3, v4, v5, v6, v7, v8] 99)).alloc (.cells #[.pointer none, .pointer none, .int .i64 0] 86)) := ((Below.refl _ _).alloc (Nat.le_refl _) _).alloc (by simp) _
  have cN : ∀ o, w2.cell? ⟨W.heap.size, o, none⟩ = #[v0, v1, v2, v3, v4, v5, v6, v7, v8][o]? := fun o => (hB2.cell (p := ⟨W.heap.size, o, none⟩) (by simp; omega)).trans (by
    show ((W.alloc (.cells #[v0, v1, v2, v3, v4, v5, v6, v7, v8] 99)).alloc (.cells #[.pointer none, .pointer none, .int .i64 0] 86)).cell? _ = _
    rw [World.cell?_alloc_past _ _ _ (by simp), World.cell?_alloc_at _ _ _ _ rfl])
  have cR : ∀ o, w2.cell? ⟨W.heap.size + 1, o, none⟩ = #[Value.pointer none, .pointer none, .int .i64 0][o]? := fun o => (hB2.cell (p := ⟨W.heap.size + 1, o, none⟩) (by simp)).trans (by
    show ((W.alloc (.cells #[v0, v1, v2, v3, v4, v5, v6, v7, v8] 99)).alloc (.cells #[.pointer none, .pointer none, .int .i64 0] 86)).cell? _ = _
    rw [World.cell?_alloc_at _ _ _ _ (by simp)])
  have fR : ∀ o, w2.frozen? ⟨W.heap.size + 1, o, none⟩ = false := fun o => (hB2.frozen (p := ⟨W.heap.size + 1, o, none⟩) (by simp)).trans (World.frozen?_alloc_at _ _ _ _ (by simp))
  exact ⟨(below_draws hB0 n).trans (hB2.mono (by simp; omega)), hN, cN 3, cN 4, cN 5, cR 0, cR 1, cR 2, fR 0, fR 1, fR 2⟩
set_option maxHeartbeats 1000000 in
theorem admit_any (h : Ph ob m eb bb g W) (L : Lg m c ob g q tot lev) (hc : c ≤ 3000) (htr : g.ec 2 = .bool false) (i : Nat) (sell : Bool) (price qty stop sp : Int) (b0 : 0 ≤ qty) (b1 : qty ≤ 1000) :
    Calls Yba.prog 30 #[.pointer (some ⟨eb, 0, none⟩), .pointer (some ⟨bb, 0, none⟩), ordv i sell price qty stop sp] W fun e w' => Below W.heap.size W w' ∧
      ∃ pa pb pd ok, e = .returned (.tuple #[.agg #[.pointer pa, .pointer pb, .int .i64 pd], .bool ok]) ∧ (ok = false ↔ crossed (buyk (sdn !sell)) (g.σ (sdn !sell)) price = true) ∧ (ok = true → price ≠ 0 → Place (g.σ (sdn sell)) (g.ll (sdn sell)) price (.agg #[.pointer pa, .pointer pb, .int .i64 pd])) := by
  have hkO : sdn (!sell) < 4 := by cases sell <;> decide
  have hkS : sdn sell < 4 := by cases sell <;> decide
  obtain ⟨sv, hsv⟩ : ∃ sv : Int, sdV sell = .int .u8 sv := ⟨_, rfl⟩
  obtain ⟨so, hso⟩ : ∃ so : Int, sdV (!sell) = .int .u8 so := ⟨_, rfl⟩
  have hop := fun w => opposite_any sell w
  have hsd := fun b w => side_any bb b w
  have hsd1 := hsd (!sell)
  have hsd2 := hsd sell
  rw [hso] at hsd1
  rw [hsv] at hsd2
  simp only [hsv, hso] at hop
  have hW0 : ∃ W0, W0 = (W.alloc (.cells #[.int .u64 7, .int .u64 i, .string ⟨#[83]⟩, .int .u8 sv, .int .i64 price, .int .i64 qty, .int .u8 stop, .int .i64 sp, .int .u8 0] 99)).alloc (.cells #[.pointer none, .pointer none, .int .i64 0] 86) := ⟨_, rfl⟩
  have hB0 : Below W.heap.size W ((W.alloc (.cells #[.int .u64 7, .int .u64 i, .string ⟨#[83]⟩, .int .u8 sv, .int .i64 price, .int .i64 qty, .int .u8 stop, .int .i64 sp, .int .u8 0] 99)).alloc (.cells #[.pointer none, .pointer none, .int .i64 0] 86)) := ((Below.refl _ _).alloc (Nat.le_refl _) _).alloc (by simp) _
  have h0 := (h.alloc (.cells #[.int .u64 7, .int .u64 i, .string ⟨#[83]⟩, .int .u8 sv, .int .i64 price, .int .i64 qty, .int .u8 stop, .int .i64 sp, .int .u8 0] 99)).alloc (.cells #[.pointer none, .pointer none, .int .i64 0] 86)
  have hcr := fun n => crossed_ph h0 hkO price n
  have c2 := h.en.cell 2 (by omega)
  rw [htr] at c2
  have zE := h.en.lt
  unfold ordv
  rw [hsv]
  cases hx : crossed (buyk (sdn !sell)) (g.σ (sdn !sell)) price with
  | true =>
    rw [hx] at hcr
    go_enter Yba.func30, Yba.ntmps30
    go_wp2
    go_quiet (first
      | (go_at_call 43; exact Calls.quiet_of_same (hop _))
      | (go_at_call 42; exact Calls.quiet_of_same (hsd1 _))
      | (go_at_call 44; exact hcr _))
    have hBq := fun n => below_draws hB0 n
    have HB := hide hBq
    clear hB0 hBq h0 h L hcr
    go_wp2
    refine bodyPost_ret (v := .tuple #[.agg #[.pointer none, .pointer none, .int .i64 0], .bool false]) ?_ rfl ⟨?_, none, none, 0, false, rfl, by simp, by simp⟩
    · simp [results, Yba.results30, go_sem, World.cell?_alloc_at, World.cell?_alloc_past, World.cell?_setCell_other, World.cell?_setCell_same']
    · exact (((HB.out nq).setCell (p := ⟨W.heap.size + 1, 0, none⟩) (Nat.le_succ _) _).setCell (p := ⟨W.heap.size + 1, 1, none⟩) (Nat.le_succ _) _).setCell (p := ⟨W.heap.size + 1, 2, none⟩) (Nat.le_succ _) _
  | false =>
    rw [hx] at hcr
    have him := fun w => immediate_any i sell price qty stop sp w
    simp only [ordv, hsv] at him
    go_enter Yba.func30, Yba.ntmps30
    go_wp2
    go_quiet (first
      | (go_at_call 43; exact Calls.quiet_of_same (hop _))
      | (go_at_call 42; exact Calls.quiet_of_same (hsd1 _))
      | (go_at_call 44; exact hcr _))
    have hph := fun (n : Nat) w (hw : Below _ _ w) => (h0.drewN n).below hw
    have HH0 := hide (And.intro h0 (And.intro L (And.intro hcr (And.intro hop (And.intro hsd hsd1)))))
    have HPH := hide hph
    clear h0 L hcr hop hsd hsd1 hph h hB0
    by_cases hp : price = 0
    · subst hp
      have hd : decide ((0 : Int) = 0) = true := by simp
      rw [hd] at him
      go_wp2_with (go_at_call 45; refine (him _).mono ?_; rintro e w2 ⟨rfl, hB2⟩; obtain ⟨hBB, hN, p3, p4, p5, r0, r1, r2, f0, f1, f2⟩ := box_facts hB2; clear him hB2)
      refine bodyPost_ret (v := .tuple #[.agg #[.pointer none, .pointer none, .int .i64 0], .bool true]) ?_ rfl ⟨?_, none, none, 0, true, rfl, by simp, by simp⟩
      · simp [results, Yba.results30, go_sem, r0, r1, r2, World.cell?_setCell_other, World.cell?_setCell_same']
      · exact ((hBB.setCell (p := ⟨W.heap.size + 1, 0, none⟩) (Nat.le_succ _) _).setCell (p := ⟨W.heap.size + 1, 1, none⟩) (Nat.le_succ _) _).setCell (p := ⟨W.heap.size + 1, 2, none⟩) (Nat.le_succ _) _
    · have hd : decide (price = 0) = false := by simp [hp]
      rw [hd] at him
      go_wp2_with (go_at_call 45; refine (him _).mono ?_; rintro e w2 ⟨rfl, hB2⟩)
      obtain ⟨hBB, hN, p3, p4, p5, r0, r1, r2, f0, f1, f2⟩ := box_facts hB2
      have h2 := HPH.out _ _ hB2
      have hpl : ∀ w, Below w2.heap.size w2 w → Calls Yba.prog 46 #[.pointer (some ⟨bb, 1 + 4 * sdn sell, none⟩), .int .i64 price, .int .i64 qty] w _ := fun w hw => placeFor_any (h2.below hw) HH0.out.2.1 hc hkS price qty b0 b1
      have HB := hide hBB
      clear h2 hBB him HPH HH0 hB2
      go_region_held3 (fun w' => w'.cell? ⟨W.heap.size, 3, none⟩ = some (.int .u8 sv) ∧ w'.cell? ⟨W.heap.size, 4, none⟩ = some (.int .i64 price) ∧ w'.cell? ⟨W.heap.size, 5, none⟩ = some (.int .i64 qty)) (first | exact ⟨p3, p4, p5⟩ | exact ⟨q3, q4, q5⟩ | go_keep) (first
        | (go_at_call 42; refine (hsd2 _).mono ?_; rintro e w3 ⟨rfl, rfl⟩)
        | (go_at_call 46; refine (hpl _ (by first | exact Below.refl _ _ | exact (Below.refl _ _).drew | exact below_draws (Below.refl _ _) _)).mono ?_; rintro e w3 ⟨pl, rfl, hplc, hB3⟩; obtain ⟨pa, pb, pd, rfl⟩ := hplc.shape; have s0 := (hB3.cell (p := ⟨W.heap.size + 1, 0, none⟩) (by simp; omega)).trans r0; have s1 := (hB3.cell (p := ⟨W.heap.size + 1, 1, none⟩) (by simp; omega)).trans r1; have s2 := (hB3.cell (p := ⟨W.heap.size + 1, 2, none⟩) (by simp; omega)).trans r2; have g0 := (hB3.frozen (p := ⟨W.heap.size + 1, 0, none⟩) (by simp; omega)).trans f0; have g1 := (hB3.frozen (p := ⟨W.heap.size + 1, 1, none⟩) (by simp; omega)).trans f1; have g2 := (hB3.frozen (p := ⟨W.heap.size + 1, 2, none⟩) (by simp; omega)).trans f2; have q3 := (hB3.cell (p := ⟨W.heap.size, 3, none⟩) (by simp; omega)).trans p3; have q4 := (hB3.cell (p := ⟨W.heap.size, 4, none⟩) (by simp; omega)).trans p4; have q5 := (hB3.cell (p := ⟨W.heap.size, 5, none⟩) (by simp; omega)).trans p5))
      go_wp2
      have hB4 : Below W.heap.size W w3 := (below_draws HB.out 1).trans (hB3.mono (by simp; omega))
      refine bodyPost_ret (v := .tuple #[.agg #[.pointer pa, .pointer pb, .int .i64 pd], .bool true]) ?_ rfl ⟨?_, pa, pb, pd, true, rfl, by simp, fun _ _ => hplc⟩
      · simp [results, Yba.results30, go_sem, s0, s1, s2, World.cell?_setCell_other, World.cell?_setCell_same']
      · exact ((hB4.setCell (p := ⟨W.heap.size + 1, 0, none⟩) (Nat.le_succ _) _).setCell (p := ⟨W.heap.size + 1, 1, none⟩) (Nat.le_succ _) _).setCell (p := ⟨W.heap.size + 1, 2, none⟩) (Nat.le_succ _) _
end
end Go.Proofs.Ybulkjrk
