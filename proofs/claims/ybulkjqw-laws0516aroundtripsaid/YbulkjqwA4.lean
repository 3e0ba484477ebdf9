import Derived.Test.YbulkjqwA3
namespace Go.Proofs.Ybulkjqw
open Go.RowKit
set_option linter.unusedSimpArgs false
set_option linter.unusedVariables false

def Nd0 : Nd := ⟨0, 0, 0, 0, 0, 0, 0, 0, 0, 0⟩
def listOf : Option Value → List Value
  | some (.agg cs) => cs.toList
  | _ => []

theorem page_run (ρ : Operand → Value) (o : Oper) (w : World) : (execOp ρ { o with op := .alloc 111 }).run Yba.prog w = .ok (.value (.pointer (some ⟨w.heap.size, 0, none⟩))) (w.alloc (.cells ⟨listOf Yba.t111.zero⟩ 111)) := by kernel_rfl

theorem page_row : (List.range 60).map (fun j => (listOf Yba.t111.zero)[j]?) = (List.range 60).map (fun j => some (Nd0.at (j % 10))) := by kernel_rfl

/-- What a new page holds: a list, of which the first six nodes are known to be zero. -/
theorem page_ex : ∃ L : List Value, (∀ (ρ : Operand → Value) (o : Oper) (w : World), (execOp ρ { o with op := .alloc 111 }).run Yba.prog w = .ok (.value (.pointer (some ⟨w.heap.size, 0, none⟩))) (w.alloc (.cells L.toArray 111))) ∧ ∀ i k, i < 6 → k < 10 → L[i * 10 + k]? = some (Nd0.at k) := by
  refine ⟨listOf Yba.t111.zero, page_run, fun i k hi hk => ?_⟩
  have h := congrArg (fun l => l[i * 10 + k]?) page_row
  have hj : i * 10 + k < 60 := by omega
  have hm : (i * 10 + k) % 10 = k := by omega
  simpa [List.getElem?_range hj, hm] using h

theorem wpList_page {ops : Array Oper} {rest : List Oper} {o : Oper} {a : Act} {w : World} {Q : Exit → Act → World → Prop} (L : List Value) (hr : Hid (∀ (ρ : Operand → Value) (o : Oper) (w : World), (execOp ρ { o with op := .alloc 111 }).run Yba.prog w = .ok (.value (.pointer (some ⟨w.heap.size, 0, none⟩))) (w.alloc (.cells L.toArray 111)))) (hg : o.guard = none) (ho : o.op = .alloc 111)
    (h : wpList Yba.prog ops Q rest (a.put o.dst (.pointer (some ⟨w.heap.size, 0, none⟩))) (w.alloc (.cells L.toArray 111))) : wpList Yba.prog ops Q (o :: rest) a w := by
  refine wpList_plain hg fun K hK => ?_
  have hrun := hr.out a.eval o w
  rw [← ho] at hrun
  unfold Oper.wp
  rw [hrun, Oper.upon_value]
  exact hK _ _ h

/-- The law's datum for one node. -/
structure Dat where
  w : Int
  h : Int
  g : Int
  lw : Int
  lh : Int
  lg : Int
  c : Int
  p : Int

def Dat.nd (d : Dat) (l r : Int) : Nd := ⟨d.w, d.h, d.g, d.lw, d.lh, d.lg, d.c, l, r, d.p⟩

theorem IsNd.keep {B bp i j : Nat} {n : Nd} {w w' : World} (h : IsNd w bp i n) (hc : Chg B (fun b o => b = bp ∧ j * 10 ≤ o ∧ o < j * 10 + 10) w w') (hne : i ≠ j) (hbp : bp < w.heap.size) : IsNd w' bp i n := by
  intro k hk
  obtain ⟨h1, h2⟩ := h k hk
  rw [hc.cell _ _ hbp (by omega), hc.frozen _ _ hbp]
  exact ⟨h1, h2⟩

theorem page_nd {W : World} {L : List Value} (hL : ∀ i k, i < 6 → k < 10 → L[i * 10 + k]? = some (Nd0.at k)) {bp : Nat} (hn : bp = W.heap.size) (i : Nat) (hi : i < 6) : IsNd (W.alloc (.cells L.toArray 111)) bp i Nd0 := by
  intro k hk
  rw [World.cell?_alloc_at _ _ _ _ hn, World.frozen?_alloc_at _ _ _ _ hn]
  exact ⟨by simpa using hL i k hi hk, rfl⟩

theorem IsNd.alloc {bp i : Nat} {n : Nd} {w : World} (h : IsNd w bp i n) (hbp : bp < w.heap.size) (o : Obj) : IsNd (w.alloc o) bp i n := by
  intro k hk
  rw [World.cell?_alloc_past _ _ _ hbp, World.frozen?_alloc_past _ _ _ hbp]
  exact h k hk
theorem IsNd.setOther {bp i j k : Nat} {n : Nd} {w : World} (h : IsNd w bp i n) (hij : i ≠ j) (hk : k < 10) (v : Value) : IsNd (w.setCell ⟨bp, j * 10 + k, none⟩ v) bp i n := by
  intro k' hk'
  rw [World.cell?_setCell_other, World.frozen?_setCell]
  · exact h k' hk'
  · simp only [ne_eq, Addr.mk.injEq]; omega
theorem IsNd.set7 {bp i : Nat} {n : Nd} {w : World} (h : IsNd w bp i n) (v : Int) : IsNd (w.setCell ⟨bp, i * 10 + 7, none⟩ (.int .i32 v)) bp i { n with l := v } := by
  intro k' hk'
  rw [World.frozen?_setCell]
  refine ⟨?_, (h k' hk').2⟩
  by_cases e : k' = 7
  · subst e; rw [World.cell?_setCell_same _ _ _ (h 7 hk').1]; rfl
  · rw [World.cell?_setCell_other, (h k' hk').1]
    · match k', hk' with
      | 0, _ | 1, _ | 2, _ | 3, _ | 4, _ | 5, _ | 6, _ | 8, _ | 9, _ => rfl
      | 7, _ => exact absurd rfl e
    · simp only [ne_eq, Addr.mk.injEq]; omega
theorem IsNd.set8 {bp i : Nat} {n : Nd} {w : World} (h : IsNd w bp i n) (v : Int) : IsNd (w.setCell ⟨bp, i * 10 + 8, none⟩ (.int .i32 v)) bp i { n with r := v } := by
  intro k' hk'
  rw [World.frozen?_setCell]
  refine ⟨?_, (h k' hk').2⟩
  by_cases e : k' = 8
  · subst e; rw [World.cell?_setCell_same _ _ _ (h 8 hk').1]; rfl
  · rw [World.cell?_setCell_other, (h k' hk').1]
    · match k', hk' with
      | 0, _ | 1, _ | 2, _ | 3, _ | 4, _ | 5, _ | 6, _ | 7, _ | 9, _ => rfl
      | 8, _ => exact absurd rfl e
    · simp only [ne_eq, Addr.mk.injEq]; omega

theorem IsNd.put7 {bp i o : Nat} {d : Dat} {r : Int} {w : World} {v : Int} (h : IsNd w bp i (d.nd 0 r)) (ho : o = i * 10 + 7) : IsNd (w.setCell ⟨bp, o, none⟩ (.int .i32 v)) bp i (d.nd v r) := by subst ho; exact h.set7 v
theorem IsNd.put8 {bp i o : Nat} {d : Dat} {l : Int} {w : World} {v : Int} (h : IsNd w bp i (d.nd l 0)) (ho : o = i * 10 + 8) : IsNd (w.setCell ⟨bp, o, none⟩ (.int .i32 v)) bp i (d.nd l v) := by subst ho; exact h.set8 v
theorem IsNd.putOther {bp i o : Nat} {n : Nd} {w : World} {v : Value} (h : IsNd w bp i n) (ho : o < i * 10 ∨ i * 10 + 10 ≤ o) : IsNd (w.setCell ⟨bp, o, none⟩ v) bp i n := by
  intro k' hk'
  rw [World.cell?_setCell_other, World.frozen?_setCell]
  · exact h k' hk'
  · simp only [ne_eq, Addr.mk.injEq]; omega

set_option maxHeartbeats 1000000 in
theorem build_any (d1 d2 d3 d4 d5 : Dat) (x y z : Bool) (w : World) :
    Calls Yba.prog 6 #[.agg #[.int .i32 d1.w, .int .i32 d1.h, .int .i32 d1.g, .int .i32 d1.lw, .int .i32 d1.lh, .int .i32 d1.lg, .int .i32 d1.c, .int .u32 d1.p], .agg #[.int .i32 d2.w, .int .i32 d2.h, .int .i32 d2.g, .int .i32 d2.lw, .int .i32 d2.lh, .int .i32 d2.lg, .int .i32 d2.c, .int .u32 d2.p], .agg #[.int .i32 d3.w, .int .i32 d3.h, .int .i32 d3.g, .int .i32 d3.lw, .int .i32 d3.lh, .int .i32 d3.lg, .int .i32 d3.c, .int .u32 d3.p], .agg #[.int .i32 d4.w, .int .i32 d4.h, .int .i32 d4.g, .int .i32 d4.lw, .int .i32 d4.lh, .int .i32 d4.lg, .int .i32 d4.c, .int .u32 d4.p], .agg #[.int .i32 d5.w, .int .i32 d5.h, .int .i32 d5.g, .int .i32 d5.lw, .int .i32 d5.lh, .int .i32 d5.lg, .int .i32 d5.c, .int .u32 d5.p], .bool x, .bool y, .bool z] w
      fun e w' => ∃ bx bs bp : Nat, e = .returned (.tuple #[.pointer (some ⟨bx, 0, none⟩), .pointer (some ⟨bp, 0, none⟩)]) ∧ Below w.heap.size w w' ∧ w.heap.size ≤ bp ∧ bp < bs ∧ bs < bx ∧ bx < w'.heap.size
        ∧ w'.cell? ⟨bx, 1, none⟩ = some (.slice (some ⟨bs, 0, none⟩) 1 1) ∧ w'.cell? ⟨bs, 0, none⟩ = some (.pointer (some ⟨bp, 0, none⟩))
        ∧ IsNd w' bp 1 (d1.nd (if x then 3 else 0) 2) ∧ IsNd w' bp 2 (d2.nd (if y then 4 else 0) (if z then 5 else 0)) ∧ IsNd w' bp 3 (d3.nd 0 0) ∧ IsNd w' bp 4 (d4.nd 0 0) ∧ IsNd w' bp 5 (d5.nd 0 0) := by
  obtain ⟨L, hr, hL⟩ := page_ex
  have HR : Hid (∀ (ρ : Operand → Value) (o : Oper) (w : World), (execOp ρ { o with op := .alloc 111 }).run Yba.prog w = .ok (.value (.pointer (some ⟨w.heap.size, 0, none⟩))) (w.alloc (.cells L.toArray 111))) := hr
  clear hr
  go_enter Yba.func6, Yba.ntmps6
  go_wp2_with (refine wpList_page L HR rfl rfl ?_)
  have n1 := page_nd hL (W := ((((w.alloc (.cells #[.int .i32 d1.w, .int .i32 d1.h, .int .i32 d1.g, .int .i32 d1.lw, .int .i32 d1.lh, .int .i32 d1.lg, .int .i32 d1.c, .int .u32 d1.p] 24)).alloc (.cells #[.int .i32 d2.w, .int .i32 d2.h, .int .i32 d2.g, .int .i32 d2.lw, .int .i32 d2.lh, .int .i32 d2.lg, .int .i32 d2.c, .int .u32 d2.p] 24)).alloc (.cells #[.int .i32 d3.w, .int .i32 d3.h, .int .i32 d3.g, .int .i32 d3.lw, .int .i32 d3.lh, .int .i32 d3.lg, .int .i32 d3.c, .int .u32 d3.p] 24)).alloc (.cells #[.int .i32 d4.w, .int .i32 d4.h, .int .i32 d4.g, .int .i32 d4.lw, .int .i32 d4.lh, .int .i32 d4.lg, .int .i32 d4.c, .int .u32 d4.p] 24)).alloc (.cells #[.int .i32 d5.w, .int .i32 d5.h, .int .i32 d5.g, .int .i32 d5.lw, .int .i32 d5.lh, .int .i32 d5.lg, .int .i32 d5.c, .int .u32 d5.p] 24)) (bp := w.heap.size + 1 + 1 + 1 + 1 + 1) (by simp)
  have q1 := n1 1 (by omega)
  have q2 := n1 2 (by omega)
  have q3 := n1 3 (by omega)
  have q4 := n1 4 (by omega)
  have q5 := n1 5 (by omega)
  clear hL n1
  have hbW : w.heap.size + 1 + 1 + 1 + 1 + 1 < ((((((w.alloc (.cells #[.int .i32 d1.w, .int .i32 d1.h, .int .i32 d1.g, .int .i32 d1.lw, .int .i32 d1.lh, .int .i32 d1.lg, .int .i32 d1.c, .int .u32 d1.p] 24)).alloc (.cells #[.int .i32 d2.w, .int .i32 d2.h, .int .i32 d2.g, .int .i32 d2.lw, .int .i32 d2.lh, .int .i32 d2.lg, .int .i32 d2.c, .int .u32 d2.p] 24)).alloc (.cells #[.int .i32 d3.w, .int .i32 d3.h, .int .i32 d3.g, .int .i32 d3.lw, .int .i32 d3.lh, .int .i32 d3.lg, .int .i32 d3.c, .int .u32 d3.p] 24)).alloc (.cells #[.int .i32 d4.w, .int .i32 d4.h, .int .i32 d4.g, .int .i32 d4.lw, .int .i32 d4.lh, .int .i32 d4.lg, .int .i32 d4.c, .int .u32 d4.p] 24)).alloc (.cells #[.int .i32 d5.w, .int .i32 d5.h, .int .i32 d5.g, .int .i32 d5.lw, .int .i32 d5.lh, .int .i32 d5.lg, .int .i32 d5.c, .int .u32 d5.p] 24)).alloc (.cells L.toArray 111)).heap.size := by simp
  have hb0 : w.heap.size < w.heap.size + 1 + 1 + 1 + 1 + 1 := by omega
  have hb1 : w.heap.size + 1 < w.heap.size + 1 + 1 + 1 + 1 + 1 := by omega
  have hb2 : w.heap.size + 1 + 1 < w.heap.size + 1 + 1 + 1 + 1 + 1 := by omega
  have hb3 : w.heap.size + 1 + 1 + 1 < w.heap.size + 1 + 1 + 1 + 1 + 1 := by omega
  have hb4 : w.heap.size + 1 + 1 + 1 + 1 < w.heap.size + 1 + 1 + 1 + 1 + 1 := by omega
  generalize w.heap.size + 1 + 1 + 1 + 1 + 1 = bp at *
  refine (aset_any (bp) 1 Nd0 d1.w d1.h d1.g d1.lw d1.lh d1.lg d1.c d1.p _ (by omega) (by omega) hbW q1).mono ?_
  rintro e w1 ⟨rfl, hc1, m1⟩
  have hz1 : bp < w1.heap.size := by have := hc1.size; omega
  have hk1 := fun b o (h : b < bp) => hc1.below.cell (p := ⟨b, o, none⟩) h
  replace q2 := q2.keep (j := 1) hc1 (by omega) hbW
  replace q3 := q3.keep (j := 1) hc1 (by omega) hbW
  replace q4 := q4.keep (j := 1) hc1 (by omega) hbW
  replace q5 := q5.keep (j := 1) hc1 (by omega) hbW
  replace hc1 : Below (bp) _ w1 := hc1.below
  have hB : Below w.heap.size w w1 := ((((((Below.refl _ w).alloc (Nat.le_refl _) _).alloc (by simp) _).alloc (by simp; omega) _).alloc (by simp; omega) _).alloc (by simp; omega) _).alloc (by simp; omega) _ |>.trans (hc1.mono (by omega))
  clear hc1
  go_wp2_with fail
  refine (aset_any (bp) 2 Nd0 d2.w d2.h d2.g d2.lw d2.lh d2.lg d2.c d2.p _ (by omega) (by omega) hz1 q2).mono ?_
  rintro e w2 ⟨rfl, hc2, m2⟩
  have hz2 : bp < w2.heap.size := by have := hc2.size; omega
  have hk2 := fun b o (h : b < bp) => hc2.below.cell (p := ⟨b, o, none⟩) h
  replace q3 := q3.keep (j := 2) hc2 (by omega) hz1
  replace q4 := q4.keep (j := 2) hc2 (by omega) hz1
  replace q5 := q5.keep (j := 2) hc2 (by omega) hz1
  replace m1 := m1.keep (i := 1) (j := 2) hc2 (by omega) hz1
  replace hB : Below w.heap.size w w2 := hB.trans (hc2.below.mono (by omega))
  clear hc2
  go_wp2_with fail
  refine (aset_any (bp) 3 Nd0 d3.w d3.h d3.g d3.lw d3.lh d3.lg d3.c d3.p _ (by omega) (by omega) hz2 q3).mono ?_
  rintro e w3 ⟨rfl, hc3, m3⟩
  have hz3 : bp < w3.heap.size := by have := hc3.size; omega
  have hk3 := fun b o (h : b < bp) => hc3.below.cell (p := ⟨b, o, none⟩) h
  replace q4 := q4.keep (j := 3) hc3 (by omega) hz2
  replace q5 := q5.keep (j := 3) hc3 (by omega) hz2
  replace m1 := m1.keep (i := 1) (j := 3) hc3 (by omega) hz2
  replace m2 := m2.keep (i := 2) (j := 3) hc3 (by omega) hz2
  replace hB : Below w.heap.size w w3 := hB.trans (hc3.below.mono (by omega))
  clear hc3
  go_wp2_with fail
  refine (aset_any (bp) 4 Nd0 d4.w d4.h d4.g d4.lw d4.lh d4.lg d4.c d4.p _ (by omega) (by omega) hz3 q4).mono ?_
  rintro e w4 ⟨rfl, hc4, m4⟩
  have hz4 : bp < w4.heap.size := by have := hc4.size; omega
  have hk4 := fun b o (h : b < bp) => hc4.below.cell (p := ⟨b, o, none⟩) h
  replace q5 := q5.keep (j := 4) hc4 (by omega) hz3
  replace m1 := m1.keep (i := 1) (j := 4) hc4 (by omega) hz3
  replace m2 := m2.keep (i := 2) (j := 4) hc4 (by omega) hz3
  replace m3 := m3.keep (i := 3) (j := 4) hc4 (by omega) hz3
  replace hB : Below w.heap.size w w4 := hB.trans (hc4.below.mono (by omega))
  clear hc4
  go_wp2_with fail
  refine (aset_any (bp) 5 Nd0 d5.w d5.h d5.g d5.lw d5.lh d5.lg d5.c d5.p _ (by omega) (by omega) hz4 q5).mono ?_
  rintro e w5 ⟨rfl, hc5, m5⟩
  have hz5 : bp < w5.heap.size := by have := hc5.size; omega
  have hk5 := fun b o (h : b < bp) => hc5.below.cell (p := ⟨b, o, none⟩) h
  replace m1 := m1.keep (i := 1) (j := 5) hc5 (by omega) hz4
  replace m2 := m2.keep (i := 2) (j := 5) hc5 (by omega) hz4
  replace m3 := m3.keep (i := 3) (j := 5) hc5 (by omega) hz4
  replace m4 := m4.keep (i := 4) (j := 5) hc5 (by omega) hz4
  replace hB : Below w.heap.size w w5 := hB.trans (hc5.below.mono (by omega))
  clear hc5
  change IsNd w5 (bp) 1 (d1.nd 0 0) at m1
  change IsNd w5 (bp) 2 (d2.nd 0 0) at m2
  change IsNd w5 (bp) 3 (d3.nd 0 0) at m3
  change IsNd w5 (bp) 4 (d4.nd 0 0) at m4
  change IsNd w5 (bp) 5 (d5.nd 0 0) at m5
  have HB : Hid (Below w.heap.size w w5) := hB
  have HZ : Hid (bp < w5.heap.size) := hz5
  clear hB hbW hk1 hk2 hk3 hk4 hk5 hz1 hz2 hz3 hz4
  obtain ⟨p17, f17⟩ : w5.cell? ⟨bp, 17, none⟩ = some (.int .i32 0) ∧ w5.frozen? ⟨bp, 17, none⟩ = false := m1 7 (by omega)
  obtain ⟨p18, f18⟩ : w5.cell? ⟨bp, 18, none⟩ = some (.int .i32 0) ∧ w5.frozen? ⟨bp, 18, none⟩ = false := m1 8 (by omega)
  obtain ⟨p27, f27⟩ : w5.cell? ⟨bp, 27, none⟩ = some (.int .i32 0) ∧ w5.frozen? ⟨bp, 27, none⟩ = false := m2 7 (by omega)
  obtain ⟨p28, f28⟩ : w5.cell? ⟨bp, 28, none⟩ = some (.int .i32 0) ∧ w5.frozen? ⟨bp, 28, none⟩ = false := m2 8 (by omega)
  clear q1 q2 q3 q4 q5 HR
  cases x <;> cases y <;> cases z
  all_goals
    go_wp2
    go_ret2
    refine ⟨w5.heap.size + 1, w5.heap.size, bp, rfl, ?_, by omega, hz5, by omega, by simp, by simp [World.cell?_alloc_at], by simp [World.cell?_alloc_at, World.cell?_alloc_past], ?_, ?_, ?_, ?_, ?_⟩
    · refine Below.alloc (Below.alloc ?_ (by simp; omega) _) (by simp; omega) _
      repeat (refine Below.setCell ?_ (by simp only; omega) _)
      exact HB.out
    · refine IsNd.alloc (IsNd.alloc ?_ (by simpa using hz5) _) (by simp; omega) _
      repeat (first | with_reducible exact m1 | refine IsNd.putOther ?_ (by omega) | refine IsNd.put7 ?_ (by omega) | refine IsNd.put8 ?_ (by omega))
    · refine IsNd.alloc (IsNd.alloc ?_ (by simpa using hz5) _) (by simp; omega) _
      repeat (first | with_reducible exact m2 | refine IsNd.putOther ?_ (by omega) | refine IsNd.put7 ?_ (by omega) | refine IsNd.put8 ?_ (by omega))
    · refine IsNd.alloc (IsNd.alloc ?_ (by simpa using hz5) _) (by simp; omega) _
      repeat (first | with_reducible exact m3 | refine IsNd.putOther ?_ (by omega) | refine IsNd.put7 ?_ (by omega) | refine IsNd.put8 ?_ (by omega))
    · refine IsNd.alloc (IsNd.alloc ?_ (by simpa using hz5) _) (by simp; omega) _
      repeat (first | with_reducible exact m4 | refine IsNd.putOther ?_ (by omega) | refine IsNd.put7 ?_ (by omega) | refine IsNd.put8 ?_ (by omega))
    · refine IsNd.alloc (IsNd.alloc ?_ (by simpa using hz5) _) (by simp; omega) _
      repeat (first | with_reducible exact m5 | refine IsNd.putOther ?_ (by omega) | refine IsNd.put7 ?_ (by omega) | refine IsNd.put8 ?_ (by omega))

end Go.Proofs.Ybulkjqw
