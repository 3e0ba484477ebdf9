import Derived.Test.YbulkjqwA8
namespace Go.Proofs.Ybulkjqw
open Go.RowKit
set_option linter.unusedSimpArgs false
set_option linter.unusedVariables false

set_option maxRecDepth 100000 in
set_option maxHeartbeats 2000000 in
theorem rot_011_b0 (d1 d2 d3 d4 d5 : Dat) (hB : lessB d4.lw d4.lh d4.lg d1.w d1.h d1.g = false) (w : World) :
    Calls Yba.prog 3 #[.agg #[.int .i32 d1.w, .int .i32 d1.h, .int .i32 d1.g, .int .i32 d1.lw, .int .i32 d1.lh, .int .i32 d1.lg, .int .i32 d1.c, .int .u32 d1.p], .agg #[.int .i32 d2.w, .int .i32 d2.h, .int .i32 d2.g, .int .i32 d2.lw, .int .i32 d2.lh, .int .i32 d2.lg, .int .i32 d2.c, .int .u32 d2.p], .agg #[.int .i32 d3.w, .int .i32 d3.h, .int .i32 d3.g, .int .i32 d3.lw, .int .i32 d3.lh, .int .i32 d3.lg, .int .i32 d3.c, .int .u32 d3.p], .agg #[.int .i32 d4.w, .int .i32 d4.h, .int .i32 d4.g, .int .i32 d4.lw, .int .i32 d4.lh, .int .i32 d4.lg, .int .i32 d4.c, .int .u32 d4.p], .agg #[.int .i32 d5.w, .int .i32 d5.h, .int .i32 d5.g, .int .i32 d5.lw, .int .i32 d5.lh, .int .i32 d5.lg, .int .i32 d5.c, .int .u32 d5.p], .bool false, .bool true, .bool true] w fun e w' => e = .returned (.bool true) ∧ Below w.heap.size w w' := by
  go_enter Yba.func3, Yba.ntmps3
  go_wp2_with fail
  refine (build_any d1 d2 d3 d4 d5 false true true _).mono ?_
  rintro e w1 ⟨bx, bs, bp, rfl, hb1, z1, z2, z3, z4, hx, hs, n1, n2, n3, n4, n5⟩
  have I : Idx w1 bx bs bp d1 d2 d3 d4 d5 0 2 4 5 := ⟨z4, by omega, by omega, by omega, by omega, hx, hs, n1, n2, n3, n4, n5⟩
  have hB1 : Below w.heap.size w w1 := (((((Below.refl _ w).alloc (Nat.le_refl _) _).alloc (by simp) _).alloc (by first | (simp; done) | (simp; omega)) _).alloc (by first | (simp; done) | (simp; omega)) _).alloc (by first | (simp; done) | (simp; omega)) _ |>.trans (hb1.mono (by first | (simp; done) | (simp; omega)))
  have hz1 : w.heap.size + 5 ≤ bp := by simpa using z1
  obtain ⟨b1, b2, b3, b4, b5⟩ := five w d1 d2 d3 d4 d5 _ rfl
  replace b1 := b1.below hb1 (by first | (simp; done) | (simp; omega))
  replace b2 := b2.below hb1 (by first | (simp; done) | (simp; omega))
  replace b3 := b3.below hb1 (by first | (simp; done) | (simp; omega))
  replace b4 := b4.below hb1 (by first | (simp; done) | (simp; omega))
  replace b5 := b5.below hb1 (by simp)
  clear hb1 hx hs n1 n2 n3 n4 n5 z1 z2 z3 z4
  go_wp2_with fail
  refine (rotL bx bs bp d1 d2 d3 d4 d5 false true 5 _ I).mono ?_
  rintro e w2 ⟨rfl, hb2, I2⟩
  have e2 : best2 d1 (if false then some d3 else none) (if true then some d4 else none) = { d1 with lw := d1.w, lh := d1.h, lg := d1.g } := by simp [best2, best1, hB]
  rw [e2] at I2
  obtain ⟨zx, zs, zp, -, -, -, -, n1, n2, n3, n4, n5⟩ := I2
  have hB2 : Below w.heap.size w w2 := hB1.trans (hb2.mono (by omega))
  replace b1 := b1.below hb2 (by omega)
  replace b2 := b2.below hb2 (by omega)
  replace b3 := b3.below hb2 (by omega)
  replace b4 := b4.below hb2 (by omega)
  replace b5 := b5.below hb2 (by omega)
  clear hB1 hb2 e2 I
  have k10 : w2.cell? ⟨bp, 10, none⟩ = some (.int .i32 d1.w) := (n1 0 (by omega)).1
  have k11 : w2.cell? ⟨bp, 11, none⟩ = some (.int .i32 d1.h) := (n1 1 (by omega)).1
  have k12 : w2.cell? ⟨bp, 12, none⟩ = some (.int .i32 d1.g) := (n1 2 (by omega)).1
  have k13 : w2.cell? ⟨bp, 13, none⟩ = some (.int .i32 d1.w) := (n1 3 (by omega)).1
  have k14 : w2.cell? ⟨bp, 14, none⟩ = some (.int .i32 d1.h) := (n1 4 (by omega)).1
  have k15 : w2.cell? ⟨bp, 15, none⟩ = some (.int .i32 d1.g) := (n1 5 (by omega)).1
  have k16 : w2.cell? ⟨bp, 16, none⟩ = some (.int .i32 d1.c) := (n1 6 (by omega)).1
  have k17 : w2.cell? ⟨bp, 17, none⟩ = some (.int .i32 0) := (n1 7 (by omega)).1
  have k18 : w2.cell? ⟨bp, 18, none⟩ = some (.int .i32 4) := (n1 8 (by omega)).1
  have k19 : w2.cell? ⟨bp, 19, none⟩ = some (.int .u32 d1.p) := (n1 9 (by omega)).1
  have k20 : w2.cell? ⟨bp, 20, none⟩ = some (.int .i32 d2.w) := (n2 0 (by omega)).1
  have k21 : w2.cell? ⟨bp, 21, none⟩ = some (.int .i32 d2.h) := (n2 1 (by omega)).1
  have k22 : w2.cell? ⟨bp, 22, none⟩ = some (.int .i32 d2.g) := (n2 2 (by omega)).1
  have k23 : w2.cell? ⟨bp, 23, none⟩ = some (.int .i32 d2.lw) := (n2 3 (by omega)).1
  have k24 : w2.cell? ⟨bp, 24, none⟩ = some (.int .i32 d2.lh) := (n2 4 (by omega)).1
  have k25 : w2.cell? ⟨bp, 25, none⟩ = some (.int .i32 d2.lg) := (n2 5 (by omega)).1
  have k26 : w2.cell? ⟨bp, 26, none⟩ = some (.int .i32 d2.c) := (n2 6 (by omega)).1
  have k27 : w2.cell? ⟨bp, 27, none⟩ = some (.int .i32 1) := (n2 7 (by omega)).1
  have k28 : w2.cell? ⟨bp, 28, none⟩ = some (.int .i32 5) := (n2 8 (by omega)).1
  have k29 : w2.cell? ⟨bp, 29, none⟩ = some (.int .u32 d2.p) := (n2 9 (by omega)).1
  have k30 : w2.cell? ⟨bp, 30, none⟩ = some (.int .i32 d3.w) := (n3 0 (by omega)).1
  have k31 : w2.cell? ⟨bp, 31, none⟩ = some (.int .i32 d3.h) := (n3 1 (by omega)).1
  have k32 : w2.cell? ⟨bp, 32, none⟩ = some (.int .i32 d3.g) := (n3 2 (by omega)).1
  have k33 : w2.cell? ⟨bp, 33, none⟩ = some (.int .i32 d3.lw) := (n3 3 (by omega)).1
  have k34 : w2.cell? ⟨bp, 34, none⟩ = some (.int .i32 d3.lh) := (n3 4 (by omega)).1
  have k35 : w2.cell? ⟨bp, 35, none⟩ = some (.int .i32 d3.lg) := (n3 5 (by omega)).1
  have k36 : w2.cell? ⟨bp, 36, none⟩ = some (.int .i32 d3.c) := (n3 6 (by omega)).1
  have k37 : w2.cell? ⟨bp, 37, none⟩ = some (.int .i32 0) := (n3 7 (by omega)).1
  have k38 : w2.cell? ⟨bp, 38, none⟩ = some (.int .i32 0) := (n3 8 (by omega)).1
  have k39 : w2.cell? ⟨bp, 39, none⟩ = some (.int .u32 d3.p) := (n3 9 (by omega)).1
  have k40 : w2.cell? ⟨bp, 40, none⟩ = some (.int .i32 d4.w) := (n4 0 (by omega)).1
  have k41 : w2.cell? ⟨bp, 41, none⟩ = some (.int .i32 d4.h) := (n4 1 (by omega)).1
  have k42 : w2.cell? ⟨bp, 42, none⟩ = some (.int .i32 d4.g) := (n4 2 (by omega)).1
  have k43 : w2.cell? ⟨bp, 43, none⟩ = some (.int .i32 d4.lw) := (n4 3 (by omega)).1
  have k44 : w2.cell? ⟨bp, 44, none⟩ = some (.int .i32 d4.lh) := (n4 4 (by omega)).1
  have k45 : w2.cell? ⟨bp, 45, none⟩ = some (.int .i32 d4.lg) := (n4 5 (by omega)).1
  have k46 : w2.cell? ⟨bp, 46, none⟩ = some (.int .i32 d4.c) := (n4 6 (by omega)).1
  have k47 : w2.cell? ⟨bp, 47, none⟩ = some (.int .i32 0) := (n4 7 (by omega)).1
  have k48 : w2.cell? ⟨bp, 48, none⟩ = some (.int .i32 0) := (n4 8 (by omega)).1
  have k49 : w2.cell? ⟨bp, 49, none⟩ = some (.int .u32 d4.p) := (n4 9 (by omega)).1
  have k50 : w2.cell? ⟨bp, 50, none⟩ = some (.int .i32 d5.w) := (n5 0 (by omega)).1
  have k51 : w2.cell? ⟨bp, 51, none⟩ = some (.int .i32 d5.h) := (n5 1 (by omega)).1
  have k52 : w2.cell? ⟨bp, 52, none⟩ = some (.int .i32 d5.g) := (n5 2 (by omega)).1
  have k53 : w2.cell? ⟨bp, 53, none⟩ = some (.int .i32 d5.lw) := (n5 3 (by omega)).1
  have k54 : w2.cell? ⟨bp, 54, none⟩ = some (.int .i32 d5.lh) := (n5 4 (by omega)).1
  have k55 : w2.cell? ⟨bp, 55, none⟩ = some (.int .i32 d5.lg) := (n5 5 (by omega)).1
  have k56 : w2.cell? ⟨bp, 56, none⟩ = some (.int .i32 d5.c) := (n5 6 (by omega)).1
  have k57 : w2.cell? ⟨bp, 57, none⟩ = some (.int .i32 0) := (n5 7 (by omega)).1
  have k58 : w2.cell? ⟨bp, 58, none⟩ = some (.int .i32 0) := (n5 8 (by omega)).1
  have k59 : w2.cell? ⟨bp, 59, none⟩ = some (.int .u32 d5.p) := (n5 9 (by omega)).1
  have q10 : w2.cell? ⟨w.heap.size, 0, none⟩ = some (.int .i32 d1.w) := b1 0 (by omega)
  have q11 : w2.cell? ⟨w.heap.size, 1, none⟩ = some (.int .i32 d1.h) := b1 1 (by omega)
  have q12 : w2.cell? ⟨w.heap.size, 2, none⟩ = some (.int .i32 d1.g) := b1 2 (by omega)
  have q13 : w2.cell? ⟨w.heap.size, 3, none⟩ = some (.int .i32 d1.lw) := b1 3 (by omega)
  have q14 : w2.cell? ⟨w.heap.size, 4, none⟩ = some (.int .i32 d1.lh) := b1 4 (by omega)
  have q15 : w2.cell? ⟨w.heap.size, 5, none⟩ = some (.int .i32 d1.lg) := b1 5 (by omega)
  have q16 : w2.cell? ⟨w.heap.size, 6, none⟩ = some (.int .i32 d1.c) := b1 6 (by omega)
  have q17 : w2.cell? ⟨w.heap.size, 7, none⟩ = some (.int .u32 d1.p) := b1 7 (by omega)
  have q20 : w2.cell? ⟨w.heap.size + 1, 0, none⟩ = some (.int .i32 d2.w) := b2 0 (by omega)
  have q21 : w2.cell? ⟨w.heap.size + 1, 1, none⟩ = some (.int .i32 d2.h) := b2 1 (by omega)
  have q22 : w2.cell? ⟨w.heap.size + 1, 2, none⟩ = some (.int .i32 d2.g) := b2 2 (by omega)
  have q23 : w2.cell? ⟨w.heap.size + 1, 3, none⟩ = some (.int .i32 d2.lw) := b2 3 (by omega)
  have q24 : w2.cell? ⟨w.heap.size + 1, 4, none⟩ = some (.int .i32 d2.lh) := b2 4 (by omega)
  have q25 : w2.cell? ⟨w.heap.size + 1, 5, none⟩ = some (.int .i32 d2.lg) := b2 5 (by omega)
  have q26 : w2.cell? ⟨w.heap.size + 1, 6, none⟩ = some (.int .i32 d2.c) := b2 6 (by omega)
  have q27 : w2.cell? ⟨w.heap.size + 1, 7, none⟩ = some (.int .u32 d2.p) := b2 7 (by omega)
  have q30 : w2.cell? ⟨w.heap.size + 1 + 1, 0, none⟩ = some (.int .i32 d3.w) := b3 0 (by omega)
  have q31 : w2.cell? ⟨w.heap.size + 1 + 1, 1, none⟩ = some (.int .i32 d3.h) := b3 1 (by omega)
  have q32 : w2.cell? ⟨w.heap.size + 1 + 1, 2, none⟩ = some (.int .i32 d3.g) := b3 2 (by omega)
  have q33 : w2.cell? ⟨w.heap.size + 1 + 1, 3, none⟩ = some (.int .i32 d3.lw) := b3 3 (by omega)
  have q34 : w2.cell? ⟨w.heap.size + 1 + 1, 4, none⟩ = some (.int .i32 d3.lh) := b3 4 (by omega)
  have q35 : w2.cell? ⟨w.heap.size + 1 + 1, 5, none⟩ = some (.int .i32 d3.lg) := b3 5 (by omega)
  have q36 : w2.cell? ⟨w.heap.size + 1 + 1, 6, none⟩ = some (.int .i32 d3.c) := b3 6 (by omega)
  have q37 : w2.cell? ⟨w.heap.size + 1 + 1, 7, none⟩ = some (.int .u32 d3.p) := b3 7 (by omega)
  have q40 : w2.cell? ⟨w.heap.size + 1 + 1 + 1, 0, none⟩ = some (.int .i32 d4.w) := b4 0 (by omega)
  have q41 : w2.cell? ⟨w.heap.size + 1 + 1 + 1, 1, none⟩ = some (.int .i32 d4.h) := b4 1 (by omega)
  have q42 : w2.cell? ⟨w.heap.size + 1 + 1 + 1, 2, none⟩ = some (.int .i32 d4.g) := b4 2 (by omega)
  have q43 : w2.cell? ⟨w.heap.size + 1 + 1 + 1, 3, none⟩ = some (.int .i32 d4.lw) := b4 3 (by omega)
  have q44 : w2.cell? ⟨w.heap.size + 1 + 1 + 1, 4, none⟩ = some (.int .i32 d4.lh) := b4 4 (by omega)
  have q45 : w2.cell? ⟨w.heap.size + 1 + 1 + 1, 5, none⟩ = some (.int .i32 d4.lg) := b4 5 (by omega)
  have q46 : w2.cell? ⟨w.heap.size + 1 + 1 + 1, 6, none⟩ = some (.int .i32 d4.c) := b4 6 (by omega)
  have q47 : w2.cell? ⟨w.heap.size + 1 + 1 + 1, 7, none⟩ = some (.int .u32 d4.p) := b4 7 (by omega)
  have q50 : w2.cell? ⟨w.heap.size + 1 + 1 + 1 + 1, 0, none⟩ = some (.int .i32 d5.w) := b5 0 (by omega)
  have q51 : w2.cell? ⟨w.heap.size + 1 + 1 + 1 + 1, 1, none⟩ = some (.int .i32 d5.h) := b5 1 (by omega)
  have q52 : w2.cell? ⟨w.heap.size + 1 + 1 + 1 + 1, 2, none⟩ = some (.int .i32 d5.g) := b5 2 (by omega)
  have q53 : w2.cell? ⟨w.heap.size + 1 + 1 + 1 + 1, 3, none⟩ = some (.int .i32 d5.lw) := b5 3 (by omega)
  have q54 : w2.cell? ⟨w.heap.size + 1 + 1 + 1 + 1, 4, none⟩ = some (.int .i32 d5.lh) := b5 4 (by omega)
  have q55 : w2.cell? ⟨w.heap.size + 1 + 1 + 1 + 1, 5, none⟩ = some (.int .i32 d5.lg) := b5 5 (by omega)
  have q56 : w2.cell? ⟨w.heap.size + 1 + 1 + 1 + 1, 6, none⟩ = some (.int .i32 d5.c) := b5 6 (by omega)
  have q57 : w2.cell? ⟨w.heap.size + 1 + 1 + 1 + 1, 7, none⟩ = some (.int .u32 d5.p) := b5 7 (by omega)
  have hN0 : w.heap.size < w2.heap.size := by omega
  have hN1 : w.heap.size + 1 < w2.heap.size := by omega
  have hN2 : w.heap.size + 1 + 1 < w2.heap.size := by omega
  have hN3 : w.heap.size + 1 + 1 + 1 < w2.heap.size := by omega
  have hN4 : w.heap.size + 1 + 1 + 1 + 1 < w2.heap.size := by omega
  clear n1 n2 n3 n4 n5 b1 b2 b3 b4 b5 hz1
  go_wp2_with fail
  refine (less_of hB _).mono ?_
  rintro e w3 ⟨rfl, hb3⟩
  obtain ⟨hc3, hf3⟩ := bcell hb3
  have zz3 := hb3.size
  have hB3 : Below w.heap.size w w3 := by
    refine Below.trans ?_ (hb3.mono (by first | omega | (simp; omega)))
    repeat (first | exact hB2 | refine Below.alloc ?_ (by first | omega | (simp; omega)) _ | refine Below.setCell ?_ (by simp only; omega) _)
  simp only [World.size_alloc, World.size_setCell] at hc3 hf3 zz3
  have hk3 : ∀ b o, b < w2.heap.size → w3.cell? ⟨b, o, none⟩ = w2.cell? ⟨b, o, none⟩ := by
    intro b o hbo
    have hbo1 : b < w2.heap.size := by omega
    have hbo4 : b < w2.heap.size + 1 := by omega
    have hbo2 : b ≠ w2.heap.size := by omega
    have hbo3 : w2.heap.size ≠ b := by omega
    rw [hc3 b o (by omega)]
    simp (maxDischargeDepth := 8) [World.cell?_alloc_past, World.cell?_alloc_at, World.frozen?_alloc_past, World.frozen?_alloc_at, World.cell?_setCell_other, World.cell?_setCell_same', World.frozen?_setCell, *]
  have zw3 : w2.heap.size < w3.heap.size := by omega
  have t30 : w3.cell? ⟨w2.heap.size, 0, none⟩ = some (.int .i32 d1.w) := by rw [hc3 _ _ (by omega)]; simp (maxDischargeDepth := 8) [World.cell?_alloc_past, World.cell?_alloc_at, World.frozen?_alloc_past, World.frozen?_alloc_at, World.cell?_setCell_other, World.cell?_setCell_same', World.frozen?_setCell, *]
  have y30 : w3.frozen? ⟨w2.heap.size, 0, none⟩ = false := by rw [hf3 _ _ (by omega)]; simp (maxDischargeDepth := 8) [World.cell?_alloc_past, World.cell?_alloc_at, World.frozen?_alloc_past, World.frozen?_alloc_at, World.cell?_setCell_other, World.cell?_setCell_same', World.frozen?_setCell, *]
  have t31 : w3.cell? ⟨w2.heap.size, 1, none⟩ = some (.int .i32 d1.h) := by rw [hc3 _ _ (by omega)]; simp (maxDischargeDepth := 8) [World.cell?_alloc_past, World.cell?_alloc_at, World.frozen?_alloc_past, World.frozen?_alloc_at, World.cell?_setCell_other, World.cell?_setCell_same', World.frozen?_setCell, *]
  have y31 : w3.frozen? ⟨w2.heap.size, 1, none⟩ = false := by rw [hf3 _ _ (by omega)]; simp (maxDischargeDepth := 8) [World.cell?_alloc_past, World.cell?_alloc_at, World.frozen?_alloc_past, World.frozen?_alloc_at, World.cell?_setCell_other, World.cell?_setCell_same', World.frozen?_setCell, *]
  have t32 : w3.cell? ⟨w2.heap.size, 2, none⟩ = some (.int .i32 d1.g) := by rw [hc3 _ _ (by omega)]; simp (maxDischargeDepth := 8) [World.cell?_alloc_past, World.cell?_alloc_at, World.frozen?_alloc_past, World.frozen?_alloc_at, World.cell?_setCell_other, World.cell?_setCell_same', World.frozen?_setCell, *]
  have y32 : w3.frozen? ⟨w2.heap.size, 2, none⟩ = false := by rw [hf3 _ _ (by omega)]; simp (maxDischargeDepth := 8) [World.cell?_alloc_past, World.cell?_alloc_at, World.frozen?_alloc_past, World.frozen?_alloc_at, World.cell?_setCell_other, World.cell?_setCell_same', World.frozen?_setCell, *]
  have u30 : w3.cell? ⟨w2.heap.size + 1, 0, none⟩ = some (.int .i32 d4.lw) := by rw [hc3 _ _ (by omega)]; simp (maxDischargeDepth := 8) [World.cell?_alloc_past, World.cell?_alloc_at, World.frozen?_alloc_past, World.frozen?_alloc_at, World.cell?_setCell_other, World.cell?_setCell_same', World.frozen?_setCell, *]
  have u31 : w3.cell? ⟨w2.heap.size + 1, 1, none⟩ = some (.int .i32 d4.lh) := by rw [hc3 _ _ (by omega)]; simp (maxDischargeDepth := 8) [World.cell?_alloc_past, World.cell?_alloc_at, World.frozen?_alloc_past, World.frozen?_alloc_at, World.cell?_setCell_other, World.cell?_setCell_same', World.frozen?_setCell, *]
  have u32 : w3.cell? ⟨w2.heap.size + 1, 2, none⟩ = some (.int .i32 d4.lg) := by rw [hc3 _ _ (by omega)]; simp (maxDischargeDepth := 8) [World.cell?_alloc_past, World.cell?_alloc_at, World.frozen?_alloc_past, World.frozen?_alloc_at, World.cell?_setCell_other, World.cell?_setCell_same', World.frozen?_setCell, *]
  have zb3 : w2.heap.size + 1 < w3.heap.size := by omega
  clear hc3 hf3 hb3 hB2
  have hN0 : w.heap.size < w3.heap.size := by omega
  have hN1 : w.heap.size + 1 < w3.heap.size := by omega
  have hN2 : w.heap.size + 1 + 1 < w3.heap.size := by omega
  have hN3 : w.heap.size + 1 + 1 + 1 < w3.heap.size := by omega
  have hN4 : w.heap.size + 1 + 1 + 1 + 1 < w3.heap.size := by omega
  go_wp2_with fail
  have hkF : ∀ b o, b < w2.heap.size → w3.cell? ⟨b, o, none⟩ = w2.cell? ⟨b, o, none⟩ := by
    intro b o hbo
    have hbo2 : b ≠ w2.heap.size := by omega
    have hbo3 : w2.heap.size ≠ b := by omega
    simp (maxDischargeDepth := 8) [World.cell?_alloc_past, World.cell?_alloc_at, World.frozen?_alloc_past, World.frozen?_alloc_at, World.cell?_setCell_other, World.cell?_setCell_same', World.frozen?_setCell, *]
  have hzF : w2.heap.size ≤ w3.heap.size := by omega
  have hBF : Below w.heap.size w w3 := by
    repeat (first | exact hB3 | refine Below.alloc ?_ (by first | omega | (simp; omega)) _ | refine Below.setCell ?_ (by simp only; omega) _)
  go_quiet (fail)
  go_wp2_with fail
  go_quiet (fail)
  go_wp2_with fail
  go_region_held3 (fun w' => (∀ b o, b < w2.heap.size → w'.cell? ⟨b, o, none⟩ = w2.cell? ⟨b, o, none⟩) ∧ w2.heap.size ≤ w'.heap.size ∧ Below w.heap.size w w')
    (first | (apply s_next hk; (assumption); (exact ⟨rfl, rfl, rfl, rfl⟩)) | (exact ⟨hkF, hzF, ⟨hBF.os, hBF.tape, hBF.output, hBF.size, hBF.block⟩⟩))
    (first
      | (go_at_call 9; refine (kept_same _ _ _ _ _ _ _ _ _ _ _ _ _ _).mono ?_; rintro e wk ⟨rfl, hk⟩))
  rename_i hH
  go_wp2_with fail
  go_region_held3 (fun w' => (∀ b o, b < w2.heap.size → w'.cell? ⟨b, o, none⟩ = w2.cell? ⟨b, o, none⟩) ∧ w2.heap.size ≤ w'.heap.size ∧ Below w.heap.size w w')
    (first | (apply s_next hl; (assumption); (exact ⟨rfl, rfl, rfl, rfl⟩)) | exact ⟨hH.1, hH.2.1, ⟨hH.2.2.os, hH.2.2.tape, hH.2.2.output, hH.2.2.size, hH.2.2.block⟩⟩)
    (first
      | (go_at_call 10; refine (leaf_same _ _ _ _ _ _ _ _ _).mono ?_; rintro e wl ⟨rfl, hl⟩))
  rename_i hE
  go_wp2
  go_ret
  exact ⟨rfl, hE.2.2⟩

set_option maxRecDepth 100000 in
set_option maxHeartbeats 2000000 in
theorem rot_110_a1_b0 (d1 d2 d3 d4 d5 : Dat) (hA : lessB d3.lw d3.lh d3.lg d1.w d1.h d1.g = true) (hB : lessB d4.lw d4.lh d4.lg d3.lw d3.lh d3.lg = false) (w : World) :
    Calls Yba.prog 3 #[.agg #[.int .i32 d1.w, .int .i32 d1.h, .int .i32 d1.g, .int .i32 d1.lw, .int .i32 d1.lh, .int .i32 d1.lg, .int .i32 d1.c, .int .u32 d1.p], .agg #[.int .i32 d2.w, .int .i32 d2.h, .int .i32 d2.g, .int .i32 d2.lw, .int .i32 d2.lh, .int .i32 d2.lg, .int .i32 d2.c, .int .u32 d2.p], .agg #[.int .i32 d3.w, .int .i32 d3.h, .int .i32 d3.g, .int .i32 d3.lw, .int .i32 d3.lh, .int .i32 d3.lg, .int .i32 d3.c, .int .u32 d3.p], .agg #[.int .i32 d4.w, .int .i32 d4.h, .int .i32 d4.g, .int .i32 d4.lw, .int .i32 d4.lh, .int .i32 d4.lg, .int .i32 d4.c, .int .u32 d4.p], .agg #[.int .i32 d5.w, .int .i32 d5.h, .int .i32 d5.g, .int .i32 d5.lw, .int .i32 d5.lh, .int .i32 d5.lg, .int .i32 d5.c, .int .u32 d5.p], .bool true, .bool true, .bool false] w fun e w' => e = .returned (.bool true) ∧ Below w.heap.size w w' := by
  go_enter Yba.func3, Yba.ntmps3
  go_wp2_with fail
  refine (build_any d1 d2 d3 d4 d5 true true false _).mono ?_
  rintro e w1 ⟨bx, bs, bp, rfl, hb1, z1, z2, z3, z4, hx, hs, n1, n2, n3, n4, n5⟩
  have I : Idx w1 bx bs bp d1 d2 d3 d4 d5 3 2 4 0 := ⟨z4, by omega, by omega, by omega, by omega, hx, hs, n1, n2, n3, n4, n5⟩
  have hB1 : Below w.heap.size w w1 := (((((Below.refl _ w).alloc (Nat.le_refl _) _).alloc (by simp) _).alloc (by first | (simp; done) | (simp; omega)) _).alloc (by first | (simp; done) | (simp; omega)) _).alloc (by first | (simp; done) | (simp; omega)) _ |>.trans (hb1.mono (by first | (simp; done) | (simp; omega)))
  have hz1 : w.heap.size + 5 ≤ bp := by simpa using z1
  obtain ⟨b1, b2, b3, b4, b5⟩ := five w d1 d2 d3 d4 d5 _ rfl
  replace b1 := b1.below hb1 (by first | (simp; done) | (simp; omega))
  replace b2 := b2.below hb1 (by first | (simp; done) | (simp; omega))
  replace b3 := b3.below hb1 (by first | (simp; done) | (simp; omega))
  replace b4 := b4.below hb1 (by first | (simp; done) | (simp; omega))
  replace b5 := b5.below hb1 (by simp)
  clear hb1 hx hs n1 n2 n3 n4 n5 z1 z2 z3 z4
  go_wp2_with fail
  refine (rotL bx bs bp d1 d2 d3 d4 d5 true true 0 _ I).mono ?_
  rintro e w2 ⟨rfl, hb2, I2⟩
  have e2 : best2 d1 (if true then some d3 else none) (if true then some d4 else none) = { d1 with lw := d3.lw, lh := d3.lh, lg := d3.lg } := by simp [best2, best1, hA, hB]
  rw [e2] at I2
  obtain ⟨zx, zs, zp, -, -, -, -, n1, n2, n3, n4, n5⟩ := I2
  have hB2 : Below w.heap.size w w2 := hB1.trans (hb2.mono (by omega))
  replace b1 := b1.below hb2 (by omega)
  replace b2 := b2.below hb2 (by omega)
  replace b3 := b3.below hb2 (by omega)
  replace b4 := b4.below hb2 (by omega)
  replace b5 := b5.below hb2 (by omega)
  clear hB1 hb2 e2 I
  have k10 : w2.cell? ⟨bp, 10, none⟩ = some (.int .i32 d1.w) := (n1 0 (by omega)).1
  have k11 : w2.cell? ⟨bp, 11, none⟩ = some (.int .i32 d1.h) := (n1 1 (by omega)).1
  have k12 : w2.cell? ⟨bp, 12, none⟩ = some (.int .i32 d1.g) := (n1 2 (by omega)).1
  have k13 : w2.cell? ⟨bp, 13, none⟩ = some (.int .i32 d3.lw) := (n1 3 (by omega)).1
  have k14 : w2.cell? ⟨bp, 14, none⟩ = some (.int .i32 d3.lh) := (n1 4 (by omega)).1
  have k15 : w2.cell? ⟨bp, 15, none⟩ = some (.int .i32 d3.lg) := (n1 5 (by omega)).1
  have k16 : w2.cell? ⟨bp, 16, none⟩ = some (.int .i32 d1.c) := (n1 6 (by omega)).1
  have k17 : w2.cell? ⟨bp, 17, none⟩ = some (.int .i32 3) := (n1 7 (by omega)).1
  have k18 : w2.cell? ⟨bp, 18, none⟩ = some (.int .i32 4) := (n1 8 (by omega)).1
  have k19 : w2.cell? ⟨bp, 19, none⟩ = some (.int .u32 d1.p) := (n1 9 (by omega)).1
  have k20 : w2.cell? ⟨bp, 20, none⟩ = some (.int .i32 d2.w) := (n2 0 (by omega)).1
  have k21 : w2.cell? ⟨bp, 21, none⟩ = some (.int .i32 d2.h) := (n2 1 (by omega)).1
  have k22 : w2.cell? ⟨bp, 22, none⟩ = some (.int .i32 d2.g) := (n2 2 (by omega)).1
  have k23 : w2.cell? ⟨bp, 23, none⟩ = some (.int .i32 d2.lw) := (n2 3 (by omega)).1
  have k24 : w2.cell? ⟨bp, 24, none⟩ = some (.int .i32 d2.lh) := (n2 4 (by omega)).1
  have k25 : w2.cell? ⟨bp, 25, none⟩ = some (.int .i32 d2.lg) := (n2 5 (by omega)).1
  have k26 : w2.cell? ⟨bp, 26, none⟩ = some (.int .i32 d2.c) := (n2 6 (by omega)).1
  have k27 : w2.cell? ⟨bp, 27, none⟩ = some (.int .i32 1) := (n2 7 (by omega)).1
  have k28 : w2.cell? ⟨bp, 28, none⟩ = some (.int .i32 0) := (n2 8 (by omega)).1
  have k29 : w2.cell? ⟨bp, 29, none⟩ = some (.int .u32 d2.p) := (n2 9 (by omega)).1
  have k30 : w2.cell? ⟨bp, 30, none⟩ = some (.int .i32 d3.w) := (n3 0 (by omega)).1
  have k31 : w2.cell? ⟨bp, 31, none⟩ = some (.int .i32 d3.h) := (n3 1 (by omega)).1
  have k32 : w2.cell? ⟨bp, 32, none⟩ = some (.int .i32 d3.g) := (n3 2 (by omega)).1
  have k33 : w2.cell? ⟨bp, 33, none⟩ = some (.int .i32 d3.lw) := (n3 3 (by omega)).1
  have k34 : w2.cell? ⟨bp, 34, none⟩ = some (.int .i32 d3.lh) := (n3 4 (by omega)).1
  have k35 : w2.cell? ⟨bp, 35, none⟩ = some (.int .i32 d3.lg) := (n3 5 (by omega)).1
  have k36 : w2.cell? ⟨bp, 36, none⟩ = some (.int .i32 d3.c) := (n3 6 (by omega)).1
  have k37 : w2.cell? ⟨bp, 37, none⟩ = some (.int .i32 0) := (n3 7 (by omega)).1
  have k38 : w2.cell? ⟨bp, 38, none⟩ = some (.int .i32 0) := (n3 8 (by omega)).1
  have k39 : w2.cell? ⟨bp, 39, none⟩ = some (.int .u32 d3.p) := (n3 9 (by omega)).1
  have k40 : w2.cell? ⟨bp, 40, none⟩ = some (.int .i32 d4.w) := (n4 0 (by omega)).1
  have k41 : w2.cell? ⟨bp, 41, none⟩ = some (.int .i32 d4.h) := (n4 1 (by omega)).1
  have k42 : w2.cell? ⟨bp, 42, none⟩ = some (.int .i32 d4.g) := (n4 2 (by omega)).1
  have k43 : w2.cell? ⟨bp, 43, none⟩ = some (.int .i32 d4.lw) := (n4 3 (by omega)).1
  have k44 : w2.cell? ⟨bp, 44, none⟩ = some (.int .i32 d4.lh) := (n4 4 (by omega)).1
  have k45 : w2.cell? ⟨bp, 45, none⟩ = some (.int .i32 d4.lg) := (n4 5 (by omega)).1
  have k46 : w2.cell? ⟨bp, 46, none⟩ = some (.int .i32 d4.c) := (n4 6 (by omega)).1
  have k47 : w2.cell? ⟨bp, 47, none⟩ = some (.int .i32 0) := (n4 7 (by omega)).1
  have k48 : w2.cell? ⟨bp, 48, none⟩ = some (.int .i32 0) := (n4 8 (by omega)).1
  have k49 : w2.cell? ⟨bp, 49, none⟩ = some (.int .u32 d4.p) := (n4 9 (by omega)).1
  have k50 : w2.cell? ⟨bp, 50, none⟩ = some (.int .i32 d5.w) := (n5 0 (by omega)).1
  have k51 : w2.cell? ⟨bp, 51, none⟩ = some (.int .i32 d5.h) := (n5 1 (by omega)).1
  have k52 : w2.cell? ⟨bp, 52, none⟩ = some (.int .i32 d5.g) := (n5 2 (by omega)).1
  have k53 : w2.cell? ⟨bp, 53, none⟩ = some (.int .i32 d5.lw) := (n5 3 (by omega)).1
  have k54 : w2.cell? ⟨bp, 54, none⟩ = some (.int .i32 d5.lh) := (n5 4 (by omega)).1
  have k55 : w2.cell? ⟨bp, 55, none⟩ = some (.int .i32 d5.lg) := (n5 5 (by omega)).1
  have k56 : w2.cell? ⟨bp, 56, none⟩ = some (.int .i32 d5.c) := (n5 6 (by omega)).1
  have k57 : w2.cell? ⟨bp, 57, none⟩ = some (.int .i32 0) := (n5 7 (by omega)).1
  have k58 : w2.cell? ⟨bp, 58, none⟩ = some (.int .i32 0) := (n5 8 (by omega)).1
  have k59 : w2.cell? ⟨bp, 59, none⟩ = some (.int .u32 d5.p) := (n5 9 (by omega)).1
  have q10 : w2.cell? ⟨w.heap.size, 0, none⟩ = some (.int .i32 d1.w) := b1 0 (by omega)
  have q11 : w2.cell? ⟨w.heap.size, 1, none⟩ = some (.int .i32 d1.h) := b1 1 (by omega)
  have q12 : w2.cell? ⟨w.heap.size, 2, none⟩ = some (.int .i32 d1.g) := b1 2 (by omega)
  have q13 : w2.cell? ⟨w.heap.size, 3, none⟩ = some (.int .i32 d1.lw) := b1 3 (by omega)
  have q14 : w2.cell? ⟨w.heap.size, 4, none⟩ = some (.int .i32 d1.lh) := b1 4 (by omega)
  have q15 : w2.cell? ⟨w.heap.size, 5, none⟩ = some (.int .i32 d1.lg) := b1 5 (by omega)
  have q16 : w2.cell? ⟨w.heap.size, 6, none⟩ = some (.int .i32 d1.c) := b1 6 (by omega)
  have q17 : w2.cell? ⟨w.heap.size, 7, none⟩ = some (.int .u32 d1.p) := b1 7 (by omega)
  have q20 : w2.cell? ⟨w.heap.size + 1, 0, none⟩ = some (.int .i32 d2.w) := b2 0 (by omega)
  have q21 : w2.cell? ⟨w.heap.size + 1, 1, none⟩ = some (.int .i32 d2.h) := b2 1 (by omega)
  have q22 : w2.cell? ⟨w.heap.size + 1, 2, none⟩ = some (.int .i32 d2.g) := b2 2 (by omega)
  have q23 : w2.cell? ⟨w.heap.size + 1, 3, none⟩ = some (.int .i32 d2.lw) := b2 3 (by omega)
  have q24 : w2.cell? ⟨w.heap.size + 1, 4, none⟩ = some (.int .i32 d2.lh) := b2 4 (by omega)
  have q25 : w2.cell? ⟨w.heap.size + 1, 5, none⟩ = some (.int .i32 d2.lg) := b2 5 (by omega)
  have q26 : w2.cell? ⟨w.heap.size + 1, 6, none⟩ = some (.int .i32 d2.c) := b2 6 (by omega)
  have q27 : w2.cell? ⟨w.heap.size + 1, 7, none⟩ = some (.int .u32 d2.p) := b2 7 (by omega)
  have q30 : w2.cell? ⟨w.heap.size + 1 + 1, 0, none⟩ = some (.int .i32 d3.w) := b3 0 (by omega)
  have q31 : w2.cell? ⟨w.heap.size + 1 + 1, 1, none⟩ = some (.int .i32 d3.h) := b3 1 (by omega)
  have q32 : w2.cell? ⟨w.heap.size + 1 + 1, 2, none⟩ = some (.int .i32 d3.g) := b3 2 (by omega)
  have q33 : w2.cell? ⟨w.heap.size + 1 + 1, 3, none⟩ = some (.int .i32 d3.lw) := b3 3 (by omega)
  have q34 : w2.cell? ⟨w.heap.size + 1 + 1, 4, none⟩ = some (.int .i32 d3.lh) := b3 4 (by omega)
  have q35 : w2.cell? ⟨w.heap.size + 1 + 1, 5, none⟩ = some (.int .i32 d3.lg) := b3 5 (by omega)
  have q36 : w2.cell? ⟨w.heap.size + 1 + 1, 6, none⟩ = some (.int .i32 d3.c) := b3 6 (by omega)
  have q37 : w2.cell? ⟨w.heap.size + 1 + 1, 7, none⟩ = some (.int .u32 d3.p) := b3 7 (by omega)
  have q40 : w2.cell? ⟨w.heap.size + 1 + 1 + 1, 0, none⟩ = some (.int .i32 d4.w) := b4 0 (by omega)
  have q41 : w2.cell? ⟨w.heap.size + 1 + 1 + 1, 1, none⟩ = some (.int .i32 d4.h) := b4 1 (by omega)
  have q42 : w2.cell? ⟨w.heap.size + 1 + 1 + 1, 2, none⟩ = some (.int .i32 d4.g) := b4 2 (by omega)
  have q43 : w2.cell? ⟨w.heap.size + 1 + 1 + 1, 3, none⟩ = some (.int .i32 d4.lw) := b4 3 (by omega)
  have q44 : w2.cell? ⟨w.heap.size + 1 + 1 + 1, 4, none⟩ = some (.int .i32 d4.lh) := b4 4 (by omega)
  have q45 : w2.cell? ⟨w.heap.size + 1 + 1 + 1, 5, none⟩ = some (.int .i32 d4.lg) := b4 5 (by omega)
  have q46 : w2.cell? ⟨w.heap.size + 1 + 1 + 1, 6, none⟩ = some (.int .i32 d4.c) := b4 6 (by omega)
  have q47 : w2.cell? ⟨w.heap.size + 1 + 1 + 1, 7, none⟩ = some (.int .u32 d4.p) := b4 7 (by omega)
  have q50 : w2.cell? ⟨w.heap.size + 1 + 1 + 1 + 1, 0, none⟩ = some (.int .i32 d5.w) := b5 0 (by omega)
  have q51 : w2.cell? ⟨w.heap.size + 1 + 1 + 1 + 1, 1, none⟩ = some (.int .i32 d5.h) := b5 1 (by omega)
  have q52 : w2.cell? ⟨w.heap.size + 1 + 1 + 1 + 1, 2, none⟩ = some (.int .i32 d5.g) := b5 2 (by omega)
  have q53 : w2.cell? ⟨w.heap.size + 1 + 1 + 1 + 1, 3, none⟩ = some (.int .i32 d5.lw) := b5 3 (by omega)
  have q54 : w2.cell? ⟨w.heap.size + 1 + 1 + 1 + 1, 4, none⟩ = some (.int .i32 d5.lh) := b5 4 (by omega)
  have q55 : w2.cell? ⟨w.heap.size + 1 + 1 + 1 + 1, 5, none⟩ = some (.int .i32 d5.lg) := b5 5 (by omega)
  have q56 : w2.cell? ⟨w.heap.size + 1 + 1 + 1 + 1, 6, none⟩ = some (.int .i32 d5.c) := b5 6 (by omega)
  have q57 : w2.cell? ⟨w.heap.size + 1 + 1 + 1 + 1, 7, none⟩ = some (.int .u32 d5.p) := b5 7 (by omega)
  have hN0 : w.heap.size < w2.heap.size := by omega
  have hN1 : w.heap.size + 1 < w2.heap.size := by omega
  have hN2 : w.heap.size + 1 + 1 < w2.heap.size := by omega
  have hN3 : w.heap.size + 1 + 1 + 1 < w2.heap.size := by omega
  have hN4 : w.heap.size + 1 + 1 + 1 + 1 < w2.heap.size := by omega
  clear n1 n2 n3 n4 n5 b1 b2 b3 b4 b5 hz1
  go_wp2_with fail
  refine (less_of hA _).mono ?_
  rintro e w3 ⟨rfl, hb3⟩
  obtain ⟨hc3, hf3⟩ := bcell hb3
  have zz3 := hb3.size
  have hB3 : Below w.heap.size w w3 := by
    refine Below.trans ?_ (hb3.mono (by first | omega | (simp; omega)))
    repeat (first | exact hB2 | refine Below.alloc ?_ (by first | omega | (simp; omega)) _ | refine Below.setCell ?_ (by simp only; omega) _)
  simp only [World.size_alloc, World.size_setCell] at hc3 hf3 zz3
  have hk3 : ∀ b o, b < w2.heap.size → w3.cell? ⟨b, o, none⟩ = w2.cell? ⟨b, o, none⟩ := by
    intro b o hbo
    have hbo1 : b < w2.heap.size := by omega
    have hbo4 : b < w2.heap.size + 1 := by omega
    have hbo2 : b ≠ w2.heap.size := by omega
    have hbo3 : w2.heap.size ≠ b := by omega
    rw [hc3 b o (by omega)]
    simp (maxDischargeDepth := 8) [World.cell?_alloc_past, World.cell?_alloc_at, World.frozen?_alloc_past, World.frozen?_alloc_at, World.cell?_setCell_other, World.cell?_setCell_same', World.frozen?_setCell, *]
  have zw3 : w2.heap.size < w3.heap.size := by omega
  have t30 : w3.cell? ⟨w2.heap.size, 0, none⟩ = some (.int .i32 d1.w) := by rw [hc3 _ _ (by omega)]; simp (maxDischargeDepth := 8) [World.cell?_alloc_past, World.cell?_alloc_at, World.frozen?_alloc_past, World.frozen?_alloc_at, World.cell?_setCell_other, World.cell?_setCell_same', World.frozen?_setCell, *]
  have y30 : w3.frozen? ⟨w2.heap.size, 0, none⟩ = false := by rw [hf3 _ _ (by omega)]; simp (maxDischargeDepth := 8) [World.cell?_alloc_past, World.cell?_alloc_at, World.frozen?_alloc_past, World.frozen?_alloc_at, World.cell?_setCell_other, World.cell?_setCell_same', World.frozen?_setCell, *]
  have t31 : w3.cell? ⟨w2.heap.size, 1, none⟩ = some (.int .i32 d1.h) := by rw [hc3 _ _ (by omega)]; simp (maxDischargeDepth := 8) [World.cell?_alloc_past, World.cell?_alloc_at, World.frozen?_alloc_past, World.frozen?_alloc_at, World.cell?_setCell_other, World.cell?_setCell_same', World.frozen?_setCell, *]
  have y31 : w3.frozen? ⟨w2.heap.size, 1, none⟩ = false := by rw [hf3 _ _ (by omega)]; simp (maxDischargeDepth := 8) [World.cell?_alloc_past, World.cell?_alloc_at, World.frozen?_alloc_past, World.frozen?_alloc_at, World.cell?_setCell_other, World.cell?_setCell_same', World.frozen?_setCell, *]
  have t32 : w3.cell? ⟨w2.heap.size, 2, none⟩ = some (.int .i32 d1.g) := by rw [hc3 _ _ (by omega)]; simp (maxDischargeDepth := 8) [World.cell?_alloc_past, World.cell?_alloc_at, World.frozen?_alloc_past, World.frozen?_alloc_at, World.cell?_setCell_other, World.cell?_setCell_same', World.frozen?_setCell, *]
  have y32 : w3.frozen? ⟨w2.heap.size, 2, none⟩ = false := by rw [hf3 _ _ (by omega)]; simp (maxDischargeDepth := 8) [World.cell?_alloc_past, World.cell?_alloc_at, World.frozen?_alloc_past, World.frozen?_alloc_at, World.cell?_setCell_other, World.cell?_setCell_same', World.frozen?_setCell, *]
  have u30 : w3.cell? ⟨w2.heap.size + 1, 0, none⟩ = some (.int .i32 d3.lw) := by rw [hc3 _ _ (by omega)]; simp (maxDischargeDepth := 8) [World.cell?_alloc_past, World.cell?_alloc_at, World.frozen?_alloc_past, World.frozen?_alloc_at, World.cell?_setCell_other, World.cell?_setCell_same', World.frozen?_setCell, *]
  have u31 : w3.cell? ⟨w2.heap.size + 1, 1, none⟩ = some (.int .i32 d3.lh) := by rw [hc3 _ _ (by omega)]; simp (maxDischargeDepth := 8) [World.cell?_alloc_past, World.cell?_alloc_at, World.frozen?_alloc_past, World.frozen?_alloc_at, World.cell?_setCell_other, World.cell?_setCell_same', World.frozen?_setCell, *]
  have u32 : w3.cell? ⟨w2.heap.size + 1, 2, none⟩ = some (.int .i32 d3.lg) := by rw [hc3 _ _ (by omega)]; simp (maxDischargeDepth := 8) [World.cell?_alloc_past, World.cell?_alloc_at, World.frozen?_alloc_past, World.frozen?_alloc_at, World.cell?_setCell_other, World.cell?_setCell_same', World.frozen?_setCell, *]
  have zb3 : w2.heap.size + 1 < w3.heap.size := by omega
  clear hc3 hf3 hb3 hB2
  have hN0 : w.heap.size < w3.heap.size := by omega
  have hN1 : w.heap.size + 1 < w3.heap.size := by omega
  have hN2 : w.heap.size + 1 + 1 < w3.heap.size := by omega
  have hN3 : w.heap.size + 1 + 1 + 1 < w3.heap.size := by omega
  have hN4 : w.heap.size + 1 + 1 + 1 + 1 < w3.heap.size := by omega
  go_wp2_with fail
  refine (less_of hB _).mono ?_
  rintro e w4 ⟨rfl, hb4⟩
  obtain ⟨hc4, hf4⟩ := bcell hb4
  have zz4 := hb4.size
  have hB4 : Below w.heap.size w w4 := by
    refine Below.trans ?_ (hb4.mono (by first | omega | (simp; omega)))
    repeat (first | exact hB3 | refine Below.alloc ?_ (by first | omega | (simp; omega)) _ | refine Below.setCell ?_ (by simp only; omega) _)
  simp only [World.size_alloc, World.size_setCell] at hc4 hf4 zz4
  have hk4 : ∀ b o, b < w2.heap.size → w4.cell? ⟨b, o, none⟩ = w2.cell? ⟨b, o, none⟩ := by
    intro b o hbo
    have hbo1 : b < w3.heap.size := by omega
    have hbo4 : b < w2.heap.size + 1 := by omega
    have hbo2 : b ≠ w2.heap.size := by omega
    have hbo3 : w2.heap.size ≠ b := by omega
    rw [hc4 b o (by omega)]
    simp (maxDischargeDepth := 8) [World.cell?_alloc_past, World.cell?_alloc_at, World.frozen?_alloc_past, World.frozen?_alloc_at, World.cell?_setCell_other, World.cell?_setCell_same', World.frozen?_setCell, *]
  have zw4 : w2.heap.size < w4.heap.size := by omega
  have t40 : w4.cell? ⟨w2.heap.size, 0, none⟩ = some (.int .i32 d3.lw) := by rw [hc4 _ _ (by omega)]; simp (maxDischargeDepth := 8) [World.cell?_alloc_past, World.cell?_alloc_at, World.frozen?_alloc_past, World.frozen?_alloc_at, World.cell?_setCell_other, World.cell?_setCell_same', World.frozen?_setCell, *]
  have y40 : w4.frozen? ⟨w2.heap.size, 0, none⟩ = false := by rw [hf4 _ _ (by omega)]; simp (maxDischargeDepth := 8) [World.cell?_alloc_past, World.cell?_alloc_at, World.frozen?_alloc_past, World.frozen?_alloc_at, World.cell?_setCell_other, World.cell?_setCell_same', World.frozen?_setCell, *]
  have t41 : w4.cell? ⟨w2.heap.size, 1, none⟩ = some (.int .i32 d3.lh) := by rw [hc4 _ _ (by omega)]; simp (maxDischargeDepth := 8) [World.cell?_alloc_past, World.cell?_alloc_at, World.frozen?_alloc_past, World.frozen?_alloc_at, World.cell?_setCell_other, World.cell?_setCell_same', World.frozen?_setCell, *]
  have y41 : w4.frozen? ⟨w2.heap.size, 1, none⟩ = false := by rw [hf4 _ _ (by omega)]; simp (maxDischargeDepth := 8) [World.cell?_alloc_past, World.cell?_alloc_at, World.frozen?_alloc_past, World.frozen?_alloc_at, World.cell?_setCell_other, World.cell?_setCell_same', World.frozen?_setCell, *]
  have t42 : w4.cell? ⟨w2.heap.size, 2, none⟩ = some (.int .i32 d3.lg) := by rw [hc4 _ _ (by omega)]; simp (maxDischargeDepth := 8) [World.cell?_alloc_past, World.cell?_alloc_at, World.frozen?_alloc_past, World.frozen?_alloc_at, World.cell?_setCell_other, World.cell?_setCell_same', World.frozen?_setCell, *]
  have y42 : w4.frozen? ⟨w2.heap.size, 2, none⟩ = false := by rw [hf4 _ _ (by omega)]; simp (maxDischargeDepth := 8) [World.cell?_alloc_past, World.cell?_alloc_at, World.frozen?_alloc_past, World.frozen?_alloc_at, World.cell?_setCell_other, World.cell?_setCell_same', World.frozen?_setCell, *]
  have u40 : w4.cell? ⟨w3.heap.size, 0, none⟩ = some (.int .i32 d4.lw) := by rw [hc4 _ _ (by omega)]; simp (maxDischargeDepth := 8) [World.cell?_alloc_past, World.cell?_alloc_at, World.frozen?_alloc_past, World.frozen?_alloc_at, World.cell?_setCell_other, World.cell?_setCell_same', World.frozen?_setCell, *]
  have u41 : w4.cell? ⟨w3.heap.size, 1, none⟩ = some (.int .i32 d4.lh) := by rw [hc4 _ _ (by omega)]; simp (maxDischargeDepth := 8) [World.cell?_alloc_past, World.cell?_alloc_at, World.frozen?_alloc_past, World.frozen?_alloc_at, World.cell?_setCell_other, World.cell?_setCell_same', World.frozen?_setCell, *]
  have u42 : w4.cell? ⟨w3.heap.size, 2, none⟩ = some (.int .i32 d4.lg) := by rw [hc4 _ _ (by omega)]; simp (maxDischargeDepth := 8) [World.cell?_alloc_past, World.cell?_alloc_at, World.frozen?_alloc_past, World.frozen?_alloc_at, World.cell?_setCell_other, World.cell?_setCell_same', World.frozen?_setCell, *]
  have zb4 : w3.heap.size < w4.heap.size := by omega
  clear hc4 hf4 hb4 hB3
  have hN0 : w.heap.size < w4.heap.size := by omega
  have hN1 : w.heap.size + 1 < w4.heap.size := by omega
  have hN2 : w.heap.size + 1 + 1 < w4.heap.size := by omega
  have hN3 : w.heap.size + 1 + 1 + 1 < w4.heap.size := by omega
  have hN4 : w.heap.size + 1 + 1 + 1 + 1 < w4.heap.size := by omega
  clear hk3 t30 y30 u30 t31 y31 u31 t32 y32 u32
  go_wp2_with fail
  have hkF : ∀ b o, b < w2.heap.size → w4.cell? ⟨b, o, none⟩ = w2.cell? ⟨b, o, none⟩ := by
    intro b o hbo
    have hbo2 : b ≠ w2.heap.size := by omega
    have hbo3 : w2.heap.size ≠ b := by omega
    simp (maxDischargeDepth := 8) [World.cell?_alloc_past, World.cell?_alloc_at, World.frozen?_alloc_past, World.frozen?_alloc_at, World.cell?_setCell_other, World.cell?_setCell_same', World.frozen?_setCell, *]
  have hzF : w2.heap.size ≤ w4.heap.size := by omega
  have hBF : Below w.heap.size w w4 := by
    repeat (first | exact hB4 | refine Below.alloc ?_ (by first | omega | (simp; omega)) _ | refine Below.setCell ?_ (by simp only; omega) _)
  go_quiet (fail)
  go_wp2_with fail
  go_quiet (fail)
  go_wp2_with fail
  go_region_held3 (fun w' => (∀ b o, b < w2.heap.size → w'.cell? ⟨b, o, none⟩ = w2.cell? ⟨b, o, none⟩) ∧ w2.heap.size ≤ w'.heap.size ∧ Below w.heap.size w w')
    (first | (apply s_next hk; (assumption); (exact ⟨rfl, rfl, rfl, rfl⟩)) | (exact ⟨hkF, hzF, ⟨hBF.os, hBF.tape, hBF.output, hBF.size, hBF.block⟩⟩))
    (first
      | (go_at_call 9; refine (kept_same _ _ _ _ _ _ _ _ _ _ _ _ _ _).mono ?_; rintro e wk ⟨rfl, hk⟩))
  rename_i hH
  go_wp2_with fail
  go_region_held3 (fun w' => (∀ b o, b < w2.heap.size → w'.cell? ⟨b, o, none⟩ = w2.cell? ⟨b, o, none⟩) ∧ w2.heap.size ≤ w'.heap.size ∧ Below w.heap.size w w')
    (first | (apply s_next hl; (assumption); (exact ⟨rfl, rfl, rfl, rfl⟩)) | exact ⟨hH.1, hH.2.1, ⟨hH.2.2.os, hH.2.2.tape, hH.2.2.output, hH.2.2.size, hH.2.2.block⟩⟩)
    (first
      | (go_at_call 10; refine (leaf_same _ _ _ _ _ _ _ _ _).mono ?_; rintro e wl ⟨rfl, hl⟩))
  rename_i hE
  go_wp2
  go_ret
  exact ⟨rfl, hE.2.2⟩

set_option maxRecDepth 100000 in
set_option maxHeartbeats 2000000 in
theorem rot_111_a0_b0 (d1 d2 d3 d4 d5 : Dat) (hA : lessB d3.lw d3.lh d3.lg d1.w d1.h d1.g = false) (hB : lessB d4.lw d4.lh d4.lg d1.w d1.h d1.g = false) (w : World) :
    Calls Yba.prog 3 #[.agg #[.int .i32 d1.w, .int .i32 d1.h, .int .i32 d1.g, .int .i32 d1.lw, .int .i32 d1.lh, .int .i32 d1.lg, .int .i32 d1.c, .int .u32 d1.p], .agg #[.int .i32 d2.w, .int .i32 d2.h, .int .i32 d2.g, .int .i32 d2.lw, .int .i32 d2.lh, .int .i32 d2.lg, .int .i32 d2.c, .int .u32 d2.p], .agg #[.int .i32 d3.w, .int .i32 d3.h, .int .i32 d3.g, .int .i32 d3.lw, .int .i32 d3.lh, .int .i32 d3.lg, .int .i32 d3.c, .int .u32 d3.p], .agg #[.int .i32 d4.w, .int .i32 d4.h, .int .i32 d4.g, .int .i32 d4.lw, .int .i32 d4.lh, .int .i32 d4.lg, .int .i32 d4.c, .int .u32 d4.p], .agg #[.int .i32 d5.w, .int .i32 d5.h, .int .i32 d5.g, .int .i32 d5.lw, .int .i32 d5.lh, .int .i32 d5.lg, .int .i32 d5.c, .int .u32 d5.p], .bool true, .bool true, .bool true] w fun e w' => e = .returned (.bool true) ∧ Below w.heap.size w w' := by
  go_enter Yba.func3, Yba.ntmps3
  go_wp2_with fail
  refine (build_any d1 d2 d3 d4 d5 true true true _).mono ?_
  rintro e w1 ⟨bx, bs, bp, rfl, hb1, z1, z2, z3, z4, hx, hs, n1, n2, n3, n4, n5⟩
  have I : Idx w1 bx bs bp d1 d2 d3 d4 d5 3 2 4 5 := ⟨z4, by omega, by omega, by omega, by omega, hx, hs, n1, n2, n3, n4, n5⟩
  have hB1 : Below w.heap.size w w1 := (((((Below.refl _ w).alloc (Nat.le_refl _) _).alloc (by simp) _).alloc (by first | (simp; done) | (simp; omega)) _).alloc (by first | (simp; done) | (simp; omega)) _).alloc (by first | (simp; done) | (simp; omega)) _ |>.trans (hb1.mono (by first | (simp; done) | (simp; omega)))
  have hz1 : w.heap.size + 5 ≤ bp := by simpa using z1
  obtain ⟨b1, b2, b3, b4, b5⟩ := five w d1 d2 d3 d4 d5 _ rfl
  replace b1 := b1.below hb1 (by first | (simp; done) | (simp; omega))
  replace b2 := b2.below hb1 (by first | (simp; done) | (simp; omega))
  replace b3 := b3.below hb1 (by first | (simp; done) | (simp; omega))
  replace b4 := b4.below hb1 (by first | (simp; done) | (simp; omega))
  replace b5 := b5.below hb1 (by simp)
  clear hb1 hx hs n1 n2 n3 n4 n5 z1 z2 z3 z4
  go_wp2_with fail
  refine (rotL bx bs bp d1 d2 d3 d4 d5 true true 5 _ I).mono ?_
  rintro e w2 ⟨rfl, hb2, I2⟩
  have e2 : best2 d1 (if true then some d3 else none) (if true then some d4 else none) = { d1 with lw := d1.w, lh := d1.h, lg := d1.g } := by simp [best2, best1, hA, hB]
  rw [e2] at I2
  obtain ⟨zx, zs, zp, -, -, -, -, n1, n2, n3, n4, n5⟩ := I2
  have hB2 : Below w.heap.size w w2 := hB1.trans (hb2.mono (by omega))
  replace b1 := b1.below hb2 (by omega)
  replace b2 := b2.below hb2 (by omega)
  replace b3 := b3.below hb2 (by omega)
  replace b4 := b4.below hb2 (by omega)
  replace b5 := b5.below hb2 (by omega)
  clear hB1 hb2 e2 I
  have k10 : w2.cell? ⟨bp, 10, none⟩ = some (.int .i32 d1.w) := (n1 0 (by omega)).1
  have k11 : w2.cell? ⟨bp, 11, none⟩ = some (.int .i32 d1.h) := (n1 1 (by omega)).1
  have k12 : w2.cell? ⟨bp, 12, none⟩ = some (.int .i32 d1.g) := (n1 2 (by omega)).1
  have k13 : w2.cell? ⟨bp, 13, none⟩ = some (.int .i32 d1.w) := (n1 3 (by omega)).1
  have k14 : w2.cell? ⟨bp, 14, none⟩ = some (.int .i32 d1.h) := (n1 4 (by omega)).1
  have k15 : w2.cell? ⟨bp, 15, none⟩ = some (.int .i32 d1.g) := (n1 5 (by omega)).1
  have k16 : w2.cell? ⟨bp, 16, none⟩ = some (.int .i32 d1.c) := (n1 6 (by omega)).1
  have k17 : w2.cell? ⟨bp, 17, none⟩ = some (.int .i32 3) := (n1 7 (by omega)).1
  have k18 : w2.cell? ⟨bp, 18, none⟩ = some (.int .i32 4) := (n1 8 (by omega)).1
  have k19 : w2.cell? ⟨bp, 19, none⟩ = some (.int .u32 d1.p) := (n1 9 (by omega)).1
  have k20 : w2.cell? ⟨bp, 20, none⟩ = some (.int .i32 d2.w) := (n2 0 (by omega)).1
  have k21 : w2.cell? ⟨bp, 21, none⟩ = some (.int .i32 d2.h) := (n2 1 (by omega)).1
  have k22 : w2.cell? ⟨bp, 22, none⟩ = some (.int .i32 d2.g) := (n2 2 (by omega)).1
  have k23 : w2.cell? ⟨bp, 23, none⟩ = some (.int .i32 d2.lw) := (n2 3 (by omega)).1
  have k24 : w2.cell? ⟨bp, 24, none⟩ = some (.int .i32 d2.lh) := (n2 4 (by omega)).1
  have k25 : w2.cell? ⟨bp, 25, none⟩ = some (.int .i32 d2.lg) := (n2 5 (by omega)).1
  have k26 : w2.cell? ⟨bp, 26, none⟩ = some (.int .i32 d2.c) := (n2 6 (by omega)).1
  have k27 : w2.cell? ⟨bp, 27, none⟩ = some (.int .i32 1) := (n2 7 (by omega)).1
  have k28 : w2.cell? ⟨bp, 28, none⟩ = some (.int .i32 5) := (n2 8 (by omega)).1
  have k29 : w2.cell? ⟨bp, 29, none⟩ = some (.int .u32 d2.p) := (n2 9 (by omega)).1
  have k30 : w2.cell? ⟨bp, 30, none⟩ = some (.int .i32 d3.w) := (n3 0 (by omega)).1
  have k31 : w2.cell? ⟨bp, 31, none⟩ = some (.int .i32 d3.h) := (n3 1 (by omega)).1
  have k32 : w2.cell? ⟨bp, 32, none⟩ = some (.int .i32 d3.g) := (n3 2 (by omega)).1
  have k33 : w2.cell? ⟨bp, 33, none⟩ = some (.int .i32 d3.lw) := (n3 3 (by omega)).1
  have k34 : w2.cell? ⟨bp, 34, none⟩ = some (.int .i32 d3.lh) := (n3 4 (by omega)).1
  have k35 : w2.cell? ⟨bp, 35, none⟩ = some (.int .i32 d3.lg) := (n3 5 (by omega)).1
  have k36 : w2.cell? ⟨bp, 36, none⟩ = some (.int .i32 d3.c) := (n3 6 (by omega)).1
  have k37 : w2.cell? ⟨bp, 37, none⟩ = some (.int .i32 0) := (n3 7 (by omega)).1
  have k38 : w2.cell? ⟨bp, 38, none⟩ = some (.int .i32 0) := (n3 8 (by omega)).1
  have k39 : w2.cell? ⟨bp, 39, none⟩ = some (.int .u32 d3.p) := (n3 9 (by omega)).1
  have k40 : w2.cell? ⟨bp, 40, none⟩ = some (.int .i32 d4.w) := (n4 0 (by omega)).1
  have k41 : w2.cell? ⟨bp, 41, none⟩ = some (.int .i32 d4.h) := (n4 1 (by omega)).1
  have k42 : w2.cell? ⟨bp, 42, none⟩ = some (.int .i32 d4.g) := (n4 2 (by omega)).1
  have k43 : w2.cell? ⟨bp, 43, none⟩ = some (.int .i32 d4.lw) := (n4 3 (by omega)).1
  have k44 : w2.cell? ⟨bp, 44, none⟩ = some (.int .i32 d4.lh) := (n4 4 (by omega)).1
  have k45 : w2.cell? ⟨bp, 45, none⟩ = some (.int .i32 d4.lg) := (n4 5 (by omega)).1
  have k46 : w2.cell? ⟨bp, 46, none⟩ = some (.int .i32 d4.c) := (n4 6 (by omega)).1
  have k47 : w2.cell? ⟨bp, 47, none⟩ = some (.int .i32 0) := (n4 7 (by omega)).1
  have k48 : w2.cell? ⟨bp, 48, none⟩ = some (.int .i32 0) := (n4 8 (by omega)).1
  have k49 : w2.cell? ⟨bp, 49, none⟩ = some (.int .u32 d4.p) := (n4 9 (by omega)).1
  have k50 : w2.cell? ⟨bp, 50, none⟩ = some (.int .i32 d5.w) := (n5 0 (by omega)).1
  have k51 : w2.cell? ⟨bp, 51, none⟩ = some (.int .i32 d5.h) := (n5 1 (by omega)).1
  have k52 : w2.cell? ⟨bp, 52, none⟩ = some (.int .i32 d5.g) := (n5 2 (by omega)).1
  have k53 : w2.cell? ⟨bp, 53, none⟩ = some (.int .i32 d5.lw) := (n5 3 (by omega)).1
  have k54 : w2.cell? ⟨bp, 54, none⟩ = some (.int .i32 d5.lh) := (n5 4 (by omega)).1
  have k55 : w2.cell? ⟨bp, 55, none⟩ = some (.int .i32 d5.lg) := (n5 5 (by omega)).1
  have k56 : w2.cell? ⟨bp, 56, none⟩ = some (.int .i32 d5.c) := (n5 6 (by omega)).1
  have k57 : w2.cell? ⟨bp, 57, none⟩ = some (.int .i32 0) := (n5 7 (by omega)).1
  have k58 : w2.cell? ⟨bp, 58, none⟩ = some (.int .i32 0) := (n5 8 (by omega)).1
  have k59 : w2.cell? ⟨bp, 59, none⟩ = some (.int .u32 d5.p) := (n5 9 (by omega)).1
  have q10 : w2.cell? ⟨w.heap.size, 0, none⟩ = some (.int .i32 d1.w) := b1 0 (by omega)
  have q11 : w2.cell? ⟨w.heap.size, 1, none⟩ = some (.int .i32 d1.h) := b1 1 (by omega)
  have q12 : w2.cell? ⟨w.heap.size, 2, none⟩ = some (.int .i32 d1.g) := b1 2 (by omega)
  have q13 : w2.cell? ⟨w.heap.size, 3, none⟩ = some (.int .i32 d1.lw) := b1 3 (by omega)
  have q14 : w2.cell? ⟨w.heap.size, 4, none⟩ = some (.int .i32 d1.lh) := b1 4 (by omega)
  have q15 : w2.cell? ⟨w.heap.size, 5, none⟩ = some (.int .i32 d1.lg) := b1 5 (by omega)
  have q16 : w2.cell? ⟨w.heap.size, 6, none⟩ = some (.int .i32 d1.c) := b1 6 (by omega)
  have q17 : w2.cell? ⟨w.heap.size, 7, none⟩ = some (.int .u32 d1.p) := b1 7 (by omega)
  have q20 : w2.cell? ⟨w.heap.size + 1, 0, none⟩ = some (.int .i32 d2.w) := b2 0 (by omega)
  have q21 : w2.cell? ⟨w.heap.size + 1, 1, none⟩ = some (.int .i32 d2.h) := b2 1 (by omega)
  have q22 : w2.cell? ⟨w.heap.size + 1, 2, none⟩ = some (.int .i32 d2.g) := b2 2 (by omega)
  have q23 : w2.cell? ⟨w.heap.size + 1, 3, none⟩ = some (.int .i32 d2.lw) := b2 3 (by omega)
  have q24 : w2.cell? ⟨w.heap.size + 1, 4, none⟩ = some (.int .i32 d2.lh) := b2 4 (by omega)
  have q25 : w2.cell? ⟨w.heap.size + 1, 5, none⟩ = some (.int .i32 d2.lg) := b2 5 (by omega)
  have q26 : w2.cell? ⟨w.heap.size + 1, 6, none⟩ = some (.int .i32 d2.c) := b2 6 (by omega)
  have q27 : w2.cell? ⟨w.heap.size + 1, 7, none⟩ = some (.int .u32 d2.p) := b2 7 (by omega)
  have q30 : w2.cell? ⟨w.heap.size + 1 + 1, 0, none⟩ = some (.int .i32 d3.w) := b3 0 (by omega)
  have q31 : w2.cell? ⟨w.heap.size + 1 + 1, 1, none⟩ = some (.int .i32 d3.h) := b3 1 (by omega)
  have q32 : w2.cell? ⟨w.heap.size + 1 + 1, 2, none⟩ = some (.int .i32 d3.g) := b3 2 (by omega)
  have q33 : w2.cell? ⟨w.heap.size + 1 + 1, 3, none⟩ = some (.int .i32 d3.lw) := b3 3 (by omega)
  have q34 : w2.cell? ⟨w.heap.size + 1 + 1, 4, none⟩ = some (.int .i32 d3.lh) := b3 4 (by omega)
  have q35 : w2.cell? ⟨w.heap.size + 1 + 1, 5, none⟩ = some (.int .i32 d3.lg) := b3 5 (by omega)
  have q36 : w2.cell? ⟨w.heap.size + 1 + 1, 6, none⟩ = some (.int .i32 d3.c) := b3 6 (by omega)
  have q37 : w2.cell? ⟨w.heap.size + 1 + 1, 7, none⟩ = some (.int .u32 d3.p) := b3 7 (by omega)
  have q40 : w2.cell? ⟨w.heap.size + 1 + 1 + 1, 0, none⟩ = some (.int .i32 d4.w) := b4 0 (by omega)
  have q41 : w2.cell? ⟨w.heap.size + 1 + 1 + 1, 1, none⟩ = some (.int .i32 d4.h) := b4 1 (by omega)
  have q42 : w2.cell? ⟨w.heap.size + 1 + 1 + 1, 2, none⟩ = some (.int .i32 d4.g) := b4 2 (by omega)
  have q43 : w2.cell? ⟨w.heap.size + 1 + 1 + 1, 3, none⟩ = some (.int .i32 d4.lw) := b4 3 (by omega)
  have q44 : w2.cell? ⟨w.heap.size + 1 + 1 + 1, 4, none⟩ = some (.int .i32 d4.lh) := b4 4 (by omega)
  have q45 : w2.cell? ⟨w.heap.size + 1 + 1 + 1, 5, none⟩ = some (.int .i32 d4.lg) := b4 5 (by omega)
  have q46 : w2.cell? ⟨w.heap.size + 1 + 1 + 1, 6, none⟩ = some (.int .i32 d4.c) := b4 6 (by omega)
  have q47 : w2.cell? ⟨w.heap.size + 1 + 1 + 1, 7, none⟩ = some (.int .u32 d4.p) := b4 7 (by omega)
  have q50 : w2.cell? ⟨w.heap.size + 1 + 1 + 1 + 1, 0, none⟩ = some (.int .i32 d5.w) := b5 0 (by omega)
  have q51 : w2.cell? ⟨w.heap.size + 1 + 1 + 1 + 1, 1, none⟩ = some (.int .i32 d5.h) := b5 1 (by omega)
  have q52 : w2.cell? ⟨w.heap.size + 1 + 1 + 1 + 1, 2, none⟩ = some (.int .i32 d5.g) := b5 2 (by omega)
  have q53 : w2.cell? ⟨w.heap.size + 1 + 1 + 1 + 1, 3, none⟩ = some (.int .i32 d5.lw) := b5 3 (by omega)
  have q54 : w2.cell? ⟨w.heap.size + 1 + 1 + 1 + 1, 4, none⟩ = some (.int .i32 d5.lh) := b5 4 (by omega)
  have q55 : w2.cell? ⟨w.heap.size + 1 + 1 + 1 + 1, 5, none⟩ = some (.int .i32 d5.lg) := b5 5 (by omega)
  have q56 : w2.cell? ⟨w.heap.size + 1 + 1 + 1 + 1, 6, none⟩ = some (.int .i32 d5.c) := b5 6 (by omega)
  have q57 : w2.cell? ⟨w.heap.size + 1 + 1 + 1 + 1, 7, none⟩ = some (.int .u32 d5.p) := b5 7 (by omega)
  have hN0 : w.heap.size < w2.heap.size := by omega
  have hN1 : w.heap.size + 1 < w2.heap.size := by omega
  have hN2 : w.heap.size + 1 + 1 < w2.heap.size := by omega
  have hN3 : w.heap.size + 1 + 1 + 1 < w2.heap.size := by omega
  have hN4 : w.heap.size + 1 + 1 + 1 + 1 < w2.heap.size := by omega
  clear n1 n2 n3 n4 n5 b1 b2 b3 b4 b5 hz1
  go_wp2_with fail
  refine (less_of hA _).mono ?_
  rintro e w3 ⟨rfl, hb3⟩
  obtain ⟨hc3, hf3⟩ := bcell hb3
  have zz3 := hb3.size
  have hB3 : Below w.heap.size w w3 := by
    refine Below.trans ?_ (hb3.mono (by first | omega | (simp; omega)))
    repeat (first | exact hB2 | refine Below.alloc ?_ (by first | omega | (simp; omega)) _ | refine Below.setCell ?_ (by simp only; omega) _)
  simp only [World.size_alloc, World.size_setCell] at hc3 hf3 zz3
  have hk3 : ∀ b o, b < w2.heap.size → w3.cell? ⟨b, o, none⟩ = w2.cell? ⟨b, o, none⟩ := by
    intro b o hbo
    have hbo1 : b < w2.heap.size := by omega
    have hbo4 : b < w2.heap.size + 1 := by omega
    have hbo2 : b ≠ w2.heap.size := by omega
    have hbo3 : w2.heap.size ≠ b := by omega
    rw [hc3 b o (by omega)]
    simp (maxDischargeDepth := 8) [World.cell?_alloc_past, World.cell?_alloc_at, World.frozen?_alloc_past, World.frozen?_alloc_at, World.cell?_setCell_other, World.cell?_setCell_same', World.frozen?_setCell, *]
  have zw3 : w2.heap.size < w3.heap.size := by omega
  have t30 : w3.cell? ⟨w2.heap.size, 0, none⟩ = some (.int .i32 d1.w) := by rw [hc3 _ _ (by omega)]; simp (maxDischargeDepth := 8) [World.cell?_alloc_past, World.cell?_alloc_at, World.frozen?_alloc_past, World.frozen?_alloc_at, World.cell?_setCell_other, World.cell?_setCell_same', World.frozen?_setCell, *]
  have y30 : w3.frozen? ⟨w2.heap.size, 0, none⟩ = false := by rw [hf3 _ _ (by omega)]; simp (maxDischargeDepth := 8) [World.cell?_alloc_past, World.cell?_alloc_at, World.frozen?_alloc_past, World.frozen?_alloc_at, World.cell?_setCell_other, World.cell?_setCell_same', World.frozen?_setCell, *]
  have t31 : w3.cell? ⟨w2.heap.size, 1, none⟩ = some (.int .i32 d1.h) := by rw [hc3 _ _ (by omega)]; simp (maxDischargeDepth := 8) [World.cell?_alloc_past, World.cell?_alloc_at, World.frozen?_alloc_past, World.frozen?_alloc_at, World.cell?_setCell_other, World.cell?_setCell_same', World.frozen?_setCell, *]
  have y31 : w3.frozen? ⟨w2.heap.size, 1, none⟩ = false := by rw [hf3 _ _ (by omega)]; simp (maxDischargeDepth := 8) [World.cell?_alloc_past, World.cell?_alloc_at, World.frozen?_alloc_past, World.frozen?_alloc_at, World.cell?_setCell_other, World.cell?_setCell_same', World.frozen?_setCell, *]
  have t32 : w3.cell? ⟨w2.heap.size, 2, none⟩ = some (.int .i32 d1.g) := by rw [hc3 _ _ (by omega)]; simp (maxDischargeDepth := 8) [World.cell?_alloc_past, World.cell?_alloc_at, World.frozen?_alloc_past, World.frozen?_alloc_at, World.cell?_setCell_other, World.cell?_setCell_same', World.frozen?_setCell, *]
  have y32 : w3.frozen? ⟨w2.heap.size, 2, none⟩ = false := by rw [hf3 _ _ (by omega)]; simp (maxDischargeDepth := 8) [World.cell?_alloc_past, World.cell?_alloc_at, World.frozen?_alloc_past, World.frozen?_alloc_at, World.cell?_setCell_other, World.cell?_setCell_same', World.frozen?_setCell, *]
  have u30 : w3.cell? ⟨w2.heap.size + 1, 0, none⟩ = some (.int .i32 d3.lw) := by rw [hc3 _ _ (by omega)]; simp (maxDischargeDepth := 8) [World.cell?_alloc_past, World.cell?_alloc_at, World.frozen?_alloc_past, World.frozen?_alloc_at, World.cell?_setCell_other, World.cell?_setCell_same', World.frozen?_setCell, *]
  have u31 : w3.cell? ⟨w2.heap.size + 1, 1, none⟩ = some (.int .i32 d3.lh) := by rw [hc3 _ _ (by omega)]; simp (maxDischargeDepth := 8) [World.cell?_alloc_past, World.cell?_alloc_at, World.frozen?_alloc_past, World.frozen?_alloc_at, World.cell?_setCell_other, World.cell?_setCell_same', World.frozen?_setCell, *]
  have u32 : w3.cell? ⟨w2.heap.size + 1, 2, none⟩ = some (.int .i32 d3.lg) := by rw [hc3 _ _ (by omega)]; simp (maxDischargeDepth := 8) [World.cell?_alloc_past, World.cell?_alloc_at, World.frozen?_alloc_past, World.frozen?_alloc_at, World.cell?_setCell_other, World.cell?_setCell_same', World.frozen?_setCell, *]
  have zb3 : w2.heap.size + 1 < w3.heap.size := by omega
  clear hc3 hf3 hb3 hB2
  have hN0 : w.heap.size < w3.heap.size := by omega
  have hN1 : w.heap.size + 1 < w3.heap.size := by omega
  have hN2 : w.heap.size + 1 + 1 < w3.heap.size := by omega
  have hN3 : w.heap.size + 1 + 1 + 1 < w3.heap.size := by omega
  have hN4 : w.heap.size + 1 + 1 + 1 + 1 < w3.heap.size := by omega
  go_wp2_with fail
  refine (less_of hB _).mono ?_
  rintro e w4 ⟨rfl, hb4⟩
  obtain ⟨hc4, hf4⟩ := bcell hb4
  have zz4 := hb4.size
  have hB4 : Below w.heap.size w w4 := by
    refine Below.trans ?_ (hb4.mono (by first | omega | (simp; omega)))
    repeat (first | exact hB3 | refine Below.alloc ?_ (by first | omega | (simp; omega)) _ | refine Below.setCell ?_ (by simp only; omega) _)
  simp only [World.size_alloc, World.size_setCell] at hc4 hf4 zz4
  have hk4 : ∀ b o, b < w2.heap.size → w4.cell? ⟨b, o, none⟩ = w2.cell? ⟨b, o, none⟩ := by
    intro b o hbo
    have hbo1 : b < w3.heap.size := by omega
    have hbo4 : b < w2.heap.size + 1 := by omega
    have hbo2 : b ≠ w2.heap.size := by omega
    have hbo3 : w2.heap.size ≠ b := by omega
    rw [hc4 b o (by omega)]
    simp (maxDischargeDepth := 8) [World.cell?_alloc_past, World.cell?_alloc_at, World.frozen?_alloc_past, World.frozen?_alloc_at, World.cell?_setCell_other, World.cell?_setCell_same', World.frozen?_setCell, *]
  have zw4 : w2.heap.size < w4.heap.size := by omega
  have t40 : w4.cell? ⟨w2.heap.size, 0, none⟩ = some (.int .i32 d1.w) := by rw [hc4 _ _ (by omega)]; simp (maxDischargeDepth := 8) [World.cell?_alloc_past, World.cell?_alloc_at, World.frozen?_alloc_past, World.frozen?_alloc_at, World.cell?_setCell_other, World.cell?_setCell_same', World.frozen?_setCell, *]
  have y40 : w4.frozen? ⟨w2.heap.size, 0, none⟩ = false := by rw [hf4 _ _ (by omega)]; simp (maxDischargeDepth := 8) [World.cell?_alloc_past, World.cell?_alloc_at, World.frozen?_alloc_past, World.frozen?_alloc_at, World.cell?_setCell_other, World.cell?_setCell_same', World.frozen?_setCell, *]
  have t41 : w4.cell? ⟨w2.heap.size, 1, none⟩ = some (.int .i32 d1.h) := by rw [hc4 _ _ (by omega)]; simp (maxDischargeDepth := 8) [World.cell?_alloc_past, World.cell?_alloc_at, World.frozen?_alloc_past, World.frozen?_alloc_at, World.cell?_setCell_other, World.cell?_setCell_same', World.frozen?_setCell, *]
  have y41 : w4.frozen? ⟨w2.heap.size, 1, none⟩ = false := by rw [hf4 _ _ (by omega)]; simp (maxDischargeDepth := 8) [World.cell?_alloc_past, World.cell?_alloc_at, World.frozen?_alloc_past, World.frozen?_alloc_at, World.cell?_setCell_other, World.cell?_setCell_same', World.frozen?_setCell, *]
  have t42 : w4.cell? ⟨w2.heap.size, 2, none⟩ = some (.int .i32 d1.g) := by rw [hc4 _ _ (by omega)]; simp (maxDischargeDepth := 8) [World.cell?_alloc_past, World.cell?_alloc_at, World.frozen?_alloc_past, World.frozen?_alloc_at, World.cell?_setCell_other, World.cell?_setCell_same', World.frozen?_setCell, *]
  have y42 : w4.frozen? ⟨w2.heap.size, 2, none⟩ = false := by rw [hf4 _ _ (by omega)]; simp (maxDischargeDepth := 8) [World.cell?_alloc_past, World.cell?_alloc_at, World.frozen?_alloc_past, World.frozen?_alloc_at, World.cell?_setCell_other, World.cell?_setCell_same', World.frozen?_setCell, *]
  have u40 : w4.cell? ⟨w3.heap.size, 0, none⟩ = some (.int .i32 d4.lw) := by rw [hc4 _ _ (by omega)]; simp (maxDischargeDepth := 8) [World.cell?_alloc_past, World.cell?_alloc_at, World.frozen?_alloc_past, World.frozen?_alloc_at, World.cell?_setCell_other, World.cell?_setCell_same', World.frozen?_setCell, *]
  have u41 : w4.cell? ⟨w3.heap.size, 1, none⟩ = some (.int .i32 d4.lh) := by rw [hc4 _ _ (by omega)]; simp (maxDischargeDepth := 8) [World.cell?_alloc_past, World.cell?_alloc_at, World.frozen?_alloc_past, World.frozen?_alloc_at, World.cell?_setCell_other, World.cell?_setCell_same', World.frozen?_setCell, *]
  have u42 : w4.cell? ⟨w3.heap.size, 2, none⟩ = some (.int .i32 d4.lg) := by rw [hc4 _ _ (by omega)]; simp (maxDischargeDepth := 8) [World.cell?_alloc_past, World.cell?_alloc_at, World.frozen?_alloc_past, World.frozen?_alloc_at, World.cell?_setCell_other, World.cell?_setCell_same', World.frozen?_setCell, *]
  have zb4 : w3.heap.size < w4.heap.size := by omega
  clear hc4 hf4 hb4 hB3
  have hN0 : w.heap.size < w4.heap.size := by omega
  have hN1 : w.heap.size + 1 < w4.heap.size := by omega
  have hN2 : w.heap.size + 1 + 1 < w4.heap.size := by omega
  have hN3 : w.heap.size + 1 + 1 + 1 < w4.heap.size := by omega
  have hN4 : w.heap.size + 1 + 1 + 1 + 1 < w4.heap.size := by omega
  clear hk3 t30 y30 u30 t31 y31 u31 t32 y32 u32
  go_wp2_with fail
  have hkF : ∀ b o, b < w2.heap.size → w4.cell? ⟨b, o, none⟩ = w2.cell? ⟨b, o, none⟩ := by
    intro b o hbo
    have hbo2 : b ≠ w2.heap.size := by omega
    have hbo3 : w2.heap.size ≠ b := by omega
    simp (maxDischargeDepth := 8) [World.cell?_alloc_past, World.cell?_alloc_at, World.frozen?_alloc_past, World.frozen?_alloc_at, World.cell?_setCell_other, World.cell?_setCell_same', World.frozen?_setCell, *]
  have hzF : w2.heap.size ≤ w4.heap.size := by omega
  have hBF : Below w.heap.size w w4 := by
    repeat (first | exact hB4 | refine Below.alloc ?_ (by first | omega | (simp; omega)) _ | refine Below.setCell ?_ (by simp only; omega) _)
  go_quiet (fail)
  go_wp2_with fail
  go_quiet (fail)
  go_wp2_with fail
  go_region_held3 (fun w' => (∀ b o, b < w2.heap.size → w'.cell? ⟨b, o, none⟩ = w2.cell? ⟨b, o, none⟩) ∧ w2.heap.size ≤ w'.heap.size ∧ Below w.heap.size w w')
    (first | (apply s_next hk; (assumption); (exact ⟨rfl, rfl, rfl, rfl⟩)) | (exact ⟨hkF, hzF, ⟨hBF.os, hBF.tape, hBF.output, hBF.size, hBF.block⟩⟩))
    (first
      | (go_at_call 9; refine (kept_same _ _ _ _ _ _ _ _ _ _ _ _ _ _).mono ?_; rintro e wk ⟨rfl, hk⟩))
  rename_i hH
  go_wp2_with fail
  go_region_held3 (fun w' => (∀ b o, b < w2.heap.size → w'.cell? ⟨b, o, none⟩ = w2.cell? ⟨b, o, none⟩) ∧ w2.heap.size ≤ w'.heap.size ∧ Below w.heap.size w w')
    (first | (apply s_next hl; (assumption); (exact ⟨rfl, rfl, rfl, rfl⟩)) | exact ⟨hH.1, hH.2.1, ⟨hH.2.2.os, hH.2.2.tape, hH.2.2.output, hH.2.2.size, hH.2.2.block⟩⟩)
    (first
      | (go_at_call 10; refine (leaf_same _ _ _ _ _ _ _ _ _).mono ?_; rintro e wl ⟨rfl, hl⟩))
  rename_i hE
  go_wp2
  go_ret
  exact ⟨rfl, hE.2.2⟩

end Go.Proofs.Ybulkjqw
