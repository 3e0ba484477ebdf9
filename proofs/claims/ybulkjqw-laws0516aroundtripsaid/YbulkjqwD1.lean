import Derived.Test.YbulkjqwA8
import Derived.Test.YbulkjqwD0
namespace Go.Proofs.Ybulkjqw
open Go.RowKit
set_option linter.unusedSimpArgs false
set_option linter.unusedVariables false

set_option maxRecDepth 100000 in
set_option maxHeartbeats 2000000 in
theorem rt_100 (d1 d2 d3 d4 d5 : Dat) (w : World) :
    Calls Yba.prog 4 #[.agg #[.int .i32 d1.w, .int .i32 d1.h, .int .i32 d1.g, .int .i32 d1.lw, .int .i32 d1.lh, .int .i32 d1.lg, .int .i32 d1.c, .int .u32 d1.p], .agg #[.int .i32 d2.w, .int .i32 d2.h, .int .i32 d2.g, .int .i32 d2.lw, .int .i32 d2.lh, .int .i32 d2.lg, .int .i32 d2.c, .int .u32 d2.p], .agg #[.int .i32 d3.w, .int .i32 d3.h, .int .i32 d3.g, .int .i32 d3.lw, .int .i32 d3.lh, .int .i32 d3.lg, .int .i32 d3.c, .int .u32 d3.p], .agg #[.int .i32 d4.w, .int .i32 d4.h, .int .i32 d4.g, .int .i32 d4.lw, .int .i32 d4.lh, .int .i32 d4.lg, .int .i32 d4.c, .int .u32 d4.p], .agg #[.int .i32 d5.w, .int .i32 d5.h, .int .i32 d5.g, .int .i32 d5.lw, .int .i32 d5.lh, .int .i32 d5.lg, .int .i32 d5.c, .int .u32 d5.p], .bool true, .bool false, .bool false] w fun e w' => e = .returned (.bool true) ∧ Below w.heap.size w w' := by
  go_enter Yba.func4, Yba.ntmps4
  go_wp2_with fail
  refine (build_any d1 d2 d3 d4 d5 true false false _).mono ?_
  rintro e w1 ⟨bx, bs, bp, rfl, hb1, z1, z2, z3, z4, hx, hs, n1, n2, n3, n4, n5⟩
  have I : Idx w1 bx bs bp d1 d2 d3 d4 d5 3 2 0 0 := ⟨z4, by omega, by omega, by omega, by omega, hx, hs, n1, n2, n3, n4, n5⟩
  have hB1 : Below w.heap.size w w1 := (((((Below.refl _ w).alloc (Nat.le_refl _) _).alloc (by simp) _).alloc (by first | (simp; done) | (simp; omega)) _).alloc (by first | (simp; done) | (simp; omega)) _).alloc (by first | (simp; done) | (simp; omega)) _ |>.trans (hb1.mono (by first | (simp; done) | (simp; omega)))
  have hz1 : w.heap.size + 5 ≤ bp := by simpa using z1
  obtain ⟨b1, b2, b3, b4, b5⟩ := five w d1 d2 d3 d4 d5 _ rfl
  replace b1 := b1.below hb1 (by first | (simp; done) | (simp; omega))
  replace b2 := b2.below hb1 (by first | (simp; done) | (simp; omega))
  replace b3 := b3.below hb1 (by first | (simp; done) | (simp; omega))
  replace b4 := b4.below hb1 (by first | (simp; done) | (simp; omega))
  replace b5 := b5.below hb1 (by first | (simp; done) | (simp; omega))
  clear hb1 hx hs n1 n2 n3 n4 n5 z1 z2 z3 z4
  go_wp2_with fail
  refine (rotL bx bs bp d1 d2 d3 d4 d5 true false 0 _ I).mono ?_
  rintro e w2 ⟨rfl, hb2, I2⟩
  obtain ⟨x1, y1, u1, e1⟩ := best2_ex d1 (if true then some d3 else none) (if false then some d4 else none)
  rw [e1] at I2
  have hB2 : Below w.heap.size w w2 := hB1.trans (hb2.mono (by omega))
  replace b1 := b1.below hb2 (by omega)
  replace b2 := b2.below hb2 (by omega)
  replace b3 := b3.below hb2 (by omega)
  replace b4 := b4.below hb2 (by omega)
  replace b5 := b5.below hb2 (by omega)
  clear hB1 hb2 e1 I
  go_wp2_with fail
  refine (rotR bx bs bp _ d2 d3 d4 d5 false false 3 _ I2).mono ?_
  rintro e w3 ⟨rfl, hb3, I3⟩
  obtain ⟨x2, y2, u2, e2⟩ := best2_ex d2 (if false then some d4 else none) (if false then some d5 else none)
  rw [e2] at I3
  obtain ⟨zx, zs, zp, -, -, -, -, n1, n2, n3, n4, n5⟩ := I3
  have hB3 : Below w.heap.size w w3 := hB2.trans (hb3.mono (by omega))
  replace b1 := b1.below hb3 (by omega)
  replace b2 := b2.below hb3 (by omega)
  replace b3 := b3.below hb3 (by omega)
  replace b4 := b4.below hb3 (by omega)
  replace b5 := b5.below hb3 (by omega)
  clear hB2 hb3 e2 I2
  have k10 : w3.cell? ⟨bp, 10, none⟩ = some (.int .i32 d1.w) := (n1 0 (by omega)).1
  have k11 : w3.cell? ⟨bp, 11, none⟩ = some (.int .i32 d1.h) := (n1 1 (by omega)).1
  have k12 : w3.cell? ⟨bp, 12, none⟩ = some (.int .i32 d1.g) := (n1 2 (by omega)).1
  have k13 : w3.cell? ⟨bp, 13, none⟩ = some (.int .i32 x1) := (n1 3 (by omega)).1
  have k14 : w3.cell? ⟨bp, 14, none⟩ = some (.int .i32 y1) := (n1 4 (by omega)).1
  have k15 : w3.cell? ⟨bp, 15, none⟩ = some (.int .i32 u1) := (n1 5 (by omega)).1
  have k16 : w3.cell? ⟨bp, 16, none⟩ = some (.int .i32 d1.c) := (n1 6 (by omega)).1
  have k17 : w3.cell? ⟨bp, 17, none⟩ = some (.int .i32 3) := (n1 7 (by omega)).1
  have k18 : w3.cell? ⟨bp, 18, none⟩ = some (.int .i32 2) := (n1 8 (by omega)).1
  have k19 : w3.cell? ⟨bp, 19, none⟩ = some (.int .u32 d1.p) := (n1 9 (by omega)).1
  have k20 : w3.cell? ⟨bp, 20, none⟩ = some (.int .i32 d2.w) := (n2 0 (by omega)).1
  have k21 : w3.cell? ⟨bp, 21, none⟩ = some (.int .i32 d2.h) := (n2 1 (by omega)).1
  have k22 : w3.cell? ⟨bp, 22, none⟩ = some (.int .i32 d2.g) := (n2 2 (by omega)).1
  have k23 : w3.cell? ⟨bp, 23, none⟩ = some (.int .i32 x2) := (n2 3 (by omega)).1
  have k24 : w3.cell? ⟨bp, 24, none⟩ = some (.int .i32 y2) := (n2 4 (by omega)).1
  have k25 : w3.cell? ⟨bp, 25, none⟩ = some (.int .i32 u2) := (n2 5 (by omega)).1
  have k26 : w3.cell? ⟨bp, 26, none⟩ = some (.int .i32 d2.c) := (n2 6 (by omega)).1
  have k27 : w3.cell? ⟨bp, 27, none⟩ = some (.int .i32 0) := (n2 7 (by omega)).1
  have k28 : w3.cell? ⟨bp, 28, none⟩ = some (.int .i32 0) := (n2 8 (by omega)).1
  have k29 : w3.cell? ⟨bp, 29, none⟩ = some (.int .u32 d2.p) := (n2 9 (by omega)).1
  have k30 : w3.cell? ⟨bp, 30, none⟩ = some (.int .i32 d3.w) := (n3 0 (by omega)).1
  have k31 : w3.cell? ⟨bp, 31, none⟩ = some (.int .i32 d3.h) := (n3 1 (by omega)).1
  have k32 : w3.cell? ⟨bp, 32, none⟩ = some (.int .i32 d3.g) := (n3 2 (by omega)).1
  have k33 : w3.cell? ⟨bp, 33, none⟩ = some (.int .i32 d3.lw) := (n3 3 (by omega)).1
  have k34 : w3.cell? ⟨bp, 34, none⟩ = some (.int .i32 d3.lh) := (n3 4 (by omega)).1
  have k35 : w3.cell? ⟨bp, 35, none⟩ = some (.int .i32 d3.lg) := (n3 5 (by omega)).1
  have k36 : w3.cell? ⟨bp, 36, none⟩ = some (.int .i32 d3.c) := (n3 6 (by omega)).1
  have k37 : w3.cell? ⟨bp, 37, none⟩ = some (.int .i32 0) := (n3 7 (by omega)).1
  have k38 : w3.cell? ⟨bp, 38, none⟩ = some (.int .i32 0) := (n3 8 (by omega)).1
  have k39 : w3.cell? ⟨bp, 39, none⟩ = some (.int .u32 d3.p) := (n3 9 (by omega)).1
  have k40 : w3.cell? ⟨bp, 40, none⟩ = some (.int .i32 d4.w) := (n4 0 (by omega)).1
  have k41 : w3.cell? ⟨bp, 41, none⟩ = some (.int .i32 d4.h) := (n4 1 (by omega)).1
  have k42 : w3.cell? ⟨bp, 42, none⟩ = some (.int .i32 d4.g) := (n4 2 (by omega)).1
  have k43 : w3.cell? ⟨bp, 43, none⟩ = some (.int .i32 d4.lw) := (n4 3 (by omega)).1
  have k44 : w3.cell? ⟨bp, 44, none⟩ = some (.int .i32 d4.lh) := (n4 4 (by omega)).1
  have k45 : w3.cell? ⟨bp, 45, none⟩ = some (.int .i32 d4.lg) := (n4 5 (by omega)).1
  have k46 : w3.cell? ⟨bp, 46, none⟩ = some (.int .i32 d4.c) := (n4 6 (by omega)).1
  have k47 : w3.cell? ⟨bp, 47, none⟩ = some (.int .i32 0) := (n4 7 (by omega)).1
  have k48 : w3.cell? ⟨bp, 48, none⟩ = some (.int .i32 0) := (n4 8 (by omega)).1
  have k49 : w3.cell? ⟨bp, 49, none⟩ = some (.int .u32 d4.p) := (n4 9 (by omega)).1
  have k50 : w3.cell? ⟨bp, 50, none⟩ = some (.int .i32 d5.w) := (n5 0 (by omega)).1
  have k51 : w3.cell? ⟨bp, 51, none⟩ = some (.int .i32 d5.h) := (n5 1 (by omega)).1
  have k52 : w3.cell? ⟨bp, 52, none⟩ = some (.int .i32 d5.g) := (n5 2 (by omega)).1
  have k53 : w3.cell? ⟨bp, 53, none⟩ = some (.int .i32 d5.lw) := (n5 3 (by omega)).1
  have k54 : w3.cell? ⟨bp, 54, none⟩ = some (.int .i32 d5.lh) := (n5 4 (by omega)).1
  have k55 : w3.cell? ⟨bp, 55, none⟩ = some (.int .i32 d5.lg) := (n5 5 (by omega)).1
  have k56 : w3.cell? ⟨bp, 56, none⟩ = some (.int .i32 d5.c) := (n5 6 (by omega)).1
  have k57 : w3.cell? ⟨bp, 57, none⟩ = some (.int .i32 0) := (n5 7 (by omega)).1
  have k58 : w3.cell? ⟨bp, 58, none⟩ = some (.int .i32 0) := (n5 8 (by omega)).1
  have k59 : w3.cell? ⟨bp, 59, none⟩ = some (.int .u32 d5.p) := (n5 9 (by omega)).1
  have q10 : w3.cell? ⟨w.heap.size, 0, none⟩ = some (.int .i32 d1.w) := b1 0 (by omega)
  have q11 : w3.cell? ⟨w.heap.size, 1, none⟩ = some (.int .i32 d1.h) := b1 1 (by omega)
  have q12 : w3.cell? ⟨w.heap.size, 2, none⟩ = some (.int .i32 d1.g) := b1 2 (by omega)
  have q13 : w3.cell? ⟨w.heap.size, 3, none⟩ = some (.int .i32 d1.lw) := b1 3 (by omega)
  have q14 : w3.cell? ⟨w.heap.size, 4, none⟩ = some (.int .i32 d1.lh) := b1 4 (by omega)
  have q15 : w3.cell? ⟨w.heap.size, 5, none⟩ = some (.int .i32 d1.lg) := b1 5 (by omega)
  have q16 : w3.cell? ⟨w.heap.size, 6, none⟩ = some (.int .i32 d1.c) := b1 6 (by omega)
  have q17 : w3.cell? ⟨w.heap.size, 7, none⟩ = some (.int .u32 d1.p) := b1 7 (by omega)
  have q20 : w3.cell? ⟨w.heap.size + 1, 0, none⟩ = some (.int .i32 d2.w) := b2 0 (by omega)
  have q21 : w3.cell? ⟨w.heap.size + 1, 1, none⟩ = some (.int .i32 d2.h) := b2 1 (by omega)
  have q22 : w3.cell? ⟨w.heap.size + 1, 2, none⟩ = some (.int .i32 d2.g) := b2 2 (by omega)
  have q23 : w3.cell? ⟨w.heap.size + 1, 3, none⟩ = some (.int .i32 d2.lw) := b2 3 (by omega)
  have q24 : w3.cell? ⟨w.heap.size + 1, 4, none⟩ = some (.int .i32 d2.lh) := b2 4 (by omega)
  have q25 : w3.cell? ⟨w.heap.size + 1, 5, none⟩ = some (.int .i32 d2.lg) := b2 5 (by omega)
  have q26 : w3.cell? ⟨w.heap.size + 1, 6, none⟩ = some (.int .i32 d2.c) := b2 6 (by omega)
  have q27 : w3.cell? ⟨w.heap.size + 1, 7, none⟩ = some (.int .u32 d2.p) := b2 7 (by omega)
  have q30 : w3.cell? ⟨w.heap.size + 1 + 1, 0, none⟩ = some (.int .i32 d3.w) := b3 0 (by omega)
  have q31 : w3.cell? ⟨w.heap.size + 1 + 1, 1, none⟩ = some (.int .i32 d3.h) := b3 1 (by omega)
  have q32 : w3.cell? ⟨w.heap.size + 1 + 1, 2, none⟩ = some (.int .i32 d3.g) := b3 2 (by omega)
  have q33 : w3.cell? ⟨w.heap.size + 1 + 1, 3, none⟩ = some (.int .i32 d3.lw) := b3 3 (by omega)
  have q34 : w3.cell? ⟨w.heap.size + 1 + 1, 4, none⟩ = some (.int .i32 d3.lh) := b3 4 (by omega)
  have q35 : w3.cell? ⟨w.heap.size + 1 + 1, 5, none⟩ = some (.int .i32 d3.lg) := b3 5 (by omega)
  have q36 : w3.cell? ⟨w.heap.size + 1 + 1, 6, none⟩ = some (.int .i32 d3.c) := b3 6 (by omega)
  have q37 : w3.cell? ⟨w.heap.size + 1 + 1, 7, none⟩ = some (.int .u32 d3.p) := b3 7 (by omega)
  have q40 : w3.cell? ⟨w.heap.size + 1 + 1 + 1, 0, none⟩ = some (.int .i32 d4.w) := b4 0 (by omega)
  have q41 : w3.cell? ⟨w.heap.size + 1 + 1 + 1, 1, none⟩ = some (.int .i32 d4.h) := b4 1 (by omega)
  have q42 : w3.cell? ⟨w.heap.size + 1 + 1 + 1, 2, none⟩ = some (.int .i32 d4.g) := b4 2 (by omega)
  have q43 : w3.cell? ⟨w.heap.size + 1 + 1 + 1, 3, none⟩ = some (.int .i32 d4.lw) := b4 3 (by omega)
  have q44 : w3.cell? ⟨w.heap.size + 1 + 1 + 1, 4, none⟩ = some (.int .i32 d4.lh) := b4 4 (by omega)
  have q45 : w3.cell? ⟨w.heap.size + 1 + 1 + 1, 5, none⟩ = some (.int .i32 d4.lg) := b4 5 (by omega)
  have q46 : w3.cell? ⟨w.heap.size + 1 + 1 + 1, 6, none⟩ = some (.int .i32 d4.c) := b4 6 (by omega)
  have q47 : w3.cell? ⟨w.heap.size + 1 + 1 + 1, 7, none⟩ = some (.int .u32 d4.p) := b4 7 (by omega)
  have q50 : w3.cell? ⟨w.heap.size + 1 + 1 + 1 + 1, 0, none⟩ = some (.int .i32 d5.w) := b5 0 (by omega)
  have q51 : w3.cell? ⟨w.heap.size + 1 + 1 + 1 + 1, 1, none⟩ = some (.int .i32 d5.h) := b5 1 (by omega)
  have q52 : w3.cell? ⟨w.heap.size + 1 + 1 + 1 + 1, 2, none⟩ = some (.int .i32 d5.g) := b5 2 (by omega)
  have q53 : w3.cell? ⟨w.heap.size + 1 + 1 + 1 + 1, 3, none⟩ = some (.int .i32 d5.lw) := b5 3 (by omega)
  have q54 : w3.cell? ⟨w.heap.size + 1 + 1 + 1 + 1, 4, none⟩ = some (.int .i32 d5.lh) := b5 4 (by omega)
  have q55 : w3.cell? ⟨w.heap.size + 1 + 1 + 1 + 1, 5, none⟩ = some (.int .i32 d5.lg) := b5 5 (by omega)
  have q56 : w3.cell? ⟨w.heap.size + 1 + 1 + 1 + 1, 6, none⟩ = some (.int .i32 d5.c) := b5 6 (by omega)
  have q57 : w3.cell? ⟨w.heap.size + 1 + 1 + 1 + 1, 7, none⟩ = some (.int .u32 d5.p) := b5 7 (by omega)
  have hN0 : w.heap.size < w3.heap.size := by omega
  have hN1 : w.heap.size + 1 < w3.heap.size := by omega
  have hN2 : w.heap.size + 1 + 1 < w3.heap.size := by omega
  have hN3 : w.heap.size + 1 + 1 + 1 < w3.heap.size := by omega
  have hN4 : w.heap.size + 1 + 1 + 1 + 1 < w3.heap.size := by omega
  clear n1 n2 n3 n4 n5 b1 b2 b3 b4 b5 hz1
  go_wp2_with fail
  go_region_held3 (fun w' => (∀ b o, b < w3.heap.size → w'.cell? ⟨b, o, none⟩ = w3.cell? ⟨b, o, none⟩) ∧ w3.heap.size ≤ w'.heap.size ∧ Below w.heap.size w w')
    (first | (apply s_next hk; (assumption); (exact ⟨rfl, rfl, rfl, rfl⟩)) | exact ⟨fun _ _ _ => rfl, Nat.le_refl _, ⟨hB3.os, hB3.tape, hB3.output, hB3.size, hB3.block⟩⟩)
    (first
      | (go_at_call 9; refine (kept_same _ _ _ _ _ _ _ _ _ _ _ _ _ _).mono ?_; rintro e wk ⟨rfl, hk⟩)
      | (go_at_call 10; refine (leaf_same _ _ _ _ _ _ _ _ _).mono ?_; rintro e wl ⟨rfl, hk⟩))
  rename_i hE
  go_wp2
  go_ret
  exact ⟨rfl, hE.2.2⟩

set_option maxRecDepth 100000 in
set_option maxHeartbeats 2000000 in
theorem rt_101 (d1 d2 d3 d4 d5 : Dat) (w : World) :
    Calls Yba.prog 4 #[.agg #[.int .i32 d1.w, .int .i32 d1.h, .int .i32 d1.g, .int .i32 d1.lw, .int .i32 d1.lh, .int .i32 d1.lg, .int .i32 d1.c, .int .u32 d1.p], .agg #[.int .i32 d2.w, .int .i32 d2.h, .int .i32 d2.g, .int .i32 d2.lw, .int .i32 d2.lh, .int .i32 d2.lg, .int .i32 d2.c, .int .u32 d2.p], .agg #[.int .i32 d3.w, .int .i32 d3.h, .int .i32 d3.g, .int .i32 d3.lw, .int .i32 d3.lh, .int .i32 d3.lg, .int .i32 d3.c, .int .u32 d3.p], .agg #[.int .i32 d4.w, .int .i32 d4.h, .int .i32 d4.g, .int .i32 d4.lw, .int .i32 d4.lh, .int .i32 d4.lg, .int .i32 d4.c, .int .u32 d4.p], .agg #[.int .i32 d5.w, .int .i32 d5.h, .int .i32 d5.g, .int .i32 d5.lw, .int .i32 d5.lh, .int .i32 d5.lg, .int .i32 d5.c, .int .u32 d5.p], .bool true, .bool false, .bool true] w fun e w' => e = .returned (.bool true) ∧ Below w.heap.size w w' := by
  go_enter Yba.func4, Yba.ntmps4
  go_wp2_with fail
  refine (build_any d1 d2 d3 d4 d5 true false true _).mono ?_
  rintro e w1 ⟨bx, bs, bp, rfl, hb1, z1, z2, z3, z4, hx, hs, n1, n2, n3, n4, n5⟩
  have I : Idx w1 bx bs bp d1 d2 d3 d4 d5 3 2 0 5 := ⟨z4, by omega, by omega, by omega, by omega, hx, hs, n1, n2, n3, n4, n5⟩
  have hB1 : Below w.heap.size w w1 := (((((Below.refl _ w).alloc (Nat.le_refl _) _).alloc (by simp) _).alloc (by first | (simp; done) | (simp; omega)) _).alloc (by first | (simp; done) | (simp; omega)) _).alloc (by first | (simp; done) | (simp; omega)) _ |>.trans (hb1.mono (by first | (simp; done) | (simp; omega)))
  have hz1 : w.heap.size + 5 ≤ bp := by simpa using z1
  obtain ⟨b1, b2, b3, b4, b5⟩ := five w d1 d2 d3 d4 d5 _ rfl
  replace b1 := b1.below hb1 (by first | (simp; done) | (simp; omega))
  replace b2 := b2.below hb1 (by first | (simp; done) | (simp; omega))
  replace b3 := b3.below hb1 (by first | (simp; done) | (simp; omega))
  replace b4 := b4.below hb1 (by first | (simp; done) | (simp; omega))
  replace b5 := b5.below hb1 (by first | (simp; done) | (simp; omega))
  clear hb1 hx hs n1 n2 n3 n4 n5 z1 z2 z3 z4
  go_wp2_with fail
  refine (rotL bx bs bp d1 d2 d3 d4 d5 true false 5 _ I).mono ?_
  rintro e w2 ⟨rfl, hb2, I2⟩
  obtain ⟨x1, y1, u1, e1⟩ := best2_ex d1 (if true then some d3 else none) (if false then some d4 else none)
  rw [e1] at I2
  have hB2 : Below w.heap.size w w2 := hB1.trans (hb2.mono (by omega))
  replace b1 := b1.below hb2 (by omega)
  replace b2 := b2.below hb2 (by omega)
  replace b3 := b3.below hb2 (by omega)
  replace b4 := b4.below hb2 (by omega)
  replace b5 := b5.below hb2 (by omega)
  clear hB1 hb2 e1 I
  go_wp2_with fail
  refine (rotR bx bs bp _ d2 d3 d4 d5 false true 3 _ I2).mono ?_
  rintro e w3 ⟨rfl, hb3, I3⟩
  obtain ⟨x2, y2, u2, e2⟩ := best2_ex d2 (if false then some d4 else none) (if true then some d5 else none)
  rw [e2] at I3
  obtain ⟨zx, zs, zp, -, -, -, -, n1, n2, n3, n4, n5⟩ := I3
  have hB3 : Below w.heap.size w w3 := hB2.trans (hb3.mono (by omega))
  replace b1 := b1.below hb3 (by omega)
  replace b2 := b2.below hb3 (by omega)
  replace b3 := b3.below hb3 (by omega)
  replace b4 := b4.below hb3 (by omega)
  replace b5 := b5.below hb3 (by omega)
  clear hB2 hb3 e2 I2
  have k10 : w3.cell? ⟨bp, 10, none⟩ = some (.int .i32 d1.w) := (n1 0 (by omega)).1
  have k11 : w3.cell? ⟨bp, 11, none⟩ = some (.int .i32 d1.h) := (n1 1 (by omega)).1
  have k12 : w3.cell? ⟨bp, 12, none⟩ = some (.int .i32 d1.g) := (n1 2 (by omega)).1
  have k13 : w3.cell? ⟨bp, 13, none⟩ = some (.int .i32 x1) := (n1 3 (by omega)).1
  have k14 : w3.cell? ⟨bp, 14, none⟩ = some (.int .i32 y1) := (n1 4 (by omega)).1
  have k15 : w3.cell? ⟨bp, 15, none⟩ = some (.int .i32 u1) := (n1 5 (by omega)).1
  have k16 : w3.cell? ⟨bp, 16, none⟩ = some (.int .i32 d1.c) := (n1 6 (by omega)).1
  have k17 : w3.cell? ⟨bp, 17, none⟩ = some (.int .i32 3) := (n1 7 (by omega)).1
  have k18 : w3.cell? ⟨bp, 18, none⟩ = some (.int .i32 2) := (n1 8 (by omega)).1
  have k19 : w3.cell? ⟨bp, 19, none⟩ = some (.int .u32 d1.p) := (n1 9 (by omega)).1
  have k20 : w3.cell? ⟨bp, 20, none⟩ = some (.int .i32 d2.w) := (n2 0 (by omega)).1
  have k21 : w3.cell? ⟨bp, 21, none⟩ = some (.int .i32 d2.h) := (n2 1 (by omega)).1
  have k22 : w3.cell? ⟨bp, 22, none⟩ = some (.int .i32 d2.g) := (n2 2 (by omega)).1
  have k23 : w3.cell? ⟨bp, 23, none⟩ = some (.int .i32 x2) := (n2 3 (by omega)).1
  have k24 : w3.cell? ⟨bp, 24, none⟩ = some (.int .i32 y2) := (n2 4 (by omega)).1
  have k25 : w3.cell? ⟨bp, 25, none⟩ = some (.int .i32 u2) := (n2 5 (by omega)).1
  have k26 : w3.cell? ⟨bp, 26, none⟩ = some (.int .i32 d2.c) := (n2 6 (by omega)).1
  have k27 : w3.cell? ⟨bp, 27, none⟩ = some (.int .i32 0) := (n2 7 (by omega)).1
  have k28 : w3.cell? ⟨bp, 28, none⟩ = some (.int .i32 5) := (n2 8 (by omega)).1
  have k29 : w3.cell? ⟨bp, 29, none⟩ = some (.int .u32 d2.p) := (n2 9 (by omega)).1
  have k30 : w3.cell? ⟨bp, 30, none⟩ = some (.int .i32 d3.w) := (n3 0 (by omega)).1
  have k31 : w3.cell? ⟨bp, 31, none⟩ = some (.int .i32 d3.h) := (n3 1 (by omega)).1
  have k32 : w3.cell? ⟨bp, 32, none⟩ = some (.int .i32 d3.g) := (n3 2 (by omega)).1
  have k33 : w3.cell? ⟨bp, 33, none⟩ = some (.int .i32 d3.lw) := (n3 3 (by omega)).1
  have k34 : w3.cell? ⟨bp, 34, none⟩ = some (.int .i32 d3.lh) := (n3 4 (by omega)).1
  have k35 : w3.cell? ⟨bp, 35, none⟩ = some (.int .i32 d3.lg) := (n3 5 (by omega)).1
  have k36 : w3.cell? ⟨bp, 36, none⟩ = some (.int .i32 d3.c) := (n3 6 (by omega)).1
  have k37 : w3.cell? ⟨bp, 37, none⟩ = some (.int .i32 0) := (n3 7 (by omega)).1
  have k38 : w3.cell? ⟨bp, 38, none⟩ = some (.int .i32 0) := (n3 8 (by omega)).1
  have k39 : w3.cell? ⟨bp, 39, none⟩ = some (.int .u32 d3.p) := (n3 9 (by omega)).1
  have k40 : w3.cell? ⟨bp, 40, none⟩ = some (.int .i32 d4.w) := (n4 0 (by omega)).1
  have k41 : w3.cell? ⟨bp, 41, none⟩ = some (.int .i32 d4.h) := (n4 1 (by omega)).1
  have k42 : w3.cell? ⟨bp, 42, none⟩ = some (.int .i32 d4.g) := (n4 2 (by omega)).1
  have k43 : w3.cell? ⟨bp, 43, none⟩ = some (.int .i32 d4.lw) := (n4 3 (by omega)).1
  have k44 : w3.cell? ⟨bp, 44, none⟩ = some (.int .i32 d4.lh) := (n4 4 (by omega)).1
  have k45 : w3.cell? ⟨bp, 45, none⟩ = some (.int .i32 d4.lg) := (n4 5 (by omega)).1
  have k46 : w3.cell? ⟨bp, 46, none⟩ = some (.int .i32 d4.c) := (n4 6 (by omega)).1
  have k47 : w3.cell? ⟨bp, 47, none⟩ = some (.int .i32 0) := (n4 7 (by omega)).1
  have k48 : w3.cell? ⟨bp, 48, none⟩ = some (.int .i32 0) := (n4 8 (by omega)).1
  have k49 : w3.cell? ⟨bp, 49, none⟩ = some (.int .u32 d4.p) := (n4 9 (by omega)).1
  have k50 : w3.cell? ⟨bp, 50, none⟩ = some (.int .i32 d5.w) := (n5 0 (by omega)).1
  have k51 : w3.cell? ⟨bp, 51, none⟩ = some (.int .i32 d5.h) := (n5 1 (by omega)).1
  have k52 : w3.cell? ⟨bp, 52, none⟩ = some (.int .i32 d5.g) := (n5 2 (by omega)).1
  have k53 : w3.cell? ⟨bp, 53, none⟩ = some (.int .i32 d5.lw) := (n5 3 (by omega)).1
  have k54 : w3.cell? ⟨bp, 54, none⟩ = some (.int .i32 d5.lh) := (n5 4 (by omega)).1
  have k55 : w3.cell? ⟨bp, 55, none⟩ = some (.int .i32 d5.lg) := (n5 5 (by omega)).1
  have k56 : w3.cell? ⟨bp, 56, none⟩ = some (.int .i32 d5.c) := (n5 6 (by omega)).1
  have k57 : w3.cell? ⟨bp, 57, none⟩ = some (.int .i32 0) := (n5 7 (by omega)).1
  have k58 : w3.cell? ⟨bp, 58, none⟩ = some (.int .i32 0) := (n5 8 (by omega)).1
  have k59 : w3.cell? ⟨bp, 59, none⟩ = some (.int .u32 d5.p) := (n5 9 (by omega)).1
  have q10 : w3.cell? ⟨w.heap.size, 0, none⟩ = some (.int .i32 d1.w) := b1 0 (by omega)
  have q11 : w3.cell? ⟨w.heap.size, 1, none⟩ = some (.int .i32 d1.h) := b1 1 (by omega)
  have q12 : w3.cell? ⟨w.heap.size, 2, none⟩ = some (.int .i32 d1.g) := b1 2 (by omega)
  have q13 : w3.cell? ⟨w.heap.size, 3, none⟩ = some (.int .i32 d1.lw) := b1 3 (by omega)
  have q14 : w3.cell? ⟨w.heap.size, 4, none⟩ = some (.int .i32 d1.lh) := b1 4 (by omega)
  have q15 : w3.cell? ⟨w.heap.size, 5, none⟩ = some (.int .i32 d1.lg) := b1 5 (by omega)
  have q16 : w3.cell? ⟨w.heap.size, 6, none⟩ = some (.int .i32 d1.c) := b1 6 (by omega)
  have q17 : w3.cell? ⟨w.heap.size, 7, none⟩ = some (.int .u32 d1.p) := b1 7 (by omega)
  have q20 : w3.cell? ⟨w.heap.size + 1, 0, none⟩ = some (.int .i32 d2.w) := b2 0 (by omega)
  have q21 : w3.cell? ⟨w.heap.size + 1, 1, none⟩ = some (.int .i32 d2.h) := b2 1 (by omega)
  have q22 : w3.cell? ⟨w.heap.size + 1, 2, none⟩ = some (.int .i32 d2.g) := b2 2 (by omega)
  have q23 : w3.cell? ⟨w.heap.size + 1, 3, none⟩ = some (.int .i32 d2.lw) := b2 3 (by omega)
  have q24 : w3.cell? ⟨w.heap.size + 1, 4, none⟩ = some (.int .i32 d2.lh) := b2 4 (by omega)
  have q25 : w3.cell? ⟨w.heap.size + 1, 5, none⟩ = some (.int .i32 d2.lg) := b2 5 (by omega)
  have q26 : w3.cell? ⟨w.heap.size + 1, 6, none⟩ = some (.int .i32 d2.c) := b2 6 (by omega)
  have q27 : w3.cell? ⟨w.heap.size + 1, 7, none⟩ = some (.int .u32 d2.p) := b2 7 (by omega)
  have q30 : w3.cell? ⟨w.heap.size + 1 + 1, 0, none⟩ = some (.int .i32 d3.w) := b3 0 (by omega)
  have q31 : w3.cell? ⟨w.heap.size + 1 + 1, 1, none⟩ = some (.int .i32 d3.h) := b3 1 (by omega)
  have q32 : w3.cell? ⟨w.heap.size + 1 + 1, 2, none⟩ = some (.int .i32 d3.g) := b3 2 (by omega)
  have q33 : w3.cell? ⟨w.heap.size + 1 + 1, 3, none⟩ = some (.int .i32 d3.lw) := b3 3 (by omega)
  have q34 : w3.cell? ⟨w.heap.size + 1 + 1, 4, none⟩ = some (.int .i32 d3.lh) := b3 4 (by omega)
  have q35 : w3.cell? ⟨w.heap.size + 1 + 1, 5, none⟩ = some (.int .i32 d3.lg) := b3 5 (by omega)
  have q36 : w3.cell? ⟨w.heap.size + 1 + 1, 6, none⟩ = some (.int .i32 d3.c) := b3 6 (by omega)
  have q37 : w3.cell? ⟨w.heap.size + 1 + 1, 7, none⟩ = some (.int .u32 d3.p) := b3 7 (by omega)
  have q40 : w3.cell? ⟨w.heap.size + 1 + 1 + 1, 0, none⟩ = some (.int .i32 d4.w) := b4 0 (by omega)
  have q41 : w3.cell? ⟨w.heap.size + 1 + 1 + 1, 1, none⟩ = some (.int .i32 d4.h) := b4 1 (by omega)
  have q42 : w3.cell? ⟨w.heap.size + 1 + 1 + 1, 2, none⟩ = some (.int .i32 d4.g) := b4 2 (by omega)
  have q43 : w3.cell? ⟨w.heap.size + 1 + 1 + 1, 3, none⟩ = some (.int .i32 d4.lw) := b4 3 (by omega)
  have q44 : w3.cell? ⟨w.heap.size + 1 + 1 + 1, 4, none⟩ = some (.int .i32 d4.lh) := b4 4 (by omega)
  have q45 : w3.cell? ⟨w.heap.size + 1 + 1 + 1, 5, none⟩ = some (.int .i32 d4.lg) := b4 5 (by omega)
  have q46 : w3.cell? ⟨w.heap.size + 1 + 1 + 1, 6, none⟩ = some (.int .i32 d4.c) := b4 6 (by omega)
  have q47 : w3.cell? ⟨w.heap.size + 1 + 1 + 1, 7, none⟩ = some (.int .u32 d4.p) := b4 7 (by omega)
  have q50 : w3.cell? ⟨w.heap.size + 1 + 1 + 1 + 1, 0, none⟩ = some (.int .i32 d5.w) := b5 0 (by omega)
  have q51 : w3.cell? ⟨w.heap.size + 1 + 1 + 1 + 1, 1, none⟩ = some (.int .i32 d5.h) := b5 1 (by omega)
  have q52 : w3.cell? ⟨w.heap.size + 1 + 1 + 1 + 1, 2, none⟩ = some (.int .i32 d5.g) := b5 2 (by omega)
  have q53 : w3.cell? ⟨w.heap.size + 1 + 1 + 1 + 1, 3, none⟩ = some (.int .i32 d5.lw) := b5 3 (by omega)
  have q54 : w3.cell? ⟨w.heap.size + 1 + 1 + 1 + 1, 4, none⟩ = some (.int .i32 d5.lh) := b5 4 (by omega)
  have q55 : w3.cell? ⟨w.heap.size + 1 + 1 + 1 + 1, 5, none⟩ = some (.int .i32 d5.lg) := b5 5 (by omega)
  have q56 : w3.cell? ⟨w.heap.size + 1 + 1 + 1 + 1, 6, none⟩ = some (.int .i32 d5.c) := b5 6 (by omega)
  have q57 : w3.cell? ⟨w.heap.size + 1 + 1 + 1 + 1, 7, none⟩ = some (.int .u32 d5.p) := b5 7 (by omega)
  have hN0 : w.heap.size < w3.heap.size := by omega
  have hN1 : w.heap.size + 1 < w3.heap.size := by omega
  have hN2 : w.heap.size + 1 + 1 < w3.heap.size := by omega
  have hN3 : w.heap.size + 1 + 1 + 1 < w3.heap.size := by omega
  have hN4 : w.heap.size + 1 + 1 + 1 + 1 < w3.heap.size := by omega
  clear n1 n2 n3 n4 n5 b1 b2 b3 b4 b5 hz1
  go_wp2_with fail
  go_region_held3 (fun w' => (∀ b o, b < w3.heap.size → w'.cell? ⟨b, o, none⟩ = w3.cell? ⟨b, o, none⟩) ∧ w3.heap.size ≤ w'.heap.size ∧ Below w.heap.size w w')
    (first | (apply s_next hk; (assumption); (exact ⟨rfl, rfl, rfl, rfl⟩)) | exact ⟨fun _ _ _ => rfl, Nat.le_refl _, ⟨hB3.os, hB3.tape, hB3.output, hB3.size, hB3.block⟩⟩)
    (first
      | (go_at_call 9; refine (kept_same _ _ _ _ _ _ _ _ _ _ _ _ _ _).mono ?_; rintro e wk ⟨rfl, hk⟩)
      | (go_at_call 10; refine (leaf_same _ _ _ _ _ _ _ _ _).mono ?_; rintro e wl ⟨rfl, hk⟩))
  rename_i hE
  go_wp2
  go_ret
  exact ⟨rfl, hE.2.2⟩

set_option maxRecDepth 100000 in
set_option maxHeartbeats 2000000 in
theorem rt_110 (d1 d2 d3 d4 d5 : Dat) (w : World) :
    Calls Yba.prog 4 #[.agg #[.int .i32 d1.w, .int .i32 d1.h, .int .i32 d1.g, .int .i32 d1.lw, .int .i32 d1.lh, .int .i32 d1.lg, .int .i32 d1.c, .int .u32 d1.p], .agg #[.int .i32 d2.w, .int .i32 d2.h, .int .i32 d2.g, .int .i32 d2.lw, .int .i32 d2.lh, .int .i32 d2.lg, .int .i32 d2.c, .int .u32 d2.p], .agg #[.int .i32 d3.w, .int .i32 d3.h, .int .i32 d3.g, .int .i32 d3.lw, .int .i32 d3.lh, .int .i32 d3.lg, .int .i32 d3.c, .int .u32 d3.p], .agg #[.int .i32 d4.w, .int .i32 d4.h, .int .i32 d4.g, .int .i32 d4.lw, .int .i32 d4.lh, .int .i32 d4.lg, .int .i32 d4.c, .int .u32 d4.p], .agg #[.int .i32 d5.w, .int .i32 d5.h, .int .i32 d5.g, .int .i32 d5.lw, .int .i32 d5.lh, .int .i32 d5.lg, .int .i32 d5.c, .int .u32 d5.p], .bool true, .bool true, .bool false] w fun e w' => e = .returned (.bool true) ∧ Below w.heap.size w w' := by
  go_enter Yba.func4, Yba.ntmps4
  go_wp2_with fail
  refine (build_any d1 d2 d3 d4 d5 true true false _).mono ?_
  rintro e w1 ⟨bx, bs, bp, rfl, hb1, z1, z2, z3, z4, hx, hs, n1, n2, n3, n4, n5⟩
  have I : Idx w1 bx bs bp d1 d2 d3 d4 d5 3 2 4 0 := ⟨z4, by omega, by omega, by omega, by omega, hx, hs, n1, n2, n3, n4, n5⟩
  have hB1 : Below w.heap.size w w1 := (((((Below.refl _ w).alloc (Nat.le_refl _) _).alloc (by simp) _).alloc (by first | (simp; done) | (simp; omega)) _).alloc (by first | (simp; done) | (simp; omega)) _).alloc (by first | (simp; done) | (simp; omega)) _ |>.trans (hb1.mono (by first | (simp; done) | (simp; omega)))
  have hz1 : w.heap.size + 5 ≤ bp := by simpa using z1
  obtain ⟨b1, b2, b3, b4, b5⟩ := five w d1 d2 d3 d4 d5 _ rfl
  replace b1 := b1.below hb1 (by first | (simp; done) | (simp; omega))
  replace b2 := b2.below hb1 (by first | (simp; done) | (simp; omega))
  replace b3 := b3.below hb1 (by first | (simp; done) | (simp; omega))
  replace b4 := b4.below hb1 (by first | (simp; done) | (simp; omega))
  replace b5 := b5.below hb1 (by first | (simp; done) | (simp; omega))
  clear hb1 hx hs n1 n2 n3 n4 n5 z1 z2 z3 z4
  go_wp2_with fail
  refine (rotL bx bs bp d1 d2 d3 d4 d5 true true 0 _ I).mono ?_
  rintro e w2 ⟨rfl, hb2, I2⟩
  obtain ⟨x1, y1, u1, e1⟩ := best2_ex d1 (if true then some d3 else none) (if true then some d4 else none)
  rw [e1] at I2
  have hB2 : Below w.heap.size w w2 := hB1.trans (hb2.mono (by omega))
  replace b1 := b1.below hb2 (by omega)
  replace b2 := b2.below hb2 (by omega)
  replace b3 := b3.below hb2 (by omega)
  replace b4 := b4.below hb2 (by omega)
  replace b5 := b5.below hb2 (by omega)
  clear hB1 hb2 e1 I
  go_wp2_with fail
  refine (rotR bx bs bp _ d2 d3 d4 d5 true false 3 _ I2).mono ?_
  rintro e w3 ⟨rfl, hb3, I3⟩
  obtain ⟨x2, y2, u2, e2⟩ := best2_ex d2 (if true then some d4 else none) (if false then some d5 else none)
  rw [e2] at I3
  obtain ⟨zx, zs, zp, -, -, -, -, n1, n2, n3, n4, n5⟩ := I3
  have hB3 : Below w.heap.size w w3 := hB2.trans (hb3.mono (by omega))
  replace b1 := b1.below hb3 (by omega)
  replace b2 := b2.below hb3 (by omega)
  replace b3 := b3.below hb3 (by omega)
  replace b4 := b4.below hb3 (by omega)
  replace b5 := b5.below hb3 (by omega)
  clear hB2 hb3 e2 I2
  have k10 : w3.cell? ⟨bp, 10, none⟩ = some (.int .i32 d1.w) := (n1 0 (by omega)).1
  have k11 : w3.cell? ⟨bp, 11, none⟩ = some (.int .i32 d1.h) := (n1 1 (by omega)).1
  have k12 : w3.cell? ⟨bp, 12, none⟩ = some (.int .i32 d1.g) := (n1 2 (by omega)).1
  have k13 : w3.cell? ⟨bp, 13, none⟩ = some (.int .i32 x1) := (n1 3 (by omega)).1
  have k14 : w3.cell? ⟨bp, 14, none⟩ = some (.int .i32 y1) := (n1 4 (by omega)).1
  have k15 : w3.cell? ⟨bp, 15, none⟩ = some (.int .i32 u1) := (n1 5 (by omega)).1
  have k16 : w3.cell? ⟨bp, 16, none⟩ = some (.int .i32 d1.c) := (n1 6 (by omega)).1
  have k17 : w3.cell? ⟨bp, 17, none⟩ = some (.int .i32 3) := (n1 7 (by omega)).1
  have k18 : w3.cell? ⟨bp, 18, none⟩ = some (.int .i32 2) := (n1 8 (by omega)).1
  have k19 : w3.cell? ⟨bp, 19, none⟩ = some (.int .u32 d1.p) := (n1 9 (by omega)).1
  have k20 : w3.cell? ⟨bp, 20, none⟩ = some (.int .i32 d2.w) := (n2 0 (by omega)).1
  have k21 : w3.cell? ⟨bp, 21, none⟩ = some (.int .i32 d2.h) := (n2 1 (by omega)).1
  have k22 : w3.cell? ⟨bp, 22, none⟩ = some (.int .i32 d2.g) := (n2 2 (by omega)).1
  have k23 : w3.cell? ⟨bp, 23, none⟩ = some (.int .i32 x2) := (n2 3 (by omega)).1
  have k24 : w3.cell? ⟨bp, 24, none⟩ = some (.int .i32 y2) := (n2 4 (by omega)).1
  have k25 : w3.cell? ⟨bp, 25, none⟩ = some (.int .i32 u2) := (n2 5 (by omega)).1
  have k26 : w3.cell? ⟨bp, 26, none⟩ = some (.int .i32 d2.c) := (n2 6 (by omega)).1
  have k27 : w3.cell? ⟨bp, 27, none⟩ = some (.int .i32 4) := (n2 7 (by omega)).1
  have k28 : w3.cell? ⟨bp, 28, none⟩ = some (.int .i32 0) := (n2 8 (by omega)).1
  have k29 : w3.cell? ⟨bp, 29, none⟩ = some (.int .u32 d2.p) := (n2 9 (by omega)).1
  have k30 : w3.cell? ⟨bp, 30, none⟩ = some (.int .i32 d3.w) := (n3 0 (by omega)).1
  have k31 : w3.cell? ⟨bp, 31, none⟩ = some (.int .i32 d3.h) := (n3 1 (by omega)).1
  have k32 : w3.cell? ⟨bp, 32, none⟩ = some (.int .i32 d3.g) := (n3 2 (by omega)).1
  have k33 : w3.cell? ⟨bp, 33, none⟩ = some (.int .i32 d3.lw) := (n3 3 (by omega)).1
  have k34 : w3.cell? ⟨bp, 34, none⟩ = some (.int .i32 d3.lh) := (n3 4 (by omega)).1
  have k35 : w3.cell? ⟨bp, 35, none⟩ = some (.int .i32 d3.lg) := (n3 5 (by omega)).1
  have k36 : w3.cell? ⟨bp, 36, none⟩ = some (.int .i32 d3.c) := (n3 6 (by omega)).1
  have k37 : w3.cell? ⟨bp, 37, none⟩ = some (.int .i32 0) := (n3 7 (by omega)).1
  have k38 : w3.cell? ⟨bp, 38, none⟩ = some (.int .i32 0) := (n3 8 (by omega)).1
  have k39 : w3.cell? ⟨bp, 39, none⟩ = some (.int .u32 d3.p) := (n3 9 (by omega)).1
  have k40 : w3.cell? ⟨bp, 40, none⟩ = some (.int .i32 d4.w) := (n4 0 (by omega)).1
  have k41 : w3.cell? ⟨bp, 41, none⟩ = some (.int .i32 d4.h) := (n4 1 (by omega)).1
  have k42 : w3.cell? ⟨bp, 42, none⟩ = some (.int .i32 d4.g) := (n4 2 (by omega)).1
  have k43 : w3.cell? ⟨bp, 43, none⟩ = some (.int .i32 d4.lw) := (n4 3 (by omega)).1
  have k44 : w3.cell? ⟨bp, 44, none⟩ = some (.int .i32 d4.lh) := (n4 4 (by omega)).1
  have k45 : w3.cell? ⟨bp, 45, none⟩ = some (.int .i32 d4.lg) := (n4 5 (by omega)).1
  have k46 : w3.cell? ⟨bp, 46, none⟩ = some (.int .i32 d4.c) := (n4 6 (by omega)).1
  have k47 : w3.cell? ⟨bp, 47, none⟩ = some (.int .i32 0) := (n4 7 (by omega)).1
  have k48 : w3.cell? ⟨bp, 48, none⟩ = some (.int .i32 0) := (n4 8 (by omega)).1
  have k49 : w3.cell? ⟨bp, 49, none⟩ = some (.int .u32 d4.p) := (n4 9 (by omega)).1
  have k50 : w3.cell? ⟨bp, 50, none⟩ = some (.int .i32 d5.w) := (n5 0 (by omega)).1
  have k51 : w3.cell? ⟨bp, 51, none⟩ = some (.int .i32 d5.h) := (n5 1 (by omega)).1
  have k52 : w3.cell? ⟨bp, 52, none⟩ = some (.int .i32 d5.g) := (n5 2 (by omega)).1
  have k53 : w3.cell? ⟨bp, 53, none⟩ = some (.int .i32 d5.lw) := (n5 3 (by omega)).1
  have k54 : w3.cell? ⟨bp, 54, none⟩ = some (.int .i32 d5.lh) := (n5 4 (by omega)).1
  have k55 : w3.cell? ⟨bp, 55, none⟩ = some (.int .i32 d5.lg) := (n5 5 (by omega)).1
  have k56 : w3.cell? ⟨bp, 56, none⟩ = some (.int .i32 d5.c) := (n5 6 (by omega)).1
  have k57 : w3.cell? ⟨bp, 57, none⟩ = some (.int .i32 0) := (n5 7 (by omega)).1
  have k58 : w3.cell? ⟨bp, 58, none⟩ = some (.int .i32 0) := (n5 8 (by omega)).1
  have k59 : w3.cell? ⟨bp, 59, none⟩ = some (.int .u32 d5.p) := (n5 9 (by omega)).1
  have q10 : w3.cell? ⟨w.heap.size, 0, none⟩ = some (.int .i32 d1.w) := b1 0 (by omega)
  have q11 : w3.cell? ⟨w.heap.size, 1, none⟩ = some (.int .i32 d1.h) := b1 1 (by omega)
  have q12 : w3.cell? ⟨w.heap.size, 2, none⟩ = some (.int .i32 d1.g) := b1 2 (by omega)
  have q13 : w3.cell? ⟨w.heap.size, 3, none⟩ = some (.int .i32 d1.lw) := b1 3 (by omega)
  have q14 : w3.cell? ⟨w.heap.size, 4, none⟩ = some (.int .i32 d1.lh) := b1 4 (by omega)
  have q15 : w3.cell? ⟨w.heap.size, 5, none⟩ = some (.int .i32 d1.lg) := b1 5 (by omega)
  have q16 : w3.cell? ⟨w.heap.size, 6, none⟩ = some (.int .i32 d1.c) := b1 6 (by omega)
  have q17 : w3.cell? ⟨w.heap.size, 7, none⟩ = some (.int .u32 d1.p) := b1 7 (by omega)
  have q20 : w3.cell? ⟨w.heap.size + 1, 0, none⟩ = some (.int .i32 d2.w) := b2 0 (by omega)
  have q21 : w3.cell? ⟨w.heap.size + 1, 1, none⟩ = some (.int .i32 d2.h) := b2 1 (by omega)
  have q22 : w3.cell? ⟨w.heap.size + 1, 2, none⟩ = some (.int .i32 d2.g) := b2 2 (by omega)
  have q23 : w3.cell? ⟨w.heap.size + 1, 3, none⟩ = some (.int .i32 d2.lw) := b2 3 (by omega)
  have q24 : w3.cell? ⟨w.heap.size + 1, 4, none⟩ = some (.int .i32 d2.lh) := b2 4 (by omega)
  have q25 : w3.cell? ⟨w.heap.size + 1, 5, none⟩ = some (.int .i32 d2.lg) := b2 5 (by omega)
  have q26 : w3.cell? ⟨w.heap.size + 1, 6, none⟩ = some (.int .i32 d2.c) := b2 6 (by omega)
  have q27 : w3.cell? ⟨w.heap.size + 1, 7, none⟩ = some (.int .u32 d2.p) := b2 7 (by omega)
  have q30 : w3.cell? ⟨w.heap.size + 1 + 1, 0, none⟩ = some (.int .i32 d3.w) := b3 0 (by omega)
  have q31 : w3.cell? ⟨w.heap.size + 1 + 1, 1, none⟩ = some (.int .i32 d3.h) := b3 1 (by omega)
  have q32 : w3.cell? ⟨w.heap.size + 1 + 1, 2, none⟩ = some (.int .i32 d3.g) := b3 2 (by omega)
  have q33 : w3.cell? ⟨w.heap.size + 1 + 1, 3, none⟩ = some (.int .i32 d3.lw) := b3 3 (by omega)
  have q34 : w3.cell? ⟨w.heap.size + 1 + 1, 4, none⟩ = some (.int .i32 d3.lh) := b3 4 (by omega)
  have q35 : w3.cell? ⟨w.heap.size + 1 + 1, 5, none⟩ = some (.int .i32 d3.lg) := b3 5 (by omega)
  have q36 : w3.cell? ⟨w.heap.size + 1 + 1, 6, none⟩ = some (.int .i32 d3.c) := b3 6 (by omega)
  have q37 : w3.cell? ⟨w.heap.size + 1 + 1, 7, none⟩ = some (.int .u32 d3.p) := b3 7 (by omega)
  have q40 : w3.cell? ⟨w.heap.size + 1 + 1 + 1, 0, none⟩ = some (.int .i32 d4.w) := b4 0 (by omega)
  have q41 : w3.cell? ⟨w.heap.size + 1 + 1 + 1, 1, none⟩ = some (.int .i32 d4.h) := b4 1 (by omega)
  have q42 : w3.cell? ⟨w.heap.size + 1 + 1 + 1, 2, none⟩ = some (.int .i32 d4.g) := b4 2 (by omega)
  have q43 : w3.cell? ⟨w.heap.size + 1 + 1 + 1, 3, none⟩ = some (.int .i32 d4.lw) := b4 3 (by omega)
  have q44 : w3.cell? ⟨w.heap.size + 1 + 1 + 1, 4, none⟩ = some (.int .i32 d4.lh) := b4 4 (by omega)
  have q45 : w3.cell? ⟨w.heap.size + 1 + 1 + 1, 5, none⟩ = some (.int .i32 d4.lg) := b4 5 (by omega)
  have q46 : w3.cell? ⟨w.heap.size + 1 + 1 + 1, 6, none⟩ = some (.int .i32 d4.c) := b4 6 (by omega)
  have q47 : w3.cell? ⟨w.heap.size + 1 + 1 + 1, 7, none⟩ = some (.int .u32 d4.p) := b4 7 (by omega)
  have q50 : w3.cell? ⟨w.heap.size + 1 + 1 + 1 + 1, 0, none⟩ = some (.int .i32 d5.w) := b5 0 (by omega)
  have q51 : w3.cell? ⟨w.heap.size + 1 + 1 + 1 + 1, 1, none⟩ = some (.int .i32 d5.h) := b5 1 (by omega)
  have q52 : w3.cell? ⟨w.heap.size + 1 + 1 + 1 + 1, 2, none⟩ = some (.int .i32 d5.g) := b5 2 (by omega)
  have q53 : w3.cell? ⟨w.heap.size + 1 + 1 + 1 + 1, 3, none⟩ = some (.int .i32 d5.lw) := b5 3 (by omega)
  have q54 : w3.cell? ⟨w.heap.size + 1 + 1 + 1 + 1, 4, none⟩ = some (.int .i32 d5.lh) := b5 4 (by omega)
  have q55 : w3.cell? ⟨w.heap.size + 1 + 1 + 1 + 1, 5, none⟩ = some (.int .i32 d5.lg) := b5 5 (by omega)
  have q56 : w3.cell? ⟨w.heap.size + 1 + 1 + 1 + 1, 6, none⟩ = some (.int .i32 d5.c) := b5 6 (by omega)
  have q57 : w3.cell? ⟨w.heap.size + 1 + 1 + 1 + 1, 7, none⟩ = some (.int .u32 d5.p) := b5 7 (by omega)
  have hN0 : w.heap.size < w3.heap.size := by omega
  have hN1 : w.heap.size + 1 < w3.heap.size := by omega
  have hN2 : w.heap.size + 1 + 1 < w3.heap.size := by omega
  have hN3 : w.heap.size + 1 + 1 + 1 < w3.heap.size := by omega
  have hN4 : w.heap.size + 1 + 1 + 1 + 1 < w3.heap.size := by omega
  clear n1 n2 n3 n4 n5 b1 b2 b3 b4 b5 hz1
  go_wp2_with fail
  go_region_held3 (fun w' => (∀ b o, b < w3.heap.size → w'.cell? ⟨b, o, none⟩ = w3.cell? ⟨b, o, none⟩) ∧ w3.heap.size ≤ w'.heap.size ∧ Below w.heap.size w w')
    (first | (apply s_next hk; (assumption); (exact ⟨rfl, rfl, rfl, rfl⟩)) | exact ⟨fun _ _ _ => rfl, Nat.le_refl _, ⟨hB3.os, hB3.tape, hB3.output, hB3.size, hB3.block⟩⟩)
    (first
      | (go_at_call 9; refine (kept_same _ _ _ _ _ _ _ _ _ _ _ _ _ _).mono ?_; rintro e wk ⟨rfl, hk⟩)
      | (go_at_call 10; refine (leaf_same _ _ _ _ _ _ _ _ _).mono ?_; rintro e wl ⟨rfl, hk⟩))
  rename_i hE
  go_wp2
  go_ret
  exact ⟨rfl, hE.2.2⟩

set_option maxRecDepth 100000 in
set_option maxHeartbeats 2000000 in
theorem rt_111 (d1 d2 d3 d4 d5 : Dat) (w : World) :
    Calls Yba.prog 4 #[.agg #[.int .i32 d1.w, .int .i32 d1.h, .int .i32 d1.g, .int .i32 d1.lw, .int .i32 d1.lh, .int .i32 d1.lg, .int .i32 d1.c, .int .u32 d1.p], .agg #[.int .i32 d2.w, .int .i32 d2.h, .int .i32 d2.g, .int .i32 d2.lw, .int .i32 d2.lh, .int .i32 d2.lg, .int .i32 d2.c, .int .u32 d2.p], .agg #[.int .i32 d3.w, .int .i32 d3.h, .int .i32 d3.g, .int .i32 d3.lw, .int .i32 d3.lh, .int .i32 d3.lg, .int .i32 d3.c, .int .u32 d3.p], .agg #[.int .i32 d4.w, .int .i32 d4.h, .int .i32 d4.g, .int .i32 d4.lw, .int .i32 d4.lh, .int .i32 d4.lg, .int .i32 d4.c, .int .u32 d4.p], .agg #[.int .i32 d5.w, .int .i32 d5.h, .int .i32 d5.g, .int .i32 d5.lw, .int .i32 d5.lh, .int .i32 d5.lg, .int .i32 d5.c, .int .u32 d5.p], .bool true, .bool true, .bool true] w fun e w' => e = .returned (.bool true) ∧ Below w.heap.size w w' := by
  go_enter Yba.func4, Yba.ntmps4
  go_wp2_with fail
  refine (build_any d1 d2 d3 d4 d5 true true true _).mono ?_
  rintro e w1 ⟨bx, bs, bp, rfl, hb1, z1, z2, z3, z4, hx, hs, n1, n2, n3, n4, n5⟩
  have I : Idx w1 bx bs bp d1 d2 d3 d4 d5 3 2 4 5 := ⟨z4, by omega, by omega, by omega, by omega, hx, hs, n1, n2, n3, n4, n5⟩
  have hB1 : Below w.heap.size w w1 := (((((Below.refl _ w).alloc (Nat.le_refl _) _).alloc (by simp) _).alloc (by first | (simp; done) | (simp; omega)) _).alloc (by first | (simp; done) | (simp; omega)) _).alloc (by first | (simp; done) | (simp; omega)) _ |>.trans (hb1.mono (by first | (simp; done) | (simp; omega)))
  have hz1 : w.heap.size + 5 ≤ bp := by simpa using z1
  obtain ⟨b1, b2, b3, b4, b5⟩ := five w d1 d2 d3 d4 d5 _ rfl
  replace b1 := b1.below hb1 (by first | (simp; done) | (simp; omega))
  replace b2 := b2.below hb1 (by first | (simp; done) | (simp; omega))
  replace b3 := b3.below hb1 (by first | (simp; done) | (simp; omega))
  replace b4 := b4.below hb1 (by first | (simp; done) | (simp; omega))
  replace b5 := b5.below hb1 (by first | (simp; done) | (simp; omega))
  clear hb1 hx hs n1 n2 n3 n4 n5 z1 z2 z3 z4
  go_wp2_with fail
  refine (rotL bx bs bp d1 d2 d3 d4 d5 true true 5 _ I).mono ?_
  rintro e w2 ⟨rfl, hb2, I2⟩
  obtain ⟨x1, y1, u1, e1⟩ := best2_ex d1 (if true then some d3 else none) (if true then some d4 else none)
  rw [e1] at I2
  have hB2 : Below w.heap.size w w2 := hB1.trans (hb2.mono (by omega))
  replace b1 := b1.below hb2 (by omega)
  replace b2 := b2.below hb2 (by omega)
  replace b3 := b3.below hb2 (by omega)
  replace b4 := b4.below hb2 (by omega)
  replace b5 := b5.below hb2 (by omega)
  clear hB1 hb2 e1 I
  go_wp2_with fail
  refine (rotR bx bs bp _ d2 d3 d4 d5 true true 3 _ I2).mono ?_
  rintro e w3 ⟨rfl, hb3, I3⟩
  obtain ⟨x2, y2, u2, e2⟩ := best2_ex d2 (if true then some d4 else none) (if true then some d5 else none)
  rw [e2] at I3
  obtain ⟨zx, zs, zp, -, -, -, -, n1, n2, n3, n4, n5⟩ := I3
  have hB3 : Below w.heap.size w w3 := hB2.trans (hb3.mono (by omega))
  replace b1 := b1.below hb3 (by omega)
  replace b2 := b2.below hb3 (by omega)
  replace b3 := b3.below hb3 (by omega)
  replace b4 := b4.below hb3 (by omega)
  replace b5 := b5.below hb3 (by omega)
  clear hB2 hb3 e2 I2
  have k10 : w3.cell? ⟨bp, 10, none⟩ = some (.int .i32 d1.w) := (n1 0 (by omega)).1
  have k11 : w3.cell? ⟨bp, 11, none⟩ = some (.int .i32 d1.h) := (n1 1 (by omega)).1
  have k12 : w3.cell? ⟨bp, 12, none⟩ = some (.int .i32 d1.g) := (n1 2 (by omega)).1
  have k13 : w3.cell? ⟨bp, 13, none⟩ = some (.int .i32 x1) := (n1 3 (by omega)).1
  have k14 : w3.cell? ⟨bp, 14, none⟩ = some (.int .i32 y1) := (n1 4 (by omega)).1
  have k15 : w3.cell? ⟨bp, 15, none⟩ = some (.int .i32 u1) := (n1 5 (by omega)).1
  have k16 : w3.cell? ⟨bp, 16, none⟩ = some (.int .i32 d1.c) := (n1 6 (by omega)).1
  have k17 : w3.cell? ⟨bp, 17, none⟩ = some (.int .i32 3) := (n1 7 (by omega)).1
  have k18 : w3.cell? ⟨bp, 18, none⟩ = some (.int .i32 2) := (n1 8 (by omega)).1
  have k19 : w3.cell? ⟨bp, 19, none⟩ = some (.int .u32 d1.p) := (n1 9 (by omega)).1
  have k20 : w3.cell? ⟨bp, 20, none⟩ = some (.int .i32 d2.w) := (n2 0 (by omega)).1
  have k21 : w3.cell? ⟨bp, 21, none⟩ = some (.int .i32 d2.h) := (n2 1 (by omega)).1
  have k22 : w3.cell? ⟨bp, 22, none⟩ = some (.int .i32 d2.g) := (n2 2 (by omega)).1
  have k23 : w3.cell? ⟨bp, 23, none⟩ = some (.int .i32 x2) := (n2 3 (by omega)).1
  have k24 : w3.cell? ⟨bp, 24, none⟩ = some (.int .i32 y2) := (n2 4 (by omega)).1
  have k25 : w3.cell? ⟨bp, 25, none⟩ = some (.int .i32 u2) := (n2 5 (by omega)).1
  have k26 : w3.cell? ⟨bp, 26, none⟩ = some (.int .i32 d2.c) := (n2 6 (by omega)).1
  have k27 : w3.cell? ⟨bp, 27, none⟩ = some (.int .i32 4) := (n2 7 (by omega)).1
  have k28 : w3.cell? ⟨bp, 28, none⟩ = some (.int .i32 5) := (n2 8 (by omega)).1
  have k29 : w3.cell? ⟨bp, 29, none⟩ = some (.int .u32 d2.p) := (n2 9 (by omega)).1
  have k30 : w3.cell? ⟨bp, 30, none⟩ = some (.int .i32 d3.w) := (n3 0 (by omega)).1
  have k31 : w3.cell? ⟨bp, 31, none⟩ = some (.int .i32 d3.h) := (n3 1 (by omega)).1
  have k32 : w3.cell? ⟨bp, 32, none⟩ = some (.int .i32 d3.g) := (n3 2 (by omega)).1
  have k33 : w3.cell? ⟨bp, 33, none⟩ = some (.int .i32 d3.lw) := (n3 3 (by omega)).1
  have k34 : w3.cell? ⟨bp, 34, none⟩ = some (.int .i32 d3.lh) := (n3 4 (by omega)).1
  have k35 : w3.cell? ⟨bp, 35, none⟩ = some (.int .i32 d3.lg) := (n3 5 (by omega)).1
  have k36 : w3.cell? ⟨bp, 36, none⟩ = some (.int .i32 d3.c) := (n3 6 (by omega)).1
  have k37 : w3.cell? ⟨bp, 37, none⟩ = some (.int .i32 0) := (n3 7 (by omega)).1
  have k38 : w3.cell? ⟨bp, 38, none⟩ = some (.int .i32 0) := (n3 8 (by omega)).1
  have k39 : w3.cell? ⟨bp, 39, none⟩ = some (.int .u32 d3.p) := (n3 9 (by omega)).1
  have k40 : w3.cell? ⟨bp, 40, none⟩ = some (.int .i32 d4.w) := (n4 0 (by omega)).1
  have k41 : w3.cell? ⟨bp, 41, none⟩ = some (.int .i32 d4.h) := (n4 1 (by omega)).1
  have k42 : w3.cell? ⟨bp, 42, none⟩ = some (.int .i32 d4.g) := (n4 2 (by omega)).1
  have k43 : w3.cell? ⟨bp, 43, none⟩ = some (.int .i32 d4.lw) := (n4 3 (by omega)).1
  have k44 : w3.cell? ⟨bp, 44, none⟩ = some (.int .i32 d4.lh) := (n4 4 (by omega)).1
  have k45 : w3.cell? ⟨bp, 45, none⟩ = some (.int .i32 d4.lg) := (n4 5 (by omega)).1
  have k46 : w3.cell? ⟨bp, 46, none⟩ = some (.int .i32 d4.c) := (n4 6 (by omega)).1
  have k47 : w3.cell? ⟨bp, 47, none⟩ = some (.int .i32 0) := (n4 7 (by omega)).1
  have k48 : w3.cell? ⟨bp, 48, none⟩ = some (.int .i32 0) := (n4 8 (by omega)).1
  have k49 : w3.cell? ⟨bp, 49, none⟩ = some (.int .u32 d4.p) := (n4 9 (by omega)).1
  have k50 : w3.cell? ⟨bp, 50, none⟩ = some (.int .i32 d5.w) := (n5 0 (by omega)).1
  have k51 : w3.cell? ⟨bp, 51, none⟩ = some (.int .i32 d5.h) := (n5 1 (by omega)).1
  have k52 : w3.cell? ⟨bp, 52, none⟩ = some (.int .i32 d5.g) := (n5 2 (by omega)).1
  have k53 : w3.cell? ⟨bp, 53, none⟩ = some (.int .i32 d5.lw) := (n5 3 (by omega)).1
  have k54 : w3.cell? ⟨bp, 54, none⟩ = some (.int .i32 d5.lh) := (n5 4 (by omega)).1
  have k55 : w3.cell? ⟨bp, 55, none⟩ = some (.int .i32 d5.lg) := (n5 5 (by omega)).1
  have k56 : w3.cell? ⟨bp, 56, none⟩ = some (.int .i32 d5.c) := (n5 6 (by omega)).1
  have k57 : w3.cell? ⟨bp, 57, none⟩ = some (.int .i32 0) := (n5 7 (by omega)).1
  have k58 : w3.cell? ⟨bp, 58, none⟩ = some (.int .i32 0) := (n5 8 (by omega)).1
  have k59 : w3.cell? ⟨bp, 59, none⟩ = some (.int .u32 d5.p) := (n5 9 (by omega)).1
  have q10 : w3.cell? ⟨w.heap.size, 0, none⟩ = some (.int .i32 d1.w) := b1 0 (by omega)
  have q11 : w3.cell? ⟨w.heap.size, 1, none⟩ = some (.int .i32 d1.h) := b1 1 (by omega)
  have q12 : w3.cell? ⟨w.heap.size, 2, none⟩ = some (.int .i32 d1.g) := b1 2 (by omega)
  have q13 : w3.cell? ⟨w.heap.size, 3, none⟩ = some (.int .i32 d1.lw) := b1 3 (by omega)
  have q14 : w3.cell? ⟨w.heap.size, 4, none⟩ = some (.int .i32 d1.lh) := b1 4 (by omega)
  have q15 : w3.cell? ⟨w.heap.size, 5, none⟩ = some (.int .i32 d1.lg) := b1 5 (by omega)
  have q16 : w3.cell? ⟨w.heap.size, 6, none⟩ = some (.int .i32 d1.c) := b1 6 (by omega)
  have q17 : w3.cell? ⟨w.heap.size, 7, none⟩ = some (.int .u32 d1.p) := b1 7 (by omega)
  have q20 : w3.cell? ⟨w.heap.size + 1, 0, none⟩ = some (.int .i32 d2.w) := b2 0 (by omega)
  have q21 : w3.cell? ⟨w.heap.size + 1, 1, none⟩ = some (.int .i32 d2.h) := b2 1 (by omega)
  have q22 : w3.cell? ⟨w.heap.size + 1, 2, none⟩ = some (.int .i32 d2.g) := b2 2 (by omega)
  have q23 : w3.cell? ⟨w.heap.size + 1, 3, none⟩ = some (.int .i32 d2.lw) := b2 3 (by omega)
  have q24 : w3.cell? ⟨w.heap.size + 1, 4, none⟩ = some (.int .i32 d2.lh) := b2 4 (by omega)
  have q25 : w3.cell? ⟨w.heap.size + 1, 5, none⟩ = some (.int .i32 d2.lg) := b2 5 (by omega)
  have q26 : w3.cell? ⟨w.heap.size + 1, 6, none⟩ = some (.int .i32 d2.c) := b2 6 (by omega)
  have q27 : w3.cell? ⟨w.heap.size + 1, 7, none⟩ = some (.int .u32 d2.p) := b2 7 (by omega)
  have q30 : w3.cell? ⟨w.heap.size + 1 + 1, 0, none⟩ = some (.int .i32 d3.w) := b3 0 (by omega)
  have q31 : w3.cell? ⟨w.heap.size + 1 + 1, 1, none⟩ = some (.int .i32 d3.h) := b3 1 (by omega)
  have q32 : w3.cell? ⟨w.heap.size + 1 + 1, 2, none⟩ = some (.int .i32 d3.g) := b3 2 (by omega)
  have q33 : w3.cell? ⟨w.heap.size + 1 + 1, 3, none⟩ = some (.int .i32 d3.lw) := b3 3 (by omega)
  have q34 : w3.cell? ⟨w.heap.size + 1 + 1, 4, none⟩ = some (.int .i32 d3.lh) := b3 4 (by omega)
  have q35 : w3.cell? ⟨w.heap.size + 1 + 1, 5, none⟩ = some (.int .i32 d3.lg) := b3 5 (by omega)
  have q36 : w3.cell? ⟨w.heap.size + 1 + 1, 6, none⟩ = some (.int .i32 d3.c) := b3 6 (by omega)
  have q37 : w3.cell? ⟨w.heap.size + 1 + 1, 7, none⟩ = some (.int .u32 d3.p) := b3 7 (by omega)
  have q40 : w3.cell? ⟨w.heap.size + 1 + 1 + 1, 0, none⟩ = some (.int .i32 d4.w) := b4 0 (by omega)
  have q41 : w3.cell? ⟨w.heap.size + 1 + 1 + 1, 1, none⟩ = some (.int .i32 d4.h) := b4 1 (by omega)
  have q42 : w3.cell? ⟨w.heap.size + 1 + 1 + 1, 2, none⟩ = some (.int .i32 d4.g) := b4 2 (by omega)
  have q43 : w3.cell? ⟨w.heap.size + 1 + 1 + 1, 3, none⟩ = some (.int .i32 d4.lw) := b4 3 (by omega)
  have q44 : w3.cell? ⟨w.heap.size + 1 + 1 + 1, 4, none⟩ = some (.int .i32 d4.lh) := b4 4 (by omega)
  have q45 : w3.cell? ⟨w.heap.size + 1 + 1 + 1, 5, none⟩ = some (.int .i32 d4.lg) := b4 5 (by omega)
  have q46 : w3.cell? ⟨w.heap.size + 1 + 1 + 1, 6, none⟩ = some (.int .i32 d4.c) := b4 6 (by omega)
  have q47 : w3.cell? ⟨w.heap.size + 1 + 1 + 1, 7, none⟩ = some (.int .u32 d4.p) := b4 7 (by omega)
  have q50 : w3.cell? ⟨w.heap.size + 1 + 1 + 1 + 1, 0, none⟩ = some (.int .i32 d5.w) := b5 0 (by omega)
  have q51 : w3.cell? ⟨w.heap.size + 1 + 1 + 1 + 1, 1, none⟩ = some (.int .i32 d5.h) := b5 1 (by omega)
  have q52 : w3.cell? ⟨w.heap.size + 1 + 1 + 1 + 1, 2, none⟩ = some (.int .i32 d5.g) := b5 2 (by omega)
  have q53 : w3.cell? ⟨w.heap.size + 1 + 1 + 1 + 1, 3, none⟩ = some (.int .i32 d5.lw) := b5 3 (by omega)
  have q54 : w3.cell? ⟨w.heap.size + 1 + 1 + 1 + 1, 4, none⟩ = some (.int .i32 d5.lh) := b5 4 (by omega)
  have q55 : w3.cell? ⟨w.heap.size + 1 + 1 + 1 + 1, 5, none⟩ = some (.int .i32 d5.lg) := b5 5 (by omega)
  have q56 : w3.cell? ⟨w.heap.size + 1 + 1 + 1 + 1, 6, none⟩ = some (.int .i32 d5.c) := b5 6 (by omega)
  have q57 : w3.cell? ⟨w.heap.size + 1 + 1 + 1 + 1, 7, none⟩ = some (.int .u32 d5.p) := b5 7 (by omega)
  have hN0 : w.heap.size < w3.heap.size := by omega
  have hN1 : w.heap.size + 1 < w3.heap.size := by omega
  have hN2 : w.heap.size + 1 + 1 < w3.heap.size := by omega
  have hN3 : w.heap.size + 1 + 1 + 1 < w3.heap.size := by omega
  have hN4 : w.heap.size + 1 + 1 + 1 + 1 < w3.heap.size := by omega
  clear n1 n2 n3 n4 n5 b1 b2 b3 b4 b5 hz1
  go_wp2_with fail
  go_region_held3 (fun w' => (∀ b o, b < w3.heap.size → w'.cell? ⟨b, o, none⟩ = w3.cell? ⟨b, o, none⟩) ∧ w3.heap.size ≤ w'.heap.size ∧ Below w.heap.size w w')
    (first | (apply s_next hk; (assumption); (exact ⟨rfl, rfl, rfl, rfl⟩)) | exact ⟨fun _ _ _ => rfl, Nat.le_refl _, ⟨hB3.os, hB3.tape, hB3.output, hB3.size, hB3.block⟩⟩)
    (first
      | (go_at_call 9; refine (kept_same _ _ _ _ _ _ _ _ _ _ _ _ _ _).mono ?_; rintro e wk ⟨rfl, hk⟩)
      | (go_at_call 10; refine (leaf_same _ _ _ _ _ _ _ _ _).mono ?_; rintro e wl ⟨rfl, hk⟩))
  rename_i hE
  go_wp2
  go_ret
  exact ⟨rfl, hE.2.2⟩

end Go.Proofs.Ybulkjqw
