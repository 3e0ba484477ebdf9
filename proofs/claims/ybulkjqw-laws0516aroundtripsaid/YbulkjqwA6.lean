import Derived.Test.YbulkjqwA5
namespace Go.Proofs.Ybulkjqw
open Go.RowKit
set_option linter.unusedSimpArgs false
set_option linter.unusedVariables false

set_option maxHeartbeats 1000000 in
theorem update_200 (bx bs bp : Nat) (d da db : Dat) (aL aR bL bR : Int) (w : World) (hbx : bx < w.heap.size) (hbs : bs < w.heap.size) (hbp : bp < w.heap.size) (hne1 : bp ≠ bx) (hne2 : bp ≠ bs)
    (hx : w.cell? ⟨bx, 1, none⟩ = some (.slice (some ⟨bs, 0, none⟩) 1 1)) (hs : w.cell? ⟨bs, 0, none⟩ = some (.pointer (some ⟨bp, 0, none⟩)))
    (hn : IsNd w bp 2 (d.nd 0 0)) (ha : IsNd w bp 3 (da.nd aL aR)) (hb : IsNd w bp 4 (db.nd bL bR)) :
    Calls Yba.prog 16 #[.pointer (some ⟨bx, 0, none⟩), .int .i32 2] w fun e w' => e = .returned (.tuple #[]) ∧ Chg bp (fun b o => b = bp ∧ 2 * 10 + 3 ≤ o ∧ o < 2 * 10 + 6) w w' ∧
      IsNd w' bp 2 ((best2 d none none).nd 0 0) := by
  obtain ⟨n0, fn0⟩ : w.cell? ⟨bp, 20, none⟩ = some (.int .i32 d.w) ∧ w.frozen? ⟨bp, 20, none⟩ = false := hn 0 (by omega)
  obtain ⟨n1, fn1⟩ : w.cell? ⟨bp, 21, none⟩ = some (.int .i32 d.h) ∧ w.frozen? ⟨bp, 21, none⟩ = false := hn 1 (by omega)
  obtain ⟨n2, fn2⟩ : w.cell? ⟨bp, 22, none⟩ = some (.int .i32 d.g) ∧ w.frozen? ⟨bp, 22, none⟩ = false := hn 2 (by omega)
  obtain ⟨n3, fn3⟩ : w.cell? ⟨bp, 23, none⟩ = some (.int .i32 d.lw) ∧ w.frozen? ⟨bp, 23, none⟩ = false := hn 3 (by omega)
  obtain ⟨n4, fn4⟩ : w.cell? ⟨bp, 24, none⟩ = some (.int .i32 d.lh) ∧ w.frozen? ⟨bp, 24, none⟩ = false := hn 4 (by omega)
  obtain ⟨n5, fn5⟩ : w.cell? ⟨bp, 25, none⟩ = some (.int .i32 d.lg) ∧ w.frozen? ⟨bp, 25, none⟩ = false := hn 5 (by omega)
  obtain ⟨n7, fn7⟩ : w.cell? ⟨bp, 27, none⟩ = some (.int .i32 0) ∧ w.frozen? ⟨bp, 27, none⟩ = false := hn 7 (by omega)
  obtain ⟨n8, fn8⟩ : w.cell? ⟨bp, 28, none⟩ = some (.int .i32 0) ∧ w.frozen? ⟨bp, 28, none⟩ = false := hn 8 (by omega)
  clear ha hb
  go_enter Yba.func16, Yba.ntmps16
  go_wp2_with (go_at_call 15; refine (node_any bx bs bp _ _ (by omega) (by omega) (by simp [World.cell?_setCell_other, *]) (by simp [World.cell?_setCell_other, *])).mono ?_; rintro e w' ⟨rfl, rfl⟩)
  go_quiet (fail)
  go_wp2
  go_quiet (fail)
  go_wp2
  go_end0
  refine ⟨rfl, and_self_of ((((((Chg.refl bp (fun b o => b = bp ∧ 2 * 10 + 3 ≤ o ∧ o < 2 * 10 + 6) w).setCell (b := bp) (o := 23) (Nat.le_refl _) (fun _ => ⟨rfl, by omega, by omega⟩) (.int .i32 d.w)).setCell (b := bp) (o := 24) (Nat.le_refl _) (fun _ => ⟨rfl, by omega, by omega⟩) (.int .i32 d.h)).setCell (b := bp) (o := 25) (Nat.le_refl _) (fun _ => ⟨rfl, by omega, by omega⟩) (.int .i32 d.g)).drewN _).drewN _) fun C => ?_⟩
  have E := hn.least (x := d.w) (y := d.h) (z := d.g) hbp C (by simp (maxDischargeDepth := 8) [World.cell?_setCell_other, World.cell?_setCell_same', *]) (by simp (maxDischargeDepth := 8) [World.cell?_setCell_other, World.cell?_setCell_same', *]) (by simp (maxDischargeDepth := 8) [World.cell?_setCell_other, World.cell?_setCell_same', *])
  have e : best2 d none none = { d with lw := d.w, lh := d.h, lg := d.g } := by simp [best2, best1]
  rw [e]; exact E

set_option maxHeartbeats 1000000 in
theorem update_240 (bx bs bp : Nat) (d da db : Dat) (aL aR bL bR : Int) (w : World) (hbx : bx < w.heap.size) (hbs : bs < w.heap.size) (hbp : bp < w.heap.size) (hne1 : bp ≠ bx) (hne2 : bp ≠ bs)
    (hx : w.cell? ⟨bx, 1, none⟩ = some (.slice (some ⟨bs, 0, none⟩) 1 1)) (hs : w.cell? ⟨bs, 0, none⟩ = some (.pointer (some ⟨bp, 0, none⟩)))
    (hn : IsNd w bp 2 (d.nd 4 0)) (ha : IsNd w bp 4 (da.nd aL aR)) (hb : IsNd w bp 4 (db.nd bL bR)) :
    Calls Yba.prog 16 #[.pointer (some ⟨bx, 0, none⟩), .int .i32 2] w fun e w' => e = .returned (.tuple #[]) ∧ Chg bp (fun b o => b = bp ∧ 2 * 10 + 3 ≤ o ∧ o < 2 * 10 + 6) w w' ∧
      IsNd w' bp 2 ((best2 d (some da) none).nd 4 0) := by
  obtain ⟨n0, fn0⟩ : w.cell? ⟨bp, 20, none⟩ = some (.int .i32 d.w) ∧ w.frozen? ⟨bp, 20, none⟩ = false := hn 0 (by omega)
  obtain ⟨n1, fn1⟩ : w.cell? ⟨bp, 21, none⟩ = some (.int .i32 d.h) ∧ w.frozen? ⟨bp, 21, none⟩ = false := hn 1 (by omega)
  obtain ⟨n2, fn2⟩ : w.cell? ⟨bp, 22, none⟩ = some (.int .i32 d.g) ∧ w.frozen? ⟨bp, 22, none⟩ = false := hn 2 (by omega)
  obtain ⟨n3, fn3⟩ : w.cell? ⟨bp, 23, none⟩ = some (.int .i32 d.lw) ∧ w.frozen? ⟨bp, 23, none⟩ = false := hn 3 (by omega)
  obtain ⟨n4, fn4⟩ : w.cell? ⟨bp, 24, none⟩ = some (.int .i32 d.lh) ∧ w.frozen? ⟨bp, 24, none⟩ = false := hn 4 (by omega)
  obtain ⟨n5, fn5⟩ : w.cell? ⟨bp, 25, none⟩ = some (.int .i32 d.lg) ∧ w.frozen? ⟨bp, 25, none⟩ = false := hn 5 (by omega)
  obtain ⟨n7, fn7⟩ : w.cell? ⟨bp, 27, none⟩ = some (.int .i32 4) ∧ w.frozen? ⟨bp, 27, none⟩ = false := hn 7 (by omega)
  obtain ⟨n8, fn8⟩ : w.cell? ⟨bp, 28, none⟩ = some (.int .i32 0) ∧ w.frozen? ⟨bp, 28, none⟩ = false := hn 8 (by omega)
  have a3 : w.cell? ⟨bp, 43, none⟩ = some (.int .i32 da.lw) := (ha 3 (by omega)).1
  have a4 : w.cell? ⟨bp, 44, none⟩ = some (.int .i32 da.lh) := (ha 4 (by omega)).1
  have a5 : w.cell? ⟨bp, 45, none⟩ = some (.int .i32 da.lg) := (ha 5 (by omega)).1
  clear ha hb
  go_enter Yba.func16, Yba.ntmps16
  go_wp2_with (go_at_call 15; refine (node_any bx bs bp _ _ (by omega) (by omega) (by simp [World.cell?_setCell_other, *]) (by simp [World.cell?_setCell_other, *])).mono ?_; rintro e w' ⟨rfl, rfl⟩)
  go_region_held3 (fun w' => w'.cell? ⟨bx, 1, none⟩ = some (.slice (some ⟨bs, 0, none⟩) 1 1) ∧ w'.cell? ⟨bs, 0, none⟩ = some (.pointer (some ⟨bp, 0, none⟩)) ∧ w'.cell? ⟨bp, 27, none⟩ = some (.int .i32 4) ∧ w'.cell? ⟨bp, 23, none⟩ = some (.int .i32 d.w) ∧ w'.cell? ⟨bp, 24, none⟩ = some (.int .i32 d.h) ∧ w'.cell? ⟨bp, 25, none⟩ = some (.int .i32 d.g) ∧ w'.cell? ⟨bp, 43, none⟩ = some (.int .i32 da.lw) ∧ w'.cell? ⟨bp, 44, none⟩ = some (.int .i32 da.lh) ∧ w'.cell? ⟨bp, 45, none⟩ = some (.int .i32 da.lg) ∧ w'.cell? ⟨bp, 28, none⟩ = some (.int .i32 0))
    (simp (maxDischargeDepth := 8) [World.cell?_setCell_other, World.cell?_setCell_same', *])
    (first
      | (go_at_call 15; refine (node_any bx bs bp _ _ (by omega) (by omega) (by simp [World.cell?_setCell_other, *]) (by simp [World.cell?_setCell_other, *])).mono ?_; rintro e w' ⟨rfl, rfl⟩)
      | (go_at_call 19; refine (leaves_any _ _ _ _ _ _ _).mono ?_; rintro e w2 ⟨rfl, hb2⟩; obtain ⟨hc2, hf2⟩ := bcell hb2; try simp only [World.size_drew, World.cell?_drew, World.frozen?_drew, World.size_setCell, World.cell?_drewN, World.frozen?_drewN, World.heap_drewN] at hc2 hf2))
  rename_i hH2
  clear hc2 hf2
  obtain ⟨g2_0, g2_1, g2_2, g2_3, g2_4, g2_5, g2_6, g2_7, g2_8, g2_9⟩ := hH2
  have c2 := ((((Chg.refl bp (fun b o => b = bp ∧ 2 * 10 + 3 ≤ o ∧ o < 2 * 10 + 6) w).setCell (b := bp) (o := 23) (Nat.le_refl _) (fun _ => ⟨rfl, by omega, by omega⟩) (.int .i32 d.w)).setCell (b := bp) (o := 24) (Nat.le_refl _) (fun _ => ⟨rfl, by omega, by omega⟩) (.int .i32 d.h)).setCell (b := bp) (o := 25) (Nat.le_refl _) (fun _ => ⟨rfl, by omega, by omega⟩) (.int .i32 d.g)).drew.over (by simp; omega) hb2
  have zx : bx < w2.heap.size := Nat.lt_of_lt_of_le hbx c2.size
  have zs : bs < w2.heap.size := Nat.lt_of_lt_of_le hbs c2.size
  have zp : bp < w2.heap.size := Nat.lt_of_lt_of_le hbp c2.size
  have q3 := (c2.frozen bp 23 hbp).trans fn3
  have q4 := (c2.frozen bp 24 hbp).trans fn4
  have q5 := (c2.frozen bp 25 hbp).trans fn5
  go_wp2_with (go_at_call 15; refine (node_any bx bs bp _ _ (by omega) (by omega) (by simp [World.cell?_setCell_other, *]) (by simp [World.cell?_setCell_other, *])).mono ?_; rintro e w' ⟨rfl, rfl⟩)
  · have h1 : lessB da.lw da.lh da.lg d.w d.h d.g = true := by assumption
    go_quiet (fail)
    go_wp2
    go_end0
    refine ⟨rfl, and_self_of ((((c2.setCell (b := bp) (o := 23) (Nat.le_refl _) (fun _ => ⟨rfl, by omega, by omega⟩) (.int .i32 da.lw)).setCell (b := bp) (o := 24) (Nat.le_refl _) (fun _ => ⟨rfl, by omega, by omega⟩) (.int .i32 da.lh)).setCell (b := bp) (o := 25) (Nat.le_refl _) (fun _ => ⟨rfl, by omega, by omega⟩) (.int .i32 da.lg)).drewN _) fun C => ?_⟩
    have E := hn.least (x := da.lw) (y := da.lh) (z := da.lg) hbp C (by simp (maxDischargeDepth := 8) [World.cell?_setCell_other, World.cell?_setCell_same', *]) (by simp (maxDischargeDepth := 8) [World.cell?_setCell_other, World.cell?_setCell_same', *]) (by simp (maxDischargeDepth := 8) [World.cell?_setCell_other, World.cell?_setCell_same', *])
    have e : best2 d (some da) none = { d with lw := da.lw, lh := da.lh, lg := da.lg } := by simp [best2, best1, h1]
    rw [e]; exact E
  · have h1 : lessB da.lw da.lh da.lg d.w d.h d.g = false := by assumption
    go_quiet (fail)
    go_wp2
    go_end0
    refine ⟨rfl, and_self_of ((c2).drewN _) fun C => ?_⟩
    have E := hn.least (x := d.w) (y := d.h) (z := d.g) hbp C (by simp (maxDischargeDepth := 8) [World.cell?_setCell_other, World.cell?_setCell_same', *]) (by simp (maxDischargeDepth := 8) [World.cell?_setCell_other, World.cell?_setCell_same', *]) (by simp (maxDischargeDepth := 8) [World.cell?_setCell_other, World.cell?_setCell_same', *])
    have e : best2 d (some da) none = { d with lw := d.w, lh := d.h, lg := d.g } := by simp [best2, best1, h1]
    rw [e]; exact E

set_option maxHeartbeats 1000000 in
theorem update_205 (bx bs bp : Nat) (d da db : Dat) (aL aR bL bR : Int) (w : World) (hbx : bx < w.heap.size) (hbs : bs < w.heap.size) (hbp : bp < w.heap.size) (hne1 : bp ≠ bx) (hne2 : bp ≠ bs)
    (hx : w.cell? ⟨bx, 1, none⟩ = some (.slice (some ⟨bs, 0, none⟩) 1 1)) (hs : w.cell? ⟨bs, 0, none⟩ = some (.pointer (some ⟨bp, 0, none⟩)))
    (hn : IsNd w bp 2 (d.nd 0 5)) (ha : IsNd w bp 3 (da.nd aL aR)) (hb : IsNd w bp 5 (db.nd bL bR)) :
    Calls Yba.prog 16 #[.pointer (some ⟨bx, 0, none⟩), .int .i32 2] w fun e w' => e = .returned (.tuple #[]) ∧ Chg bp (fun b o => b = bp ∧ 2 * 10 + 3 ≤ o ∧ o < 2 * 10 + 6) w w' ∧
      IsNd w' bp 2 ((best2 d none (some db)).nd 0 5) := by
  obtain ⟨n0, fn0⟩ : w.cell? ⟨bp, 20, none⟩ = some (.int .i32 d.w) ∧ w.frozen? ⟨bp, 20, none⟩ = false := hn 0 (by omega)
  obtain ⟨n1, fn1⟩ : w.cell? ⟨bp, 21, none⟩ = some (.int .i32 d.h) ∧ w.frozen? ⟨bp, 21, none⟩ = false := hn 1 (by omega)
  obtain ⟨n2, fn2⟩ : w.cell? ⟨bp, 22, none⟩ = some (.int .i32 d.g) ∧ w.frozen? ⟨bp, 22, none⟩ = false := hn 2 (by omega)
  obtain ⟨n3, fn3⟩ : w.cell? ⟨bp, 23, none⟩ = some (.int .i32 d.lw) ∧ w.frozen? ⟨bp, 23, none⟩ = false := hn 3 (by omega)
  obtain ⟨n4, fn4⟩ : w.cell? ⟨bp, 24, none⟩ = some (.int .i32 d.lh) ∧ w.frozen? ⟨bp, 24, none⟩ = false := hn 4 (by omega)
  obtain ⟨n5, fn5⟩ : w.cell? ⟨bp, 25, none⟩ = some (.int .i32 d.lg) ∧ w.frozen? ⟨bp, 25, none⟩ = false := hn 5 (by omega)
  obtain ⟨n7, fn7⟩ : w.cell? ⟨bp, 27, none⟩ = some (.int .i32 0) ∧ w.frozen? ⟨bp, 27, none⟩ = false := hn 7 (by omega)
  obtain ⟨n8, fn8⟩ : w.cell? ⟨bp, 28, none⟩ = some (.int .i32 5) ∧ w.frozen? ⟨bp, 28, none⟩ = false := hn 8 (by omega)
  have b3 : w.cell? ⟨bp, 53, none⟩ = some (.int .i32 db.lw) := (hb 3 (by omega)).1
  have b4 : w.cell? ⟨bp, 54, none⟩ = some (.int .i32 db.lh) := (hb 4 (by omega)).1
  have b5 : w.cell? ⟨bp, 55, none⟩ = some (.int .i32 db.lg) := (hb 5 (by omega)).1
  clear ha hb
  go_enter Yba.func16, Yba.ntmps16
  go_wp2_with (go_at_call 15; refine (node_any bx bs bp _ _ (by omega) (by omega) (by simp [World.cell?_setCell_other, *]) (by simp [World.cell?_setCell_other, *])).mono ?_; rintro e w' ⟨rfl, rfl⟩)
  go_quiet (fail)
  go_wp2
  go_region_held3 (fun w' => w'.cell? ⟨bx, 1, none⟩ = some (.slice (some ⟨bs, 0, none⟩) 1 1) ∧ w'.cell? ⟨bs, 0, none⟩ = some (.pointer (some ⟨bp, 0, none⟩)) ∧ w'.cell? ⟨bp, 28, none⟩ = some (.int .i32 5) ∧ w'.cell? ⟨bp, 23, none⟩ = some (.int .i32 d.w) ∧ w'.cell? ⟨bp, 24, none⟩ = some (.int .i32 d.h) ∧ w'.cell? ⟨bp, 25, none⟩ = some (.int .i32 d.g) ∧ w'.cell? ⟨bp, 53, none⟩ = some (.int .i32 db.lw) ∧ w'.cell? ⟨bp, 54, none⟩ = some (.int .i32 db.lh) ∧ w'.cell? ⟨bp, 55, none⟩ = some (.int .i32 db.lg))
    (simp (maxDischargeDepth := 8) [World.cell?_setCell_other, World.cell?_setCell_same', *])
    (first
      | (go_at_call 15; refine (node_any bx bs bp _ _ (by omega) (by omega) (by simp [World.cell?_setCell_other, *]) (by simp [World.cell?_setCell_other, *])).mono ?_; rintro e w' ⟨rfl, rfl⟩)
      | (go_at_call 19; refine (leaves_any _ _ _ _ _ _ _).mono ?_; rintro e w3 ⟨rfl, hb3⟩; obtain ⟨hc3, hf3⟩ := bcell hb3; try simp only [World.size_drew, World.cell?_drew, World.frozen?_drew, World.size_setCell, World.cell?_drewN, World.frozen?_drewN, World.heap_drewN] at hc3 hf3))
  rename_i hH3
  clear hc3 hf3
  obtain ⟨g3_0, g3_1, g3_2, g3_3, g3_4, g3_5, g3_6, g3_7, g3_8⟩ := hH3
  have c3 := (((((Chg.refl bp (fun b o => b = bp ∧ 2 * 10 + 3 ≤ o ∧ o < 2 * 10 + 6) w).setCell (b := bp) (o := 23) (Nat.le_refl _) (fun _ => ⟨rfl, by omega, by omega⟩) (.int .i32 d.w)).setCell (b := bp) (o := 24) (Nat.le_refl _) (fun _ => ⟨rfl, by omega, by omega⟩) (.int .i32 d.h)).setCell (b := bp) (o := 25) (Nat.le_refl _) (fun _ => ⟨rfl, by omega, by omega⟩) (.int .i32 d.g)).drewN _).drew.over (by simp; omega) hb3
  have q3 := (c3.frozen bp 23 hbp).trans fn3
  have q4 := (c3.frozen bp 24 hbp).trans fn4
  have q5 := (c3.frozen bp 25 hbp).trans fn5
  go_wp2_with (go_at_call 15; refine (node_any bx bs bp _ _ (by omega) (by omega) (by simp [World.cell?_setCell_other, *]) (by simp [World.cell?_setCell_other, *])).mono ?_; rintro e w' ⟨rfl, rfl⟩)
  · have h2 : lessB db.lw db.lh db.lg d.w d.h d.g = true := by assumption
    go_end0
    refine ⟨rfl, and_self_of (((c3.setCell (b := bp) (o := 23) (Nat.le_refl _) (fun _ => ⟨rfl, by omega, by omega⟩) (.int .i32 db.lw)).setCell (b := bp) (o := 24) (Nat.le_refl _) (fun _ => ⟨rfl, by omega, by omega⟩) (.int .i32 db.lh)).setCell (b := bp) (o := 25) (Nat.le_refl _) (fun _ => ⟨rfl, by omega, by omega⟩) (.int .i32 db.lg)) fun C => ?_⟩
    have E := hn.least (x := db.lw) (y := db.lh) (z := db.lg) hbp C (by simp (maxDischargeDepth := 8) [World.cell?_setCell_other, World.cell?_setCell_same', *]) (by simp (maxDischargeDepth := 8) [World.cell?_setCell_other, World.cell?_setCell_same', *]) (by simp (maxDischargeDepth := 8) [World.cell?_setCell_other, World.cell?_setCell_same', *])
    have e : best2 d none (some db) = { d with lw := db.lw, lh := db.lh, lg := db.lg } := by simp [best2, best1, h2]
    rw [e]; exact E
  · have h2 : lessB db.lw db.lh db.lg d.w d.h d.g = false := by assumption
    go_end0
    refine ⟨rfl, and_self_of (c3) fun C => ?_⟩
    have E := hn.least (x := d.w) (y := d.h) (z := d.g) hbp C (by simp (maxDischargeDepth := 8) [World.cell?_setCell_other, World.cell?_setCell_same', *]) (by simp (maxDischargeDepth := 8) [World.cell?_setCell_other, World.cell?_setCell_same', *]) (by simp (maxDischargeDepth := 8) [World.cell?_setCell_other, World.cell?_setCell_same', *])
    have e : best2 d none (some db) = { d with lw := d.w, lh := d.h, lg := d.g } := by simp [best2, best1, h2]
    rw [e]; exact E

set_option maxHeartbeats 1000000 in
theorem update_245 (bx bs bp : Nat) (d da db : Dat) (aL aR bL bR : Int) (w : World) (hbx : bx < w.heap.size) (hbs : bs < w.heap.size) (hbp : bp < w.heap.size) (hne1 : bp ≠ bx) (hne2 : bp ≠ bs)
    (hx : w.cell? ⟨bx, 1, none⟩ = some (.slice (some ⟨bs, 0, none⟩) 1 1)) (hs : w.cell? ⟨bs, 0, none⟩ = some (.pointer (some ⟨bp, 0, none⟩)))
    (hn : IsNd w bp 2 (d.nd 4 5)) (ha : IsNd w bp 4 (da.nd aL aR)) (hb : IsNd w bp 5 (db.nd bL bR)) :
    Calls Yba.prog 16 #[.pointer (some ⟨bx, 0, none⟩), .int .i32 2] w fun e w' => e = .returned (.tuple #[]) ∧ Chg bp (fun b o => b = bp ∧ 2 * 10 + 3 ≤ o ∧ o < 2 * 10 + 6) w w' ∧
      IsNd w' bp 2 ((best2 d (some da) (some db)).nd 4 5) := by
  obtain ⟨n0, fn0⟩ : w.cell? ⟨bp, 20, none⟩ = some (.int .i32 d.w) ∧ w.frozen? ⟨bp, 20, none⟩ = false := hn 0 (by omega)
  obtain ⟨n1, fn1⟩ : w.cell? ⟨bp, 21, none⟩ = some (.int .i32 d.h) ∧ w.frozen? ⟨bp, 21, none⟩ = false := hn 1 (by omega)
  obtain ⟨n2, fn2⟩ : w.cell? ⟨bp, 22, none⟩ = some (.int .i32 d.g) ∧ w.frozen? ⟨bp, 22, none⟩ = false := hn 2 (by omega)
  obtain ⟨n3, fn3⟩ : w.cell? ⟨bp, 23, none⟩ = some (.int .i32 d.lw) ∧ w.frozen? ⟨bp, 23, none⟩ = false := hn 3 (by omega)
  obtain ⟨n4, fn4⟩ : w.cell? ⟨bp, 24, none⟩ = some (.int .i32 d.lh) ∧ w.frozen? ⟨bp, 24, none⟩ = false := hn 4 (by omega)
  obtain ⟨n5, fn5⟩ : w.cell? ⟨bp, 25, none⟩ = some (.int .i32 d.lg) ∧ w.frozen? ⟨bp, 25, none⟩ = false := hn 5 (by omega)
  obtain ⟨n7, fn7⟩ : w.cell? ⟨bp, 27, none⟩ = some (.int .i32 4) ∧ w.frozen? ⟨bp, 27, none⟩ = false := hn 7 (by omega)
  obtain ⟨n8, fn8⟩ : w.cell? ⟨bp, 28, none⟩ = some (.int .i32 5) ∧ w.frozen? ⟨bp, 28, none⟩ = false := hn 8 (by omega)
  have a3 : w.cell? ⟨bp, 43, none⟩ = some (.int .i32 da.lw) := (ha 3 (by omega)).1
  have a4 : w.cell? ⟨bp, 44, none⟩ = some (.int .i32 da.lh) := (ha 4 (by omega)).1
  have a5 : w.cell? ⟨bp, 45, none⟩ = some (.int .i32 da.lg) := (ha 5 (by omega)).1
  have b3 : w.cell? ⟨bp, 53, none⟩ = some (.int .i32 db.lw) := (hb 3 (by omega)).1
  have b4 : w.cell? ⟨bp, 54, none⟩ = some (.int .i32 db.lh) := (hb 4 (by omega)).1
  have b5 : w.cell? ⟨bp, 55, none⟩ = some (.int .i32 db.lg) := (hb 5 (by omega)).1
  clear ha hb
  go_enter Yba.func16, Yba.ntmps16
  go_wp2_with (go_at_call 15; refine (node_any bx bs bp _ _ (by omega) (by omega) (by simp [World.cell?_setCell_other, *]) (by simp [World.cell?_setCell_other, *])).mono ?_; rintro e w' ⟨rfl, rfl⟩)
  go_region_held3 (fun w' => w'.cell? ⟨bx, 1, none⟩ = some (.slice (some ⟨bs, 0, none⟩) 1 1) ∧ w'.cell? ⟨bs, 0, none⟩ = some (.pointer (some ⟨bp, 0, none⟩)) ∧ w'.cell? ⟨bp, 27, none⟩ = some (.int .i32 4) ∧ w'.cell? ⟨bp, 23, none⟩ = some (.int .i32 d.w) ∧ w'.cell? ⟨bp, 24, none⟩ = some (.int .i32 d.h) ∧ w'.cell? ⟨bp, 25, none⟩ = some (.int .i32 d.g) ∧ w'.cell? ⟨bp, 43, none⟩ = some (.int .i32 da.lw) ∧ w'.cell? ⟨bp, 44, none⟩ = some (.int .i32 da.lh) ∧ w'.cell? ⟨bp, 45, none⟩ = some (.int .i32 da.lg) ∧ w'.cell? ⟨bp, 28, none⟩ = some (.int .i32 5) ∧ w'.cell? ⟨bp, 53, none⟩ = some (.int .i32 db.lw) ∧ w'.cell? ⟨bp, 54, none⟩ = some (.int .i32 db.lh) ∧ w'.cell? ⟨bp, 55, none⟩ = some (.int .i32 db.lg))
    (simp (maxDischargeDepth := 8) [World.cell?_setCell_other, World.cell?_setCell_same', *])
    (first
      | (go_at_call 15; refine (node_any bx bs bp _ _ (by omega) (by omega) (by simp [World.cell?_setCell_other, *]) (by simp [World.cell?_setCell_other, *])).mono ?_; rintro e w' ⟨rfl, rfl⟩)
      | (go_at_call 19; refine (leaves_any _ _ _ _ _ _ _).mono ?_; rintro e w2 ⟨rfl, hb2⟩; obtain ⟨hc2, hf2⟩ := bcell hb2; try simp only [World.size_drew, World.cell?_drew, World.frozen?_drew, World.size_setCell, World.cell?_drewN, World.frozen?_drewN, World.heap_drewN] at hc2 hf2))
  rename_i hH2
  clear hc2 hf2
  obtain ⟨g2_0, g2_1, g2_2, g2_3, g2_4, g2_5, g2_6, g2_7, g2_8, g2_9, g2_10, g2_11, g2_12⟩ := hH2
  have c2 := ((((Chg.refl bp (fun b o => b = bp ∧ 2 * 10 + 3 ≤ o ∧ o < 2 * 10 + 6) w).setCell (b := bp) (o := 23) (Nat.le_refl _) (fun _ => ⟨rfl, by omega, by omega⟩) (.int .i32 d.w)).setCell (b := bp) (o := 24) (Nat.le_refl _) (fun _ => ⟨rfl, by omega, by omega⟩) (.int .i32 d.h)).setCell (b := bp) (o := 25) (Nat.le_refl _) (fun _ => ⟨rfl, by omega, by omega⟩) (.int .i32 d.g)).drew.over (by simp; omega) hb2
  have zx : bx < w2.heap.size := Nat.lt_of_lt_of_le hbx c2.size
  have zs : bs < w2.heap.size := Nat.lt_of_lt_of_le hbs c2.size
  have zp : bp < w2.heap.size := Nat.lt_of_lt_of_le hbp c2.size
  have q3 := (c2.frozen bp 23 hbp).trans fn3
  have q4 := (c2.frozen bp 24 hbp).trans fn4
  have q5 := (c2.frozen bp 25 hbp).trans fn5
  go_wp2_with (go_at_call 15; refine (node_any bx bs bp _ _ (by omega) (by omega) (by simp [World.cell?_setCell_other, *]) (by simp [World.cell?_setCell_other, *])).mono ?_; rintro e w' ⟨rfl, rfl⟩)
  · have h1 : lessB da.lw da.lh da.lg d.w d.h d.g = true := by assumption
    go_region_held3 (fun w' => w'.cell? ⟨bx, 1, none⟩ = some (.slice (some ⟨bs, 0, none⟩) 1 1) ∧ w'.cell? ⟨bs, 0, none⟩ = some (.pointer (some ⟨bp, 0, none⟩)) ∧ w'.cell? ⟨bp, 28, none⟩ = some (.int .i32 5) ∧ w'.cell? ⟨bp, 23, none⟩ = some (.int .i32 da.lw) ∧ w'.cell? ⟨bp, 24, none⟩ = some (.int .i32 da.lh) ∧ w'.cell? ⟨bp, 25, none⟩ = some (.int .i32 da.lg) ∧ w'.cell? ⟨bp, 53, none⟩ = some (.int .i32 db.lw) ∧ w'.cell? ⟨bp, 54, none⟩ = some (.int .i32 db.lh) ∧ w'.cell? ⟨bp, 55, none⟩ = some (.int .i32 db.lg))
      (simp (maxDischargeDepth := 8) [World.cell?_setCell_other, World.cell?_setCell_same', *])
      (first
        | (go_at_call 15; refine (node_any bx bs bp _ _ (by omega) (by omega) (by simp [World.cell?_setCell_other, *]) (by simp [World.cell?_setCell_other, *])).mono ?_; rintro e w' ⟨rfl, rfl⟩)
        | (go_at_call 19; refine (leaves_any _ _ _ _ _ _ _).mono ?_; rintro e w3 ⟨rfl, hb3⟩; obtain ⟨hc3, hf3⟩ := bcell hb3; try simp only [World.size_drew, World.cell?_drew, World.frozen?_drew, World.size_setCell, World.cell?_drewN, World.frozen?_drewN, World.heap_drewN] at hc3 hf3))
    rename_i hH3
    clear hc3 hf3
    obtain ⟨g3_0, g3_1, g3_2, g3_3, g3_4, g3_5, g3_6, g3_7, g3_8⟩ := hH3
    have c3 := (((c2.setCell (b := bp) (o := 23) (Nat.le_refl _) (fun _ => ⟨rfl, by omega, by omega⟩) (.int .i32 da.lw)).setCell (b := bp) (o := 24) (Nat.le_refl _) (fun _ => ⟨rfl, by omega, by omega⟩) (.int .i32 da.lh)).setCell (b := bp) (o := 25) (Nat.le_refl _) (fun _ => ⟨rfl, by omega, by omega⟩) (.int .i32 da.lg)).drew.over (by simp; omega) hb3
    have q3 := (c3.frozen bp 23 hbp).trans fn3
    have q4 := (c3.frozen bp 24 hbp).trans fn4
    have q5 := (c3.frozen bp 25 hbp).trans fn5
    go_wp2_with (go_at_call 15; refine (node_any bx bs bp _ _ (by omega) (by omega) (by simp [World.cell?_setCell_other, *]) (by simp [World.cell?_setCell_other, *])).mono ?_; rintro e w' ⟨rfl, rfl⟩)
    · have h2 : lessB db.lw db.lh db.lg da.lw da.lh da.lg = true := by assumption
      go_end0
      refine ⟨rfl, and_self_of (((c3.setCell (b := bp) (o := 23) (Nat.le_refl _) (fun _ => ⟨rfl, by omega, by omega⟩) (.int .i32 db.lw)).setCell (b := bp) (o := 24) (Nat.le_refl _) (fun _ => ⟨rfl, by omega, by omega⟩) (.int .i32 db.lh)).setCell (b := bp) (o := 25) (Nat.le_refl _) (fun _ => ⟨rfl, by omega, by omega⟩) (.int .i32 db.lg)) fun C => ?_⟩
      have E := hn.least (x := db.lw) (y := db.lh) (z := db.lg) hbp C (by simp (maxDischargeDepth := 8) [World.cell?_setCell_other, World.cell?_setCell_same', *]) (by simp (maxDischargeDepth := 8) [World.cell?_setCell_other, World.cell?_setCell_same', *]) (by simp (maxDischargeDepth := 8) [World.cell?_setCell_other, World.cell?_setCell_same', *])
      have e : best2 d (some da) (some db) = { d with lw := db.lw, lh := db.lh, lg := db.lg } := by simp [best2, best1, h1, h2]
      rw [e]; exact E
    · have h2 : lessB db.lw db.lh db.lg da.lw da.lh da.lg = false := by assumption
      go_end0
      refine ⟨rfl, and_self_of (c3) fun C => ?_⟩
      have E := hn.least (x := da.lw) (y := da.lh) (z := da.lg) hbp C (by simp (maxDischargeDepth := 8) [World.cell?_setCell_other, World.cell?_setCell_same', *]) (by simp (maxDischargeDepth := 8) [World.cell?_setCell_other, World.cell?_setCell_same', *]) (by simp (maxDischargeDepth := 8) [World.cell?_setCell_other, World.cell?_setCell_same', *])
      have e : best2 d (some da) (some db) = { d with lw := da.lw, lh := da.lh, lg := da.lg } := by simp [best2, best1, h1, h2]
      rw [e]; exact E
  · have h1 : lessB da.lw da.lh da.lg d.w d.h d.g = false := by assumption
    go_region_held3 (fun w' => w'.cell? ⟨bx, 1, none⟩ = some (.slice (some ⟨bs, 0, none⟩) 1 1) ∧ w'.cell? ⟨bs, 0, none⟩ = some (.pointer (some ⟨bp, 0, none⟩)) ∧ w'.cell? ⟨bp, 28, none⟩ = some (.int .i32 5) ∧ w'.cell? ⟨bp, 23, none⟩ = some (.int .i32 d.w) ∧ w'.cell? ⟨bp, 24, none⟩ = some (.int .i32 d.h) ∧ w'.cell? ⟨bp, 25, none⟩ = some (.int .i32 d.g) ∧ w'.cell? ⟨bp, 53, none⟩ = some (.int .i32 db.lw) ∧ w'.cell? ⟨bp, 54, none⟩ = some (.int .i32 db.lh) ∧ w'.cell? ⟨bp, 55, none⟩ = some (.int .i32 db.lg))
      (simp (maxDischargeDepth := 8) [World.cell?_setCell_other, World.cell?_setCell_same', *])
      (first
        | (go_at_call 15; refine (node_any bx bs bp _ _ (by omega) (by omega) (by simp [World.cell?_setCell_other, *]) (by simp [World.cell?_setCell_other, *])).mono ?_; rintro e w' ⟨rfl, rfl⟩)
        | (go_at_call 19; refine (leaves_any _ _ _ _ _ _ _).mono ?_; rintro e w3 ⟨rfl, hb3⟩; obtain ⟨hc3, hf3⟩ := bcell hb3; try simp only [World.size_drew, World.cell?_drew, World.frozen?_drew, World.size_setCell, World.cell?_drewN, World.frozen?_drewN, World.heap_drewN] at hc3 hf3))
    rename_i hH3
    clear hc3 hf3
    obtain ⟨g3_0, g3_1, g3_2, g3_3, g3_4, g3_5, g3_6, g3_7, g3_8⟩ := hH3
    have c3 := (c2).drew.over (by simp; omega) hb3
    have q3 := (c3.frozen bp 23 hbp).trans fn3
    have q4 := (c3.frozen bp 24 hbp).trans fn4
    have q5 := (c3.frozen bp 25 hbp).trans fn5
    go_wp2_with (go_at_call 15; refine (node_any bx bs bp _ _ (by omega) (by omega) (by simp [World.cell?_setCell_other, *]) (by simp [World.cell?_setCell_other, *])).mono ?_; rintro e w' ⟨rfl, rfl⟩)
    · have h2 : lessB db.lw db.lh db.lg d.w d.h d.g = true := by assumption
      go_end0
      refine ⟨rfl, and_self_of (((c3.setCell (b := bp) (o := 23) (Nat.le_refl _) (fun _ => ⟨rfl, by omega, by omega⟩) (.int .i32 db.lw)).setCell (b := bp) (o := 24) (Nat.le_refl _) (fun _ => ⟨rfl, by omega, by omega⟩) (.int .i32 db.lh)).setCell (b := bp) (o := 25) (Nat.le_refl _) (fun _ => ⟨rfl, by omega, by omega⟩) (.int .i32 db.lg)) fun C => ?_⟩
      have E := hn.least (x := db.lw) (y := db.lh) (z := db.lg) hbp C (by simp (maxDischargeDepth := 8) [World.cell?_setCell_other, World.cell?_setCell_same', *]) (by simp (maxDischargeDepth := 8) [World.cell?_setCell_other, World.cell?_setCell_same', *]) (by simp (maxDischargeDepth := 8) [World.cell?_setCell_other, World.cell?_setCell_same', *])
      have e : best2 d (some da) (some db) = { d with lw := db.lw, lh := db.lh, lg := db.lg } := by simp [best2, best1, h1, h2]
      rw [e]; exact E
    · have h2 : lessB db.lw db.lh db.lg d.w d.h d.g = false := by assumption
      go_end0
      refine ⟨rfl, and_self_of (c3) fun C => ?_⟩
      have E := hn.least (x := d.w) (y := d.h) (z := d.g) hbp C (by simp (maxDischargeDepth := 8) [World.cell?_setCell_other, World.cell?_setCell_same', *]) (by simp (maxDischargeDepth := 8) [World.cell?_setCell_other, World.cell?_setCell_same', *]) (by simp (maxDischargeDepth := 8) [World.cell?_setCell_other, World.cell?_setCell_same', *])
      have e : best2 d (some da) (some db) = { d with lw := d.w, lh := d.h, lg := d.g } := by simp [best2, best1, h1, h2]
      rw [e]; exact E

end Go.Proofs.Ybulkjqw
