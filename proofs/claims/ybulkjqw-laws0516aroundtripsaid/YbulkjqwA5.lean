import Derived.Test.YbulkjqwA4
namespace Go.Proofs.Ybulkjqw
open Go.RowKit
set_option linter.unusedSimpArgs false
set_option linter.unusedVariables false

def best1 (d a : Dat) : Dat := if lessB a.lw a.lh a.lg d.lw d.lh d.lg = true then { d with lw := a.lw, lh := a.lh, lg := a.lg } else d
def best2 (d : Dat) (a b : Option Dat) : Dat :=
  let d0 : Dat := { d with lw := d.w, lh := d.h, lg := d.g }
  let d1 := a.elim d0 (best1 d0)
  b.elim d1 (best1 d1)

theorem and_self_of {p q : Prop} (hp : p) (h : p → q) : p ∧ q := ⟨hp, h hp⟩

theorem IsNd.least {B bp n : Nat} {d : Dat} {l r x y z : Int} {w w' : World} (h : IsNd w bp n (d.nd l r)) (hbp : bp < w.heap.size) (hc : Chg B (fun b o => b = bp ∧ n * 10 + 3 ≤ o ∧ o < n * 10 + 6) w w')
    (h3 : w'.cell? ⟨bp, n * 10 + 3, none⟩ = some (.int .i32 x)) (h4 : w'.cell? ⟨bp, n * 10 + 4, none⟩ = some (.int .i32 y)) (h5 : w'.cell? ⟨bp, n * 10 + 5, none⟩ = some (.int .i32 z)) : IsNd w' bp n (({ d with lw := x, lh := y, lg := z } : Dat).nd l r) := by
  intro k hk
  rw [hc.frozen _ _ hbp]
  refine ⟨?_, (h k hk).2⟩
  match k, hk with
  | 3, _ => exact h3
  | 4, _ => exact h4
  | 5, _ => exact h5
  | 0, hk | 1, hk | 2, hk | 6, hk | 7, hk | 8, hk | 9, hk => rw [hc.cell _ _ hbp (by omega)]; exact (h _ hk).1

set_option maxHeartbeats 1000000 in
theorem update_100 (bx bs bp : Nat) (d da db : Dat) (aL aR bL bR : Int) (w : World) (hbx : bx < w.heap.size) (hbs : bs < w.heap.size) (hbp : bp < w.heap.size) (hne1 : bp ≠ bx) (hne2 : bp ≠ bs)
    (hx : w.cell? ⟨bx, 1, none⟩ = some (.slice (some ⟨bs, 0, none⟩) 1 1)) (hs : w.cell? ⟨bs, 0, none⟩ = some (.pointer (some ⟨bp, 0, none⟩)))
    (hn : IsNd w bp 1 (d.nd 0 0)) (ha : IsNd w bp 3 (da.nd aL aR)) (hb : IsNd w bp 4 (db.nd bL bR)) :
    Calls Yba.prog 16 #[.pointer (some ⟨bx, 0, none⟩), .int .i32 1] w fun e w' => e = .returned (.tuple #[]) ∧ Chg bp (fun b o => b = bp ∧ 1 * 10 + 3 ≤ o ∧ o < 1 * 10 + 6) w w' ∧
      IsNd w' bp 1 ((best2 d none none).nd 0 0) := by
  obtain ⟨n0, fn0⟩ : w.cell? ⟨bp, 10, none⟩ = some (.int .i32 d.w) ∧ w.frozen? ⟨bp, 10, none⟩ = false := hn 0 (by omega)
  obtain ⟨n1, fn1⟩ : w.cell? ⟨bp, 11, none⟩ = some (.int .i32 d.h) ∧ w.frozen? ⟨bp, 11, none⟩ = false := hn 1 (by omega)
  obtain ⟨n2, fn2⟩ : w.cell? ⟨bp, 12, none⟩ = some (.int .i32 d.g) ∧ w.frozen? ⟨bp, 12, none⟩ = false := hn 2 (by omega)
  obtain ⟨n3, fn3⟩ : w.cell? ⟨bp, 13, none⟩ = some (.int .i32 d.lw) ∧ w.frozen? ⟨bp, 13, none⟩ = false := hn 3 (by omega)
  obtain ⟨n4, fn4⟩ : w.cell? ⟨bp, 14, none⟩ = some (.int .i32 d.lh) ∧ w.frozen? ⟨bp, 14, none⟩ = false := hn 4 (by omega)
  obtain ⟨n5, fn5⟩ : w.cell? ⟨bp, 15, none⟩ = some (.int .i32 d.lg) ∧ w.frozen? ⟨bp, 15, none⟩ = false := hn 5 (by omega)
  obtain ⟨n7, fn7⟩ : w.cell? ⟨bp, 17, none⟩ = some (.int .i32 0) ∧ w.frozen? ⟨bp, 17, none⟩ = false := hn 7 (by omega)
  obtain ⟨n8, fn8⟩ : w.cell? ⟨bp, 18, none⟩ = some (.int .i32 0) ∧ w.frozen? ⟨bp, 18, none⟩ = false := hn 8 (by omega)
  clear ha hb
  go_enter Yba.func16, Yba.ntmps16
  go_wp2_with (go_at_call 15; refine (node_any bx bs bp _ _ (by omega) (by omega) (by simp [World.cell?_setCell_other, *]) (by simp [World.cell?_setCell_other, *])).mono ?_; rintro e w' ⟨rfl, rfl⟩)
  go_quiet (fail)
  go_wp2
  go_quiet (fail)
  go_wp2
  go_end0
  refine ⟨rfl, and_self_of ((((((Chg.refl bp (fun b o => b = bp ∧ 1 * 10 + 3 ≤ o ∧ o < 1 * 10 + 6) w).setCell (b := bp) (o := 13) (Nat.le_refl _) (fun _ => ⟨rfl, by omega, by omega⟩) (.int .i32 d.w)).setCell (b := bp) (o := 14) (Nat.le_refl _) (fun _ => ⟨rfl, by omega, by omega⟩) (.int .i32 d.h)).setCell (b := bp) (o := 15) (Nat.le_refl _) (fun _ => ⟨rfl, by omega, by omega⟩) (.int .i32 d.g)).drewN _).drewN _) fun C => ?_⟩
  have E := hn.least (x := d.w) (y := d.h) (z := d.g) hbp C (by simp (maxDischargeDepth := 8) [World.cell?_setCell_other, World.cell?_setCell_same', *]) (by simp (maxDischargeDepth := 8) [World.cell?_setCell_other, World.cell?_setCell_same', *]) (by simp (maxDischargeDepth := 8) [World.cell?_setCell_other, World.cell?_setCell_same', *])
  have e : best2 d none none = { d with lw := d.w, lh := d.h, lg := d.g } := by simp [best2, best1]
  rw [e]; exact E

set_option maxHeartbeats 1000000 in
theorem update_130 (bx bs bp : Nat) (d da db : Dat) (aL aR bL bR : Int) (w : World) (hbx : bx < w.heap.size) (hbs : bs < w.heap.size) (hbp : bp < w.heap.size) (hne1 : bp ≠ bx) (hne2 : bp ≠ bs)
    (hx : w.cell? ⟨bx, 1, none⟩ = some (.slice (some ⟨bs, 0, none⟩) 1 1)) (hs : w.cell? ⟨bs, 0, none⟩ = some (.pointer (some ⟨bp, 0, none⟩)))
    (hn : IsNd w bp 1 (d.nd 3 0)) (ha : IsNd w bp 3 (da.nd aL aR)) (hb : IsNd w bp 4 (db.nd bL bR)) :
    Calls Yba.prog 16 #[.pointer (some ⟨bx, 0, none⟩), .int .i32 1] w fun e w' => e = .returned (.tuple #[]) ∧ Chg bp (fun b o => b = bp ∧ 1 * 10 + 3 ≤ o ∧ o < 1 * 10 + 6) w w' ∧
      IsNd w' bp 1 ((best2 d (some da) none).nd 3 0) := by
  obtain ⟨n0, fn0⟩ : w.cell? ⟨bp, 10, none⟩ = some (.int .i32 d.w) ∧ w.frozen? ⟨bp, 10, none⟩ = false := hn 0 (by omega)
  obtain ⟨n1, fn1⟩ : w.cell? ⟨bp, 11, none⟩ = some (.int .i32 d.h) ∧ w.frozen? ⟨bp, 11, none⟩ = false := hn 1 (by omega)
  obtain ⟨n2, fn2⟩ : w.cell? ⟨bp, 12, none⟩ = some (.int .i32 d.g) ∧ w.frozen? ⟨bp, 12, none⟩ = false := hn 2 (by omega)
  obtain ⟨n3, fn3⟩ : w.cell? ⟨bp, 13, none⟩ = some (.int .i32 d.lw) ∧ w.frozen? ⟨bp, 13, none⟩ = false := hn 3 (by omega)
  obtain ⟨n4, fn4⟩ : w.cell? ⟨bp, 14, none⟩ = some (.int .i32 d.lh) ∧ w.frozen? ⟨bp, 14, none⟩ = false := hn 4 (by omega)
  obtain ⟨n5, fn5⟩ : w.cell? ⟨bp, 15, none⟩ = some (.int .i32 d.lg) ∧ w.frozen? ⟨bp, 15, none⟩ = false := hn 5 (by omega)
  obtain ⟨n7, fn7⟩ : w.cell? ⟨bp, 17, none⟩ = some (.int .i32 3) ∧ w.frozen? ⟨bp, 17, none⟩ = false := hn 7 (by omega)
  obtain ⟨n8, fn8⟩ : w.cell? ⟨bp, 18, none⟩ = some (.int .i32 0) ∧ w.frozen? ⟨bp, 18, none⟩ = false := hn 8 (by omega)
  have a3 : w.cell? ⟨bp, 33, none⟩ = some (.int .i32 da.lw) := (ha 3 (by omega)).1
  have a4 : w.cell? ⟨bp, 34, none⟩ = some (.int .i32 da.lh) := (ha 4 (by omega)).1
  have a5 : w.cell? ⟨bp, 35, none⟩ = some (.int .i32 da.lg) := (ha 5 (by omega)).1
  clear ha hb
  go_enter Yba.func16, Yba.ntmps16
  go_wp2_with (go_at_call 15; refine (node_any bx bs bp _ _ (by omega) (by omega) (by simp [World.cell?_setCell_other, *]) (by simp [World.cell?_setCell_other, *])).mono ?_; rintro e w' ⟨rfl, rfl⟩)
  go_region_held3 (fun w' => w'.cell? ⟨bx, 1, none⟩ = some (.slice (some ⟨bs, 0, none⟩) 1 1) ∧ w'.cell? ⟨bs, 0, none⟩ = some (.pointer (some ⟨bp, 0, none⟩)) ∧ w'.cell? ⟨bp, 17, none⟩ = some (.int .i32 3) ∧ w'.cell? ⟨bp, 13, none⟩ = some (.int .i32 d.w) ∧ w'.cell? ⟨bp, 14, none⟩ = some (.int .i32 d.h) ∧ w'.cell? ⟨bp, 15, none⟩ = some (.int .i32 d.g) ∧ w'.cell? ⟨bp, 33, none⟩ = some (.int .i32 da.lw) ∧ w'.cell? ⟨bp, 34, none⟩ = some (.int .i32 da.lh) ∧ w'.cell? ⟨bp, 35, none⟩ = some (.int .i32 da.lg) ∧ w'.cell? ⟨bp, 18, none⟩ = some (.int .i32 0))
    (simp (maxDischargeDepth := 8) [World.cell?_setCell_other, World.cell?_setCell_same', *])
    (first
      | (go_at_call 15; refine (node_any bx bs bp _ _ (by omega) (by omega) (by simp [World.cell?_setCell_other, *]) (by simp [World.cell?_setCell_other, *])).mono ?_; rintro e w' ⟨rfl, rfl⟩)
      | (go_at_call 19; refine (leaves_any _ _ _ _ _ _ _).mono ?_; rintro e w2 ⟨rfl, hb2⟩; obtain ⟨hc2, hf2⟩ := bcell hb2; try simp only [World.size_drew, World.cell?_drew, World.frozen?_drew, World.size_setCell, World.cell?_drewN, World.frozen?_drewN, World.heap_drewN] at hc2 hf2))
  rename_i hH2
  clear hc2 hf2
  obtain ⟨g2_0, g2_1, g2_2, g2_3, g2_4, g2_5, g2_6, g2_7, g2_8, g2_9⟩ := hH2
  have c2 := ((((Chg.refl bp (fun b o => b = bp ∧ 1 * 10 + 3 ≤ o ∧ o < 1 * 10 + 6) w).setCell (b := bp) (o := 13) (Nat.le_refl _) (fun _ => ⟨rfl, by omega, by omega⟩) (.int .i32 d.w)).setCell (b := bp) (o := 14) (Nat.le_refl _) (fun _ => ⟨rfl, by omega, by omega⟩) (.int .i32 d.h)).setCell (b := bp) (o := 15) (Nat.le_refl _) (fun _ => ⟨rfl, by omega, by omega⟩) (.int .i32 d.g)).drew.over (by simp; omega) hb2
  have zx : bx < w2.heap.size := Nat.lt_of_lt_of_le hbx c2.size
  have zs : bs < w2.heap.size := Nat.lt_of_lt_of_le hbs c2.size
  have zp : bp < w2.heap.size := Nat.lt_of_lt_of_le hbp c2.size
  have q3 := (c2.frozen bp 13 hbp).trans fn3
  have q4 := (c2.frozen bp 14 hbp).trans fn4
  have q5 := (c2.frozen bp 15 hbp).trans fn5
  go_wp2_with (go_at_call 15; refine (node_any bx bs bp _ _ (by omega) (by omega) (by simp [World.cell?_setCell_other, *]) (by simp [World.cell?_setCell_other, *])).mono ?_; rintro e w' ⟨rfl, rfl⟩)
  · have h1 : lessB da.lw da.lh da.lg d.w d.h d.g = true := by assumption
    go_quiet (fail)
    go_wp2
    go_end0
    refine ⟨rfl, and_self_of ((((c2.setCell (b := bp) (o := 13) (Nat.le_refl _) (fun _ => ⟨rfl, by omega, by omega⟩) (.int .i32 da.lw)).setCell (b := bp) (o := 14) (Nat.le_refl _) (fun _ => ⟨rfl, by omega, by omega⟩) (.int .i32 da.lh)).setCell (b := bp) (o := 15) (Nat.le_refl _) (fun _ => ⟨rfl, by omega, by omega⟩) (.int .i32 da.lg)).drewN _) fun C => ?_⟩
    have E := hn.least (x := da.lw) (y := da.lh) (z := da.lg) hbp C (by simp (maxDischargeDepth := 8) [World.cell?_setCell_other, World.cell?_setCell_same', *]) (by simp (maxDischargeDepth := 8) [World.cell?_setCell_other, World.cell?_setCell_same', *]) (by simp (maxDischargeDepth := 8) [World.cell?_setCell_other, World.cell?_setCell_same', *])
    have e : best2 d (some da) none = { d with lw := da.lw, lh := da.lh, lg := da.lg } := by simp [best2, best1, h1]
    rw [e]; exact E
  · have h1 : lessB da.lw da.lh da.lg d.w d.h d.g = false := by assumption
    go_quiet (fail)
    go_wp2
    go_end0
    refine ⟨rfl, and_self_of ((c2).drewN _) fun C => ?_⟩
    have E := hn.least (x := d.w) (y := d.h) (z := d.g) hbp C (by simp (maxDischargeDepth := 8) [World.cell?_setCell_other, World.cell?_setCell_same', *]) (by simp (maxDischargeDepth := 8) [World.cell?_setCell_other, World.cell?_setCell_same', *]) (by simp (maxDischargeDepth := 8) [World.cell?_setCell_other, World.cell?_setCell_same', *])
    have e : best2 d (some da) none = { d with lw := d.w, lh := d.h, lg := d.g } := by simp [best2, best1, h1]
    rw [e]; exact E

set_option maxHeartbeats 1000000 in
theorem update_104 (bx bs bp : Nat) (d da db : Dat) (aL aR bL bR : Int) (w : World) (hbx : bx < w.heap.size) (hbs : bs < w.heap.size) (hbp : bp < w.heap.size) (hne1 : bp ≠ bx) (hne2 : bp ≠ bs)
    (hx : w.cell? ⟨bx, 1, none⟩ = some (.slice (some ⟨bs, 0, none⟩) 1 1)) (hs : w.cell? ⟨bs, 0, none⟩ = some (.pointer (some ⟨bp, 0, none⟩)))
    (hn : IsNd w bp 1 (d.nd 0 4)) (ha : IsNd w bp 3 (da.nd aL aR)) (hb : IsNd w bp 4 (db.nd bL bR)) :
    Calls Yba.prog 16 #[.pointer (some ⟨bx, 0, none⟩), .int .i32 1] w fun e w' => e = .returned (.tuple #[]) ∧ Chg bp (fun b o => b = bp ∧ 1 * 10 + 3 ≤ o ∧ o < 1 * 10 + 6) w w' ∧
      IsNd w' bp 1 ((best2 d none (some db)).nd 0 4) := by
  obtain ⟨n0, fn0⟩ : w.cell? ⟨bp, 10, none⟩ = some (.int .i32 d.w) ∧ w.frozen? ⟨bp, 10, none⟩ = false := hn 0 (by omega)
  obtain ⟨n1, fn1⟩ : w.cell? ⟨bp, 11, none⟩ = some (.int .i32 d.h) ∧ w.frozen? ⟨bp, 11, none⟩ = false := hn 1 (by omega)
  obtain ⟨n2, fn2⟩ : w.cell? ⟨bp, 12, none⟩ = some (.int .i32 d.g) ∧ w.frozen? ⟨bp, 12, none⟩ = false := hn 2 (by omega)
  obtain ⟨n3, fn3⟩ : w.cell? ⟨bp, 13, none⟩ = some (.int .i32 d.lw) ∧ w.frozen? ⟨bp, 13, none⟩ = false := hn 3 (by omega)
  obtain ⟨n4, fn4⟩ : w.cell? ⟨bp, 14, none⟩ = some (.int .i32 d.lh) ∧ w.frozen? ⟨bp, 14, none⟩ = false := hn 4 (by omega)
  obtain ⟨n5, fn5⟩ : w.cell? ⟨bp, 15, none⟩ = some (.int .i32 d.lg) ∧ w.frozen? ⟨bp, 15, none⟩ = false := hn 5 (by omega)
  obtain ⟨n7, fn7⟩ : w.cell? ⟨bp, 17, none⟩ = some (.int .i32 0) ∧ w.frozen? ⟨bp, 17, none⟩ = false := hn 7 (by omega)
  obtain ⟨n8, fn8⟩ : w.cell? ⟨bp, 18, none⟩ = some (.int .i32 4) ∧ w.frozen? ⟨bp, 18, none⟩ = false := hn 8 (by omega)
  have b3 : w.cell? ⟨bp, 43, none⟩ = some (.int .i32 db.lw) := (hb 3 (by omega)).1
  have b4 : w.cell? ⟨bp, 44, none⟩ = some (.int .i32 db.lh) := (hb 4 (by omega)).1
  have b5 : w.cell? ⟨bp, 45, none⟩ = some (.int .i32 db.lg) := (hb 5 (by omega)).1
  clear ha hb
  go_enter Yba.func16, Yba.ntmps16
  go_wp2_with (go_at_call 15; refine (node_any bx bs bp _ _ (by omega) (by omega) (by simp [World.cell?_setCell_other, *]) (by simp [World.cell?_setCell_other, *])).mono ?_; rintro e w' ⟨rfl, rfl⟩)
  go_quiet (fail)
  go_wp2
  go_region_held3 (fun w' => w'.cell? ⟨bx, 1, none⟩ = some (.slice (some ⟨bs, 0, none⟩) 1 1) ∧ w'.cell? ⟨bs, 0, none⟩ = some (.pointer (some ⟨bp, 0, none⟩)) ∧ w'.cell? ⟨bp, 18, none⟩ = some (.int .i32 4) ∧ w'.cell? ⟨bp, 13, none⟩ = some (.int .i32 d.w) ∧ w'.cell? ⟨bp, 14, none⟩ = some (.int .i32 d.h) ∧ w'.cell? ⟨bp, 15, none⟩ = some (.int .i32 d.g) ∧ w'.cell? ⟨bp, 43, none⟩ = some (.int .i32 db.lw) ∧ w'.cell? ⟨bp, 44, none⟩ = some (.int .i32 db.lh) ∧ w'.cell? ⟨bp, 45, none⟩ = some (.int .i32 db.lg))
    (simp (maxDischargeDepth := 8) [World.cell?_setCell_other, World.cell?_setCell_same', *])
    (first
      | (go_at_call 15; refine (node_any bx bs bp _ _ (by omega) (by omega) (by simp [World.cell?_setCell_other, *]) (by simp [World.cell?_setCell_other, *])).mono ?_; rintro e w' ⟨rfl, rfl⟩)
      | (go_at_call 19; refine (leaves_any _ _ _ _ _ _ _).mono ?_; rintro e w3 ⟨rfl, hb3⟩; obtain ⟨hc3, hf3⟩ := bcell hb3; try simp only [World.size_drew, World.cell?_drew, World.frozen?_drew, World.size_setCell, World.cell?_drewN, World.frozen?_drewN, World.heap_drewN] at hc3 hf3))
  rename_i hH3
  clear hc3 hf3
  obtain ⟨g3_0, g3_1, g3_2, g3_3, g3_4, g3_5, g3_6, g3_7, g3_8⟩ := hH3
  have c3 := (((((Chg.refl bp (fun b o => b = bp ∧ 1 * 10 + 3 ≤ o ∧ o < 1 * 10 + 6) w).setCell (b := bp) (o := 13) (Nat.le_refl _) (fun _ => ⟨rfl, by omega, by omega⟩) (.int .i32 d.w)).setCell (b := bp) (o := 14) (Nat.le_refl _) (fun _ => ⟨rfl, by omega, by omega⟩) (.int .i32 d.h)).setCell (b := bp) (o := 15) (Nat.le_refl _) (fun _ => ⟨rfl, by omega, by omega⟩) (.int .i32 d.g)).drewN _).drew.over (by simp; omega) hb3
  have q3 := (c3.frozen bp 13 hbp).trans fn3
  have q4 := (c3.frozen bp 14 hbp).trans fn4
  have q5 := (c3.frozen bp 15 hbp).trans fn5
  go_wp2_with (go_at_call 15; refine (node_any bx bs bp _ _ (by omega) (by omega) (by simp [World.cell?_setCell_other, *]) (by simp [World.cell?_setCell_other, *])).mono ?_; rintro e w' ⟨rfl, rfl⟩)
  · have h2 : lessB db.lw db.lh db.lg d.w d.h d.g = true := by assumption
    go_end0
    refine ⟨rfl, and_self_of (((c3.setCell (b := bp) (o := 13) (Nat.le_refl _) (fun _ => ⟨rfl, by omega, by omega⟩) (.int .i32 db.lw)).setCell (b := bp) (o := 14) (Nat.le_refl _) (fun _ => ⟨rfl, by omega, by omega⟩) (.int .i32 db.lh)).setCell (b := bp) (o := 15) (Nat.le_refl _) (fun _ => ⟨rfl, by omega, by omega⟩) (.int .i32 db.lg)) fun C => ?_⟩
    have E := hn.least (x := db.lw) (y := db.lh) (z := db.lg) hbp C (by simp (maxDischargeDepth := 8) [World.cell?_setCell_other, World.cell?_setCell_same', *]) (by simp (maxDischargeDepth := 8) [World.cell?_setCell_other, World.cell?_setCell_same', *]) (by simp (maxDischargeDepth := 8) [World.cell?_setCell_other, World.cell?_setCell_same', *])
    have e : best2 d none (some db) = { d with lw := db.lw, lh := db.lh, lg := db.lg } := by simp [best2, best1, h2]
    rw [e]; exact E
  · have h2 : lessB db.lw db.lh db.lg d.w d.h d.g = false := by assumption
    go_end0
    refine ⟨rfl, and_self_of (c3) fun C => ?_⟩
    have E := hn.least (x := d.w) (y := d.h) (z := d.g) hbp C (by simp (maxDischargeDepth := 8) [World.cell?_setCell_other, World.cell?_setCell_same', *]) (by simp (maxDischargeDepth := 8) [World.cell?_setCell_other, World.cell?_setCell_same', *]) (by simp (maxDischargeDepth := 8) [World.cell?_setCell_other, World.cell?_setCell_same', *])
    have e : best2 d none (some db) = { d with lw := d.w, lh := d.h, lg := d.g } := by simp [best2, best1, h2]
    rw [e]; exact E

set_option maxHeartbeats 1000000 in
theorem update_134 (bx bs bp : Nat) (d da db : Dat) (aL aR bL bR : Int) (w : World) (hbx : bx < w.heap.size) (hbs : bs < w.heap.size) (hbp : bp < w.heap.size) (hne1 : bp ≠ bx) (hne2 : bp ≠ bs)
    (hx : w.cell? ⟨bx, 1, none⟩ = some (.slice (some ⟨bs, 0, none⟩) 1 1)) (hs : w.cell? ⟨bs, 0, none⟩ = some (.pointer (some ⟨bp, 0, none⟩)))
    (hn : IsNd w bp 1 (d.nd 3 4)) (ha : IsNd w bp 3 (da.nd aL aR)) (hb : IsNd w bp 4 (db.nd bL bR)) :
    Calls Yba.prog 16 #[.pointer (some ⟨bx, 0, none⟩), .int .i32 1] w fun e w' => e = .returned (.tuple #[]) ∧ Chg bp (fun b o => b = bp ∧ 1 * 10 + 3 ≤ o ∧ o < 1 * 10 + 6) w w' ∧
      IsNd w' bp 1 ((best2 d (some da) (some db)).nd 3 4) := by
  obtain ⟨n0, fn0⟩ : w.cell? ⟨bp, 10, none⟩ = some (.int .i32 d.w) ∧ w.frozen? ⟨bp, 10, none⟩ = false := hn 0 (by omega)
  obtain ⟨n1, fn1⟩ : w.cell? ⟨bp, 11, none⟩ = some (.int .i32 d.h) ∧ w.frozen? ⟨bp, 11, none⟩ = false := hn 1 (by omega)
  obtain ⟨n2, fn2⟩ : w.cell? ⟨bp, 12, none⟩ = some (.int .i32 d.g) ∧ w.frozen? ⟨bp, 12, none⟩ = false := hn 2 (by omega)
  obtain ⟨n3, fn3⟩ : w.cell? ⟨bp, 13, none⟩ = some (.int .i32 d.lw) ∧ w.frozen? ⟨bp, 13, none⟩ = false := hn 3 (by omega)
  obtain ⟨n4, fn4⟩ : w.cell? ⟨bp, 14, none⟩ = some (.int .i32 d.lh) ∧ w.frozen? ⟨bp, 14, none⟩ = false := hn 4 (by omega)
  obtain ⟨n5, fn5⟩ : w.cell? ⟨bp, 15, none⟩ = some (.int .i32 d.lg) ∧ w.frozen? ⟨bp, 15, none⟩ = false := hn 5 (by omega)
  obtain ⟨n7, fn7⟩ : w.cell? ⟨bp, 17, none⟩ = some (.int .i32 3) ∧ w.frozen? ⟨bp, 17, none⟩ = false := hn 7 (by omega)
  obtain ⟨n8, fn8⟩ : w.cell? ⟨bp, 18, none⟩ = some (.int .i32 4) ∧ w.frozen? ⟨bp, 18, none⟩ = false := hn 8 (by omega)
  have a3 : w.cell? ⟨bp, 33, none⟩ = some (.int .i32 da.lw) := (ha 3 (by omega)).1
  have a4 : w.cell? ⟨bp, 34, none⟩ = some (.int .i32 da.lh) := (ha 4 (by omega)).1
  have a5 : w.cell? ⟨bp, 35, none⟩ = some (.int .i32 da.lg) := (ha 5 (by omega)).1
  have b3 : w.cell? ⟨bp, 43, none⟩ = some (.int .i32 db.lw) := (hb 3 (by omega)).1
  have b4 : w.cell? ⟨bp, 44, none⟩ = some (.int .i32 db.lh) := (hb 4 (by omega)).1
  have b5 : w.cell? ⟨bp, 45, none⟩ = some (.int .i32 db.lg) := (hb 5 (by omega)).1
  clear ha hb
  go_enter Yba.func16, Yba.ntmps16
  go_wp2_with (go_at_call 15; refine (node_any bx bs bp _ _ (by omega) (by omega) (by simp [World.cell?_setCell_other, *]) (by simp [World.cell?_setCell_other, *])).mono ?_; rintro e w' ⟨rfl, rfl⟩)
  go_region_held3 (fun w' => w'.cell? ⟨bx, 1, none⟩ = some (.slice (some ⟨bs, 0, none⟩) 1 1) ∧ w'.cell? ⟨bs, 0, none⟩ = some (.pointer (some ⟨bp, 0, none⟩)) ∧ w'.cell? ⟨bp, 17, none⟩ = some (.int .i32 3) ∧ w'.cell? ⟨bp, 13, none⟩ = some (.int .i32 d.w) ∧ w'.cell? ⟨bp, 14, none⟩ = some (.int .i32 d.h) ∧ w'.cell? ⟨bp, 15, none⟩ = some (.int .i32 d.g) ∧ w'.cell? ⟨bp, 33, none⟩ = some (.int .i32 da.lw) ∧ w'.cell? ⟨bp, 34, none⟩ = some (.int .i32 da.lh) ∧ w'.cell? ⟨bp, 35, none⟩ = some (.int .i32 da.lg) ∧ w'.cell? ⟨bp, 18, none⟩ = some (.int .i32 4) ∧ w'.cell? ⟨bp, 43, none⟩ = some (.int .i32 db.lw) ∧ w'.cell? ⟨bp, 44, none⟩ = some (.int .i32 db.lh) ∧ w'.cell? ⟨bp, 45, none⟩ = some (.int .i32 db.lg))
    (simp (maxDischargeDepth := 8) [World.cell?_setCell_other, World.cell?_setCell_same', *])
    (first
      | (go_at_call 15; refine (node_any bx bs bp _ _ (by omega) (by omega) (by simp [World.cell?_setCell_other, *]) (by simp [World.cell?_setCell_other, *])).mono ?_; rintro e w' ⟨rfl, rfl⟩)
      | (go_at_call 19; refine (leaves_any _ _ _ _ _ _ _).mono ?_; rintro e w2 ⟨rfl, hb2⟩; obtain ⟨hc2, hf2⟩ := bcell hb2; try simp only [World.size_drew, World.cell?_drew, World.frozen?_drew, World.size_setCell, World.cell?_drewN, World.frozen?_drewN, World.heap_drewN] at hc2 hf2))
  rename_i hH2
  clear hc2 hf2
  obtain ⟨g2_0, g2_1, g2_2, g2_3, g2_4, g2_5, g2_6, g2_7, g2_8, g2_9, g2_10, g2_11, g2_12⟩ := hH2
  have c2 := ((((Chg.refl bp (fun b o => b = bp ∧ 1 * 10 + 3 ≤ o ∧ o < 1 * 10 + 6) w).setCell (b := bp) (o := 13) (Nat.le_refl _) (fun _ => ⟨rfl, by omega, by omega⟩) (.int .i32 d.w)).setCell (b := bp) (o := 14) (Nat.le_refl _) (fun _ => ⟨rfl, by omega, by omega⟩) (.int .i32 d.h)).setCell (b := bp) (o := 15) (Nat.le_refl _) (fun _ => ⟨rfl, by omega, by omega⟩) (.int .i32 d.g)).drew.over (by simp; omega) hb2
  have zx : bx < w2.heap.size := Nat.lt_of_lt_of_le hbx c2.size
  have zs : bs < w2.heap.size := Nat.lt_of_lt_of_le hbs c2.size
  have zp : bp < w2.heap.size := Nat.lt_of_lt_of_le hbp c2.size
  have q3 := (c2.frozen bp 13 hbp).trans fn3
  have q4 := (c2.frozen bp 14 hbp).trans fn4
  have q5 := (c2.frozen bp 15 hbp).trans fn5
  go_wp2_with (go_at_call 15; refine (node_any bx bs bp _ _ (by omega) (by omega) (by simp [World.cell?_setCell_other, *]) (by simp [World.cell?_setCell_other, *])).mono ?_; rintro e w' ⟨rfl, rfl⟩)
  · have h1 : lessB da.lw da.lh da.lg d.w d.h d.g = true := by assumption
    go_region_held3 (fun w' => w'.cell? ⟨bx, 1, none⟩ = some (.slice (some ⟨bs, 0, none⟩) 1 1) ∧ w'.cell? ⟨bs, 0, none⟩ = some (.pointer (some ⟨bp, 0, none⟩)) ∧ w'.cell? ⟨bp, 18, none⟩ = some (.int .i32 4) ∧ w'.cell? ⟨bp, 13, none⟩ = some (.int .i32 da.lw) ∧ w'.cell? ⟨bp, 14, none⟩ = some (.int .i32 da.lh) ∧ w'.cell? ⟨bp, 15, none⟩ = some (.int .i32 da.lg) ∧ w'.cell? ⟨bp, 43, none⟩ = some (.int .i32 db.lw) ∧ w'.cell? ⟨bp, 44, none⟩ = some (.int .i32 db.lh) ∧ w'.cell? ⟨bp, 45, none⟩ = some (.int .i32 db.lg))
      (simp (maxDischargeDepth := 8) [World.cell?_setCell_other, World.cell?_setCell_same', *])
      (first
        | (go_at_call 15; refine (node_any bx bs bp _ _ (by omega) (by omega) (by simp [World.cell?_setCell_other, *]) (by simp [World.cell?_setCell_other, *])).mono ?_; rintro e w' ⟨rfl, rfl⟩)
        | (go_at_call 19; refine (leaves_any _ _ _ _ _ _ _).mono ?_; rintro e w3 ⟨rfl, hb3⟩; obtain ⟨hc3, hf3⟩ := bcell hb3; try simp only [World.size_drew, World.cell?_drew, World.frozen?_drew, World.size_setCell, World.cell?_drewN, World.frozen?_drewN, World.heap_drewN] at hc3 hf3))
    rename_i hH3
    clear hc3 hf3
    obtain ⟨g3_0, g3_1, g3_2, g3_3, g3_4, g3_5, g3_6, g3_7, g3_8⟩ := hH3
    have c3 := (((c2.setCell (b := bp) (o := 13) (Nat.le_refl _) (fun _ => ⟨rfl, by omega, by omega⟩) (.int .i32 da.lw)).setCell (b := bp) (o := 14) (Nat.le_refl _) (fun _ => ⟨rfl, by omega, by omega⟩) (.int .i32 da.lh)).setCell (b := bp) (o := 15) (Nat.le_refl _) (fun _ => ⟨rfl, by omega, by omega⟩) (.int .i32 da.lg)).drew.over (by simp; omega) hb3
    have q3 := (c3.frozen bp 13 hbp).trans fn3
    have q4 := (c3.frozen bp 14 hbp).trans fn4
    have q5 := (c3.frozen bp 15 hbp).trans fn5
    go_wp2_with (go_at_call 15; refine (node_any bx bs bp _ _ (by omega) (by omega) (by simp [World.cell?_setCell_other, *]) (by simp [World.cell?_setCell_other, *])).mono ?_; rintro e w' ⟨rfl, rfl⟩)
    · have h2 : lessB db.lw db.lh db.lg da.lw da.lh da.lg = true := by assumption
      go_end0
      refine ⟨rfl, and_self_of (((c3.setCell (b := bp) (o := 13) (Nat.le_refl _) (fun _ => ⟨rfl, by omega, by omega⟩) (.int .i32 db.lw)).setCell (b := bp) (o := 14) (Nat.le_refl _) (fun _ => ⟨rfl, by omega, by omega⟩) (.int .i32 db.lh)).setCell (b := bp) (o := 15) (Nat.le_refl _) (fun _ => ⟨rfl, by omega, by omega⟩) (.int .i32 db.lg)) fun C => ?_⟩
      have E := hn.least (x := db.lw) (y := db.lh) (z := db.lg) hbp C (by simp (maxDischargeDepth := 8) [World.cell?_setCell_other, World.cell?_setCell_same', *]) (by simp (maxDischargeDepth := 8) [World.cell?_setCell_other, World.cell?_setCell_same', *]) (by simp (maxDischargeDepth := 8) [World.cell?_setCell_other, World.cell?_setCell_same', *])
      have e : best2 d (some da) (some db) = { d with lw := db.lw, lh := db.lh, lg := db.lg } := by simp [best2, best1, h1, h2]
      rw [e]; exact E
    · have h2 : lessB db.lw db.lh db.lg da.lw da.lh da.lg = false := by assumption
      go_end0
      refine ⟨rfl, and_self_of (c3) fun C => ?_⟩
      have E := hn.least (x := da.lw) (y := da.lh) (z := da.lg) hbp C (by simp (maxDischargeDepth := 8) [World.cell?_setCell_other, World.cell?_setCell_same', *]) (by simp (maxDischargeDepth := 8) [World.cell?_setCell_other, World.cell?_setCell_same', *]) (by simp (maxDischargeDepth := 8) [World.cell?_setCell_other, World.cell?_setCell_same', *])
      have e : best2 d (some da) (some db) = { d with lw := da.lw, lh := da.lh, lg := da.lg } := by simp [best2, best1, h1, h2]
      rw [e]; exact E
  · have h1 : lessB da.lw da.lh da.lg d.w d.h d.g = false := by assumption
    go_region_held3 (fun w' => w'.cell? ⟨bx, 1, none⟩ = some (.slice (some ⟨bs, 0, none⟩) 1 1) ∧ w'.cell? ⟨bs, 0, none⟩ = some (.pointer (some ⟨bp, 0, none⟩)) ∧ w'.cell? ⟨bp, 18, none⟩ = some (.int .i32 4) ∧ w'.cell? ⟨bp, 13, none⟩ = some (.int .i32 d.w) ∧ w'.cell? ⟨bp, 14, none⟩ = some (.int .i32 d.h) ∧ w'.cell? ⟨bp, 15, none⟩ = some (.int .i32 d.g) ∧ w'.cell? ⟨bp, 43, none⟩ = some (.int .i32 db.lw) ∧ w'.cell? ⟨bp, 44, none⟩ = some (.int .i32 db.lh) ∧ w'.cell? ⟨bp, 45, none⟩ = some (.int .i32 db.lg))
      (simp (maxDischargeDepth := 8) [World.cell?_setCell_other, World.cell?_setCell_same', *])
      (first
        | (go_at_call 15; refine (node_any bx bs bp _ _ (by omega) (by omega) (by simp [World.cell?_setCell_other, *]) (by simp [World.cell?_setCell_other, *])).mono ?_; rintro e w' ⟨rfl, rfl⟩)
        | (go_at_call 19; refine (leaves_any _ _ _ _ _ _ _).mono ?_; rintro e w3 ⟨rfl, hb3⟩; obtain ⟨hc3, hf3⟩ := bcell hb3; try simp only [World.size_drew, World.cell?_drew, World.frozen?_drew, World.size_setCell, World.cell?_drewN, World.frozen?_drewN, World.heap_drewN] at hc3 hf3))
    rename_i hH3
    clear hc3 hf3
    obtain ⟨g3_0, g3_1, g3_2, g3_3, g3_4, g3_5, g3_6, g3_7, g3_8⟩ := hH3
    have c3 := (c2).drew.over (by simp; omega) hb3
    have q3 := (c3.frozen bp 13 hbp).trans fn3
    have q4 := (c3.frozen bp 14 hbp).trans fn4
    have q5 := (c3.frozen bp 15 hbp).trans fn5
    go_wp2_with (go_at_call 15; refine (node_any bx bs bp _ _ (by omega) (by omega) (by simp [World.cell?_setCell_other, *]) (by simp [World.cell?_setCell_other, *])).mono ?_; rintro e w' ⟨rfl, rfl⟩)
    · have h2 : lessB db.lw db.lh db.lg d.w d.h d.g = true := by assumption
      go_end0
      refine ⟨rfl, and_self_of (((c3.setCell (b := bp) (o := 13) (Nat.le_refl _) (fun _ => ⟨rfl, by omega, by omega⟩) (.int .i32 db.lw)).setCell (b := bp) (o := 14) (Nat.le_refl _) (fun _ => ⟨rfl, by omega, by omega⟩) (.int .i32 db.lh)).setCell (b := bp) (o := 15) (Nat.le_refl _) (fun _ => ⟨rfl, by omega, by omega⟩) (.int .i32 db.lg)) fun C => ?_⟩
      have E := hn.least (x := db.lw) (y := db.lh) (z := db.lg) hbp C (by simp (maxDischargeDepth := 8) [World.cell?_setCell_other, World.cell?_setCell_same', *]) (by simp (maxDischargeDepth := 8) [World.cell?_setCell_other, World.cell?_setCell_same', *]) (by simp (maxDischargeDepth := 8) [World.cell?_setCell_other, World.cell?_setCell_same', *])
      have e : best2 d (some da) (some db) = { d with lw := db.lw, lh := db.lh, lg := db.lg } := by simp [best2, best1, h1, h2]
      rw [e]; exact E
    · have h2 : lessB db.lw db.lh db.lg d.w d.h d.g = false := by assumption
      go_end0
      refine ⟨rfl, and_self_of (c3) fun C => ?_⟩
      have E := hn.least (x := d.w) (y := d.h) (z := d.g) hbp C (by simp (maxDischargeDepth := 8) [World.cell?_setCell_other, World.cell?_setCell_same', *]) (by simp (maxDischargeDepth := 8) [World.cell?_setCell_other, World.cell?_setCell_same', *]) (by simp (maxDischargeDepth := 8) [World.cell?_setCell_other, World.cell?_setCell_same', *])
      have e : best2 d (some da) (some db) = { d with lw := d.w, lh := d.h, lg := d.g } := by simp [best2, best1, h1, h2]
      rw [e]; exact E

end Go.Proofs.Ybulkjqw
