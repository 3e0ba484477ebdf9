import Derived.Test.YbulkjqwA6
namespace Go.Proofs.Ybulkjqw
open Go.RowKit
set_option linter.unusedSimpArgs false
set_option linter.unusedVariables false

theorem IsNd.putL {bp i o : Nat} {d : Dat} {l r v : Int} {w : World} (h : IsNd w bp i (d.nd l r)) (ho : o = i * 10 + 7) : IsNd (w.setCell ⟨bp, o, none⟩ (.int .i32 v)) bp i (d.nd v r) := by subst ho; exact h.set7 v
theorem IsNd.putR {bp i o : Nat} {d : Dat} {l r v : Int} {w : World} (h : IsNd w bp i (d.nd l r)) (ho : o = i * 10 + 8) : IsNd (w.setCell ⟨bp, o, none⟩ (.int .i32 v)) bp i (d.nd l v) := by subst ho; exact h.set8 v
theorem IsNd.stay {B bp i n : Nat} {m : Nd} {w w' : World} (h : IsNd w bp i m) (hc : Chg B (fun b o => b = bp ∧ n * 10 + 3 ≤ o ∧ o < n * 10 + 6) w w') (hbp : bp < w.heap.size) (hne : i ≠ n) : IsNd w' bp i m := by
  intro k hk
  rw [hc.cell _ _ hbp (by omega), hc.frozen _ _ hbp]
  exact h k hk

/-- What the two laws know of the index: its two leading cells, and the page's five nodes. -/
structure Idx (w : World) (bx bs bp : Nat) (d1 d2 d3 d4 d5 : Dat) (l1 r1 l2 r2 : Int) : Prop where
  zx : bx < w.heap.size
  zs : bs < w.heap.size
  zp : bp < w.heap.size
  ne1 : bp ≠ bx
  ne2 : bp ≠ bs
  hx : w.cell? ⟨bx, 1, none⟩ = some (.slice (some ⟨bs, 0, none⟩) 1 1)
  hs : w.cell? ⟨bs, 0, none⟩ = some (.pointer (some ⟨bp, 0, none⟩))
  n1 : IsNd w bp 1 (d1.nd l1 r1)
  n2 : IsNd w bp 2 (d2.nd l2 r2)
  n3 : IsNd w bp 3 (d3.nd 0 0)
  n4 : IsNd w bp 4 (d4.nd 0 0)
  n5 : IsNd w bp 5 (d5.nd 0 0)

set_option maxHeartbeats 1000000 in
theorem rotL_00 (bx bs bp : Nat) (d1 d2 d3 d4 d5 : Dat) (r2 : Int) (w : World) (I : Idx w bx bs bp d1 d2 d3 d4 d5 0 2 0 r2) :
    Calls Yba.prog 7 #[.pointer (some ⟨bx, 0, none⟩), .int .i32 1] w fun e w' => e = .returned (.int .i32 2) ∧ Below bp w w' ∧
      Idx w' bx bs bp (best2 d1 none none) d2 d3 d4 d5 0 0 1 r2 := by
  obtain ⟨hbx, hbs, hbp, hne1, hne2, hx, hs, n1, n2, n3, n4, n5⟩ := I
  obtain ⟨c8, f8⟩ : w.cell? ⟨bp, 18, none⟩ = some (.int .i32 2) ∧ w.frozen? ⟨bp, 18, none⟩ = false := n1 8 (by omega)
  obtain ⟨c7, f7⟩ : w.cell? ⟨bp, 27, none⟩ = some (.int .i32 0) ∧ w.frozen? ⟨bp, 27, none⟩ = false := n2 7 (by omega)
  have hx2 : ((w.setCell ⟨bp, 18, none⟩ (.int .i32 0)).setCell ⟨bp, 27, none⟩ (.int .i32 1)).cell? ⟨bx, 1, none⟩ = some (.slice (some ⟨bs, 0, none⟩) 1 1) := by simp [World.cell?_setCell_other, *]
  have hs2 : ((w.setCell ⟨bp, 18, none⟩ (.int .i32 0)).setCell ⟨bp, 27, none⟩ (.int .i32 1)).cell? ⟨bs, 0, none⟩ = some (.pointer (some ⟨bp, 0, none⟩)) := by simp [World.cell?_setCell_other, *]
  have m1 : IsNd ((w.setCell ⟨bp, 18, none⟩ (.int .i32 0)).setCell ⟨bp, 27, none⟩ (.int .i32 1)) bp 1 (d1.nd 0 0) := (n1.putR (by omega)).putOther (by omega)
  have m2 : IsNd ((w.setCell ⟨bp, 18, none⟩ (.int .i32 0)).setCell ⟨bp, 27, none⟩ (.int .i32 1)) bp 2 (d2.nd 1 r2) := (n2.putOther (by omega)).putL (by omega)
  have m3 : IsNd ((w.setCell ⟨bp, 18, none⟩ (.int .i32 0)).setCell ⟨bp, 27, none⟩ (.int .i32 1)) bp 3 (d3.nd 0 0) := (n3.putOther (by omega)).putOther (by omega)
  have m4 : IsNd ((w.setCell ⟨bp, 18, none⟩ (.int .i32 0)).setCell ⟨bp, 27, none⟩ (.int .i32 1)) bp 4 (d4.nd 0 0) := (n4.putOther (by omega)).putOther (by omega)
  have m5 : IsNd ((w.setCell ⟨bp, 18, none⟩ (.int .i32 0)).setCell ⟨bp, 27, none⟩ (.int .i32 1)) bp 5 (d5.nd 0 0) := (n5.putOther (by omega)).putOther (by omega)
  have hB : Below bp w ((w.setCell ⟨bp, 18, none⟩ (.int .i32 0)).setCell ⟨bp, 27, none⟩ (.int .i32 1)) := ((Below.refl bp w).setCell (p := ⟨bp, 18, none⟩) (Nat.le_refl _) _).setCell (p := ⟨bp, 27, none⟩) (Nat.le_refl _) _
  have HU := update_100 bx bs bp d1 d3 d4 0 0 0 0 _ (by simpa using hbx) (by simpa using hbs) (by simpa using hbp) hne1 hne2 hx2 hs2 m1 m3 m4
  go_enter Yba.func7, Yba.ntmps7
  go_wp2_with (go_at_call 15; refine (node_any bx bs bp _ _ (by omega) (by omega) (by simp [World.cell?_setCell_other, *]) (by simp [World.cell?_setCell_other, *])).mono ?_; rintro e w' ⟨rfl, rfl⟩)
  refine HU.mono ?_
  rintro e w1 ⟨rfl, C, m1'⟩
  go_wp2
  go_ret
  exact ⟨rfl, hB.trans C.below, Nat.lt_of_lt_of_le (by simpa using hbx) C.size, Nat.lt_of_lt_of_le (by simpa using hbs) C.size, Nat.lt_of_lt_of_le (by simpa using hbp) C.size, hne1, hne2, C.same hx2 (by omega), C.same hs2 (by omega), m1',
    m2.stay C (by simpa using hbp) (by omega), m3.stay C (by simpa using hbp) (by omega), m4.stay C (by simpa using hbp) (by omega), m5.stay C (by simpa using hbp) (by omega)⟩

set_option maxHeartbeats 1000000 in
theorem rotL_04 (bx bs bp : Nat) (d1 d2 d3 d4 d5 : Dat) (r2 : Int) (w : World) (I : Idx w bx bs bp d1 d2 d3 d4 d5 0 2 4 r2) :
    Calls Yba.prog 7 #[.pointer (some ⟨bx, 0, none⟩), .int .i32 1] w fun e w' => e = .returned (.int .i32 2) ∧ Below bp w w' ∧
      Idx w' bx bs bp (best2 d1 none (some d4)) d2 d3 d4 d5 0 4 1 r2 := by
  obtain ⟨hbx, hbs, hbp, hne1, hne2, hx, hs, n1, n2, n3, n4, n5⟩ := I
  obtain ⟨c8, f8⟩ : w.cell? ⟨bp, 18, none⟩ = some (.int .i32 2) ∧ w.frozen? ⟨bp, 18, none⟩ = false := n1 8 (by omega)
  obtain ⟨c7, f7⟩ : w.cell? ⟨bp, 27, none⟩ = some (.int .i32 4) ∧ w.frozen? ⟨bp, 27, none⟩ = false := n2 7 (by omega)
  have hx2 : ((w.setCell ⟨bp, 18, none⟩ (.int .i32 4)).setCell ⟨bp, 27, none⟩ (.int .i32 1)).cell? ⟨bx, 1, none⟩ = some (.slice (some ⟨bs, 0, none⟩) 1 1) := by simp [World.cell?_setCell_other, *]
  have hs2 : ((w.setCell ⟨bp, 18, none⟩ (.int .i32 4)).setCell ⟨bp, 27, none⟩ (.int .i32 1)).cell? ⟨bs, 0, none⟩ = some (.pointer (some ⟨bp, 0, none⟩)) := by simp [World.cell?_setCell_other, *]
  have m1 : IsNd ((w.setCell ⟨bp, 18, none⟩ (.int .i32 4)).setCell ⟨bp, 27, none⟩ (.int .i32 1)) bp 1 (d1.nd 0 4) := (n1.putR (by omega)).putOther (by omega)
  have m2 : IsNd ((w.setCell ⟨bp, 18, none⟩ (.int .i32 4)).setCell ⟨bp, 27, none⟩ (.int .i32 1)) bp 2 (d2.nd 1 r2) := (n2.putOther (by omega)).putL (by omega)
  have m3 : IsNd ((w.setCell ⟨bp, 18, none⟩ (.int .i32 4)).setCell ⟨bp, 27, none⟩ (.int .i32 1)) bp 3 (d3.nd 0 0) := (n3.putOther (by omega)).putOther (by omega)
  have m4 : IsNd ((w.setCell ⟨bp, 18, none⟩ (.int .i32 4)).setCell ⟨bp, 27, none⟩ (.int .i32 1)) bp 4 (d4.nd 0 0) := (n4.putOther (by omega)).putOther (by omega)
  have m5 : IsNd ((w.setCell ⟨bp, 18, none⟩ (.int .i32 4)).setCell ⟨bp, 27, none⟩ (.int .i32 1)) bp 5 (d5.nd 0 0) := (n5.putOther (by omega)).putOther (by omega)
  have hB : Below bp w ((w.setCell ⟨bp, 18, none⟩ (.int .i32 4)).setCell ⟨bp, 27, none⟩ (.int .i32 1)) := ((Below.refl bp w).setCell (p := ⟨bp, 18, none⟩) (Nat.le_refl _) _).setCell (p := ⟨bp, 27, none⟩) (Nat.le_refl _) _
  have HU := update_104 bx bs bp d1 d3 d4 0 0 0 0 _ (by simpa using hbx) (by simpa using hbs) (by simpa using hbp) hne1 hne2 hx2 hs2 m1 m3 m4
  go_enter Yba.func7, Yba.ntmps7
  go_wp2_with (go_at_call 15; refine (node_any bx bs bp _ _ (by omega) (by omega) (by simp [World.cell?_setCell_other, *]) (by simp [World.cell?_setCell_other, *])).mono ?_; rintro e w' ⟨rfl, rfl⟩)
  refine HU.mono ?_
  rintro e w1 ⟨rfl, C, m1'⟩
  go_wp2
  go_ret
  exact ⟨rfl, hB.trans C.below, Nat.lt_of_lt_of_le (by simpa using hbx) C.size, Nat.lt_of_lt_of_le (by simpa using hbs) C.size, Nat.lt_of_lt_of_le (by simpa using hbp) C.size, hne1, hne2, C.same hx2 (by omega), C.same hs2 (by omega), m1',
    m2.stay C (by simpa using hbp) (by omega), m3.stay C (by simpa using hbp) (by omega), m4.stay C (by simpa using hbp) (by omega), m5.stay C (by simpa using hbp) (by omega)⟩

set_option maxHeartbeats 1000000 in
theorem rotL_30 (bx bs bp : Nat) (d1 d2 d3 d4 d5 : Dat) (r2 : Int) (w : World) (I : Idx w bx bs bp d1 d2 d3 d4 d5 3 2 0 r2) :
    Calls Yba.prog 7 #[.pointer (some ⟨bx, 0, none⟩), .int .i32 1] w fun e w' => e = .returned (.int .i32 2) ∧ Below bp w w' ∧
      Idx w' bx bs bp (best2 d1 (some d3) none) d2 d3 d4 d5 3 0 1 r2 := by
  obtain ⟨hbx, hbs, hbp, hne1, hne2, hx, hs, n1, n2, n3, n4, n5⟩ := I
  obtain ⟨c8, f8⟩ : w.cell? ⟨bp, 18, none⟩ = some (.int .i32 2) ∧ w.frozen? ⟨bp, 18, none⟩ = false := n1 8 (by omega)
  obtain ⟨c7, f7⟩ : w.cell? ⟨bp, 27, none⟩ = some (.int .i32 0) ∧ w.frozen? ⟨bp, 27, none⟩ = false := n2 7 (by omega)
  have hx2 : ((w.setCell ⟨bp, 18, none⟩ (.int .i32 0)).setCell ⟨bp, 27, none⟩ (.int .i32 1)).cell? ⟨bx, 1, none⟩ = some (.slice (some ⟨bs, 0, none⟩) 1 1) := by simp [World.cell?_setCell_other, *]
  have hs2 : ((w.setCell ⟨bp, 18, none⟩ (.int .i32 0)).setCell ⟨bp, 27, none⟩ (.int .i32 1)).cell? ⟨bs, 0, none⟩ = some (.pointer (some ⟨bp, 0, none⟩)) := by simp [World.cell?_setCell_other, *]
  have m1 : IsNd ((w.setCell ⟨bp, 18, none⟩ (.int .i32 0)).setCell ⟨bp, 27, none⟩ (.int .i32 1)) bp 1 (d1.nd 3 0) := (n1.putR (by omega)).putOther (by omega)
  have m2 : IsNd ((w.setCell ⟨bp, 18, none⟩ (.int .i32 0)).setCell ⟨bp, 27, none⟩ (.int .i32 1)) bp 2 (d2.nd 1 r2) := (n2.putOther (by omega)).putL (by omega)
  have m3 : IsNd ((w.setCell ⟨bp, 18, none⟩ (.int .i32 0)).setCell ⟨bp, 27, none⟩ (.int .i32 1)) bp 3 (d3.nd 0 0) := (n3.putOther (by omega)).putOther (by omega)
  have m4 : IsNd ((w.setCell ⟨bp, 18, none⟩ (.int .i32 0)).setCell ⟨bp, 27, none⟩ (.int .i32 1)) bp 4 (d4.nd 0 0) := (n4.putOther (by omega)).putOther (by omega)
  have m5 : IsNd ((w.setCell ⟨bp, 18, none⟩ (.int .i32 0)).setCell ⟨bp, 27, none⟩ (.int .i32 1)) bp 5 (d5.nd 0 0) := (n5.putOther (by omega)).putOther (by omega)
  have hB : Below bp w ((w.setCell ⟨bp, 18, none⟩ (.int .i32 0)).setCell ⟨bp, 27, none⟩ (.int .i32 1)) := ((Below.refl bp w).setCell (p := ⟨bp, 18, none⟩) (Nat.le_refl _) _).setCell (p := ⟨bp, 27, none⟩) (Nat.le_refl _) _
  have HU := update_130 bx bs bp d1 d3 d4 0 0 0 0 _ (by simpa using hbx) (by simpa using hbs) (by simpa using hbp) hne1 hne2 hx2 hs2 m1 m3 m4
  go_enter Yba.func7, Yba.ntmps7
  go_wp2_with (go_at_call 15; refine (node_any bx bs bp _ _ (by omega) (by omega) (by simp [World.cell?_setCell_other, *]) (by simp [World.cell?_setCell_other, *])).mono ?_; rintro e w' ⟨rfl, rfl⟩)
  refine HU.mono ?_
  rintro e w1 ⟨rfl, C, m1'⟩
  go_wp2
  go_ret
  exact ⟨rfl, hB.trans C.below, Nat.lt_of_lt_of_le (by simpa using hbx) C.size, Nat.lt_of_lt_of_le (by simpa using hbs) C.size, Nat.lt_of_lt_of_le (by simpa using hbp) C.size, hne1, hne2, C.same hx2 (by omega), C.same hs2 (by omega), m1',
    m2.stay C (by simpa using hbp) (by omega), m3.stay C (by simpa using hbp) (by omega), m4.stay C (by simpa using hbp) (by omega), m5.stay C (by simpa using hbp) (by omega)⟩

set_option maxHeartbeats 1000000 in
theorem rotL_34 (bx bs bp : Nat) (d1 d2 d3 d4 d5 : Dat) (r2 : Int) (w : World) (I : Idx w bx bs bp d1 d2 d3 d4 d5 3 2 4 r2) :
    Calls Yba.prog 7 #[.pointer (some ⟨bx, 0, none⟩), .int .i32 1] w fun e w' => e = .returned (.int .i32 2) ∧ Below bp w w' ∧
      Idx w' bx bs bp (best2 d1 (some d3) (some d4)) d2 d3 d4 d5 3 4 1 r2 := by
  obtain ⟨hbx, hbs, hbp, hne1, hne2, hx, hs, n1, n2, n3, n4, n5⟩ := I
  obtain ⟨c8, f8⟩ : w.cell? ⟨bp, 18, none⟩ = some (.int .i32 2) ∧ w.frozen? ⟨bp, 18, none⟩ = false := n1 8 (by omega)
  obtain ⟨c7, f7⟩ : w.cell? ⟨bp, 27, none⟩ = some (.int .i32 4) ∧ w.frozen? ⟨bp, 27, none⟩ = false := n2 7 (by omega)
  have hx2 : ((w.setCell ⟨bp, 18, none⟩ (.int .i32 4)).setCell ⟨bp, 27, none⟩ (.int .i32 1)).cell? ⟨bx, 1, none⟩ = some (.slice (some ⟨bs, 0, none⟩) 1 1) := by simp [World.cell?_setCell_other, *]
  have hs2 : ((w.setCell ⟨bp, 18, none⟩ (.int .i32 4)).setCell ⟨bp, 27, none⟩ (.int .i32 1)).cell? ⟨bs, 0, none⟩ = some (.pointer (some ⟨bp, 0, none⟩)) := by simp [World.cell?_setCell_other, *]
  have m1 : IsNd ((w.setCell ⟨bp, 18, none⟩ (.int .i32 4)).setCell ⟨bp, 27, none⟩ (.int .i32 1)) bp 1 (d1.nd 3 4) := (n1.putR (by omega)).putOther (by omega)
  have m2 : IsNd ((w.setCell ⟨bp, 18, none⟩ (.int .i32 4)).setCell ⟨bp, 27, none⟩ (.int .i32 1)) bp 2 (d2.nd 1 r2) := (n2.putOther (by omega)).putL (by omega)
  have m3 : IsNd ((w.setCell ⟨bp, 18, none⟩ (.int .i32 4)).setCell ⟨bp, 27, none⟩ (.int .i32 1)) bp 3 (d3.nd 0 0) := (n3.putOther (by omega)).putOther (by omega)
  have m4 : IsNd ((w.setCell ⟨bp, 18, none⟩ (.int .i32 4)).setCell ⟨bp, 27, none⟩ (.int .i32 1)) bp 4 (d4.nd 0 0) := (n4.putOther (by omega)).putOther (by omega)
  have m5 : IsNd ((w.setCell ⟨bp, 18, none⟩ (.int .i32 4)).setCell ⟨bp, 27, none⟩ (.int .i32 1)) bp 5 (d5.nd 0 0) := (n5.putOther (by omega)).putOther (by omega)
  have hB : Below bp w ((w.setCell ⟨bp, 18, none⟩ (.int .i32 4)).setCell ⟨bp, 27, none⟩ (.int .i32 1)) := ((Below.refl bp w).setCell (p := ⟨bp, 18, none⟩) (Nat.le_refl _) _).setCell (p := ⟨bp, 27, none⟩) (Nat.le_refl _) _
  have HU := update_134 bx bs bp d1 d3 d4 0 0 0 0 _ (by simpa using hbx) (by simpa using hbs) (by simpa using hbp) hne1 hne2 hx2 hs2 m1 m3 m4
  go_enter Yba.func7, Yba.ntmps7
  go_wp2_with (go_at_call 15; refine (node_any bx bs bp _ _ (by omega) (by omega) (by simp [World.cell?_setCell_other, *]) (by simp [World.cell?_setCell_other, *])).mono ?_; rintro e w' ⟨rfl, rfl⟩)
  refine HU.mono ?_
  rintro e w1 ⟨rfl, C, m1'⟩
  go_wp2
  go_ret
  exact ⟨rfl, hB.trans C.below, Nat.lt_of_lt_of_le (by simpa using hbx) C.size, Nat.lt_of_lt_of_le (by simpa using hbs) C.size, Nat.lt_of_lt_of_le (by simpa using hbp) C.size, hne1, hne2, C.same hx2 (by omega), C.same hs2 (by omega), m1',
    m2.stay C (by simpa using hbp) (by omega), m3.stay C (by simpa using hbp) (by omega), m4.stay C (by simpa using hbp) (by omega), m5.stay C (by simpa using hbp) (by omega)⟩

set_option maxHeartbeats 1000000 in
theorem rotR_00 (bx bs bp : Nat) (d1 d2 d3 d4 d5 : Dat) (l1 : Int) (w : World) (I : Idx w bx bs bp d1 d2 d3 d4 d5 l1 0 1 0) :
    Calls Yba.prog 11 #[.pointer (some ⟨bx, 0, none⟩), .int .i32 2] w fun e w' => e = .returned (.int .i32 1) ∧ Below bp w w' ∧
      Idx w' bx bs bp d1 (best2 d2 none none) d3 d4 d5 l1 2 0 0 := by
  obtain ⟨hbx, hbs, hbp, hne1, hne2, hx, hs, n1, n2, n3, n4, n5⟩ := I
  obtain ⟨c8, f8⟩ : w.cell? ⟨bp, 18, none⟩ = some (.int .i32 0) ∧ w.frozen? ⟨bp, 18, none⟩ = false := n1 8 (by omega)
  obtain ⟨c7, f7⟩ : w.cell? ⟨bp, 27, none⟩ = some (.int .i32 1) ∧ w.frozen? ⟨bp, 27, none⟩ = false := n2 7 (by omega)
  have hx2 : ((w.setCell ⟨bp, 27, none⟩ (.int .i32 0)).setCell ⟨bp, 18, none⟩ (.int .i32 2)).cell? ⟨bx, 1, none⟩ = some (.slice (some ⟨bs, 0, none⟩) 1 1) := by simp [World.cell?_setCell_other, *]
  have hs2 : ((w.setCell ⟨bp, 27, none⟩ (.int .i32 0)).setCell ⟨bp, 18, none⟩ (.int .i32 2)).cell? ⟨bs, 0, none⟩ = some (.pointer (some ⟨bp, 0, none⟩)) := by simp [World.cell?_setCell_other, *]
  have m1 : IsNd ((w.setCell ⟨bp, 27, none⟩ (.int .i32 0)).setCell ⟨bp, 18, none⟩ (.int .i32 2)) bp 1 (d1.nd l1 2) := (n1.putOther (by omega)).putR (by omega)
  have m2 : IsNd ((w.setCell ⟨bp, 27, none⟩ (.int .i32 0)).setCell ⟨bp, 18, none⟩ (.int .i32 2)) bp 2 (d2.nd 0 0) := (n2.putL (by omega)).putOther (by omega)
  have m3 : IsNd ((w.setCell ⟨bp, 27, none⟩ (.int .i32 0)).setCell ⟨bp, 18, none⟩ (.int .i32 2)) bp 3 (d3.nd 0 0) := (n3.putOther (by omega)).putOther (by omega)
  have m4 : IsNd ((w.setCell ⟨bp, 27, none⟩ (.int .i32 0)).setCell ⟨bp, 18, none⟩ (.int .i32 2)) bp 4 (d4.nd 0 0) := (n4.putOther (by omega)).putOther (by omega)
  have m5 : IsNd ((w.setCell ⟨bp, 27, none⟩ (.int .i32 0)).setCell ⟨bp, 18, none⟩ (.int .i32 2)) bp 5 (d5.nd 0 0) := (n5.putOther (by omega)).putOther (by omega)
  have hB : Below bp w ((w.setCell ⟨bp, 27, none⟩ (.int .i32 0)).setCell ⟨bp, 18, none⟩ (.int .i32 2)) := ((Below.refl bp w).setCell (p := ⟨bp, 27, none⟩) (Nat.le_refl _) _).setCell (p := ⟨bp, 18, none⟩) (Nat.le_refl _) _
  have HU := update_200 bx bs bp d2 d3 d4 0 0 0 0 _ (by simpa using hbx) (by simpa using hbs) (by simpa using hbp) hne1 hne2 hx2 hs2 m2 m3 m4
  go_enter Yba.func11, Yba.ntmps11
  go_wp2_with (go_at_call 15; refine (node_any bx bs bp _ _ (by omega) (by omega) (by simp [World.cell?_setCell_other, *]) (by simp [World.cell?_setCell_other, *])).mono ?_; rintro e w' ⟨rfl, rfl⟩)
  refine HU.mono ?_
  rintro e w1 ⟨rfl, C, m2'⟩
  go_wp2
  go_ret
  exact ⟨rfl, hB.trans C.below, Nat.lt_of_lt_of_le (by simpa using hbx) C.size, Nat.lt_of_lt_of_le (by simpa using hbs) C.size, Nat.lt_of_lt_of_le (by simpa using hbp) C.size, hne1, hne2, C.same hx2 (by omega), C.same hs2 (by omega), m1.stay C (by simpa using hbp) (by omega),
    m2', m3.stay C (by simpa using hbp) (by omega), m4.stay C (by simpa using hbp) (by omega), m5.stay C (by simpa using hbp) (by omega)⟩

set_option maxHeartbeats 1000000 in
theorem rotR_05 (bx bs bp : Nat) (d1 d2 d3 d4 d5 : Dat) (l1 : Int) (w : World) (I : Idx w bx bs bp d1 d2 d3 d4 d5 l1 0 1 5) :
    Calls Yba.prog 11 #[.pointer (some ⟨bx, 0, none⟩), .int .i32 2] w fun e w' => e = .returned (.int .i32 1) ∧ Below bp w w' ∧
      Idx w' bx bs bp d1 (best2 d2 none (some d5)) d3 d4 d5 l1 2 0 5 := by
  obtain ⟨hbx, hbs, hbp, hne1, hne2, hx, hs, n1, n2, n3, n4, n5⟩ := I
  obtain ⟨c8, f8⟩ : w.cell? ⟨bp, 18, none⟩ = some (.int .i32 0) ∧ w.frozen? ⟨bp, 18, none⟩ = false := n1 8 (by omega)
  obtain ⟨c7, f7⟩ : w.cell? ⟨bp, 27, none⟩ = some (.int .i32 1) ∧ w.frozen? ⟨bp, 27, none⟩ = false := n2 7 (by omega)
  have hx2 : ((w.setCell ⟨bp, 27, none⟩ (.int .i32 0)).setCell ⟨bp, 18, none⟩ (.int .i32 2)).cell? ⟨bx, 1, none⟩ = some (.slice (some ⟨bs, 0, none⟩) 1 1) := by simp [World.cell?_setCell_other, *]
  have hs2 : ((w.setCell ⟨bp, 27, none⟩ (.int .i32 0)).setCell ⟨bp, 18, none⟩ (.int .i32 2)).cell? ⟨bs, 0, none⟩ = some (.pointer (some ⟨bp, 0, none⟩)) := by simp [World.cell?_setCell_other, *]
  have m1 : IsNd ((w.setCell ⟨bp, 27, none⟩ (.int .i32 0)).setCell ⟨bp, 18, none⟩ (.int .i32 2)) bp 1 (d1.nd l1 2) := (n1.putOther (by omega)).putR (by omega)
  have m2 : IsNd ((w.setCell ⟨bp, 27, none⟩ (.int .i32 0)).setCell ⟨bp, 18, none⟩ (.int .i32 2)) bp 2 (d2.nd 0 5) := (n2.putL (by omega)).putOther (by omega)
  have m3 : IsNd ((w.setCell ⟨bp, 27, none⟩ (.int .i32 0)).setCell ⟨bp, 18, none⟩ (.int .i32 2)) bp 3 (d3.nd 0 0) := (n3.putOther (by omega)).putOther (by omega)
  have m4 : IsNd ((w.setCell ⟨bp, 27, none⟩ (.int .i32 0)).setCell ⟨bp, 18, none⟩ (.int .i32 2)) bp 4 (d4.nd 0 0) := (n4.putOther (by omega)).putOther (by omega)
  have m5 : IsNd ((w.setCell ⟨bp, 27, none⟩ (.int .i32 0)).setCell ⟨bp, 18, none⟩ (.int .i32 2)) bp 5 (d5.nd 0 0) := (n5.putOther (by omega)).putOther (by omega)
  have hB : Below bp w ((w.setCell ⟨bp, 27, none⟩ (.int .i32 0)).setCell ⟨bp, 18, none⟩ (.int .i32 2)) := ((Below.refl bp w).setCell (p := ⟨bp, 27, none⟩) (Nat.le_refl _) _).setCell (p := ⟨bp, 18, none⟩) (Nat.le_refl _) _
  have HU := update_205 bx bs bp d2 d3 d5 0 0 0 0 _ (by simpa using hbx) (by simpa using hbs) (by simpa using hbp) hne1 hne2 hx2 hs2 m2 m3 m5
  go_enter Yba.func11, Yba.ntmps11
  go_wp2_with (go_at_call 15; refine (node_any bx bs bp _ _ (by omega) (by omega) (by simp [World.cell?_setCell_other, *]) (by simp [World.cell?_setCell_other, *])).mono ?_; rintro e w' ⟨rfl, rfl⟩)
  refine HU.mono ?_
  rintro e w1 ⟨rfl, C, m2'⟩
  go_wp2
  go_ret
  exact ⟨rfl, hB.trans C.below, Nat.lt_of_lt_of_le (by simpa using hbx) C.size, Nat.lt_of_lt_of_le (by simpa using hbs) C.size, Nat.lt_of_lt_of_le (by simpa using hbp) C.size, hne1, hne2, C.same hx2 (by omega), C.same hs2 (by omega), m1.stay C (by simpa using hbp) (by omega),
    m2', m3.stay C (by simpa using hbp) (by omega), m4.stay C (by simpa using hbp) (by omega), m5.stay C (by simpa using hbp) (by omega)⟩

set_option maxHeartbeats 1000000 in
theorem rotR_40 (bx bs bp : Nat) (d1 d2 d3 d4 d5 : Dat) (l1 : Int) (w : World) (I : Idx w bx bs bp d1 d2 d3 d4 d5 l1 4 1 0) :
    Calls Yba.prog 11 #[.pointer (some ⟨bx, 0, none⟩), .int .i32 2] w fun e w' => e = .returned (.int .i32 1) ∧ Below bp w w' ∧
      Idx w' bx bs bp d1 (best2 d2 (some d4) none) d3 d4 d5 l1 2 4 0 := by
  obtain ⟨hbx, hbs, hbp, hne1, hne2, hx, hs, n1, n2, n3, n4, n5⟩ := I
  obtain ⟨c8, f8⟩ : w.cell? ⟨bp, 18, none⟩ = some (.int .i32 4) ∧ w.frozen? ⟨bp, 18, none⟩ = false := n1 8 (by omega)
  obtain ⟨c7, f7⟩ : w.cell? ⟨bp, 27, none⟩ = some (.int .i32 1) ∧ w.frozen? ⟨bp, 27, none⟩ = false := n2 7 (by omega)
  have hx2 : ((w.setCell ⟨bp, 27, none⟩ (.int .i32 4)).setCell ⟨bp, 18, none⟩ (.int .i32 2)).cell? ⟨bx, 1, none⟩ = some (.slice (some ⟨bs, 0, none⟩) 1 1) := by simp [World.cell?_setCell_other, *]
  have hs2 : ((w.setCell ⟨bp, 27, none⟩ (.int .i32 4)).setCell ⟨bp, 18, none⟩ (.int .i32 2)).cell? ⟨bs, 0, none⟩ = some (.pointer (some ⟨bp, 0, none⟩)) := by simp [World.cell?_setCell_other, *]
  have m1 : IsNd ((w.setCell ⟨bp, 27, none⟩ (.int .i32 4)).setCell ⟨bp, 18, none⟩ (.int .i32 2)) bp 1 (d1.nd l1 2) := (n1.putOther (by omega)).putR (by omega)
  have m2 : IsNd ((w.setCell ⟨bp, 27, none⟩ (.int .i32 4)).setCell ⟨bp, 18, none⟩ (.int .i32 2)) bp 2 (d2.nd 4 0) := (n2.putL (by omega)).putOther (by omega)
  have m3 : IsNd ((w.setCell ⟨bp, 27, none⟩ (.int .i32 4)).setCell ⟨bp, 18, none⟩ (.int .i32 2)) bp 3 (d3.nd 0 0) := (n3.putOther (by omega)).putOther (by omega)
  have m4 : IsNd ((w.setCell ⟨bp, 27, none⟩ (.int .i32 4)).setCell ⟨bp, 18, none⟩ (.int .i32 2)) bp 4 (d4.nd 0 0) := (n4.putOther (by omega)).putOther (by omega)
  have m5 : IsNd ((w.setCell ⟨bp, 27, none⟩ (.int .i32 4)).setCell ⟨bp, 18, none⟩ (.int .i32 2)) bp 5 (d5.nd 0 0) := (n5.putOther (by omega)).putOther (by omega)
  have hB : Below bp w ((w.setCell ⟨bp, 27, none⟩ (.int .i32 4)).setCell ⟨bp, 18, none⟩ (.int .i32 2)) := ((Below.refl bp w).setCell (p := ⟨bp, 27, none⟩) (Nat.le_refl _) _).setCell (p := ⟨bp, 18, none⟩) (Nat.le_refl _) _
  have HU := update_240 bx bs bp d2 d4 d4 0 0 0 0 _ (by simpa using hbx) (by simpa using hbs) (by simpa using hbp) hne1 hne2 hx2 hs2 m2 m4 m4
  go_enter Yba.func11, Yba.ntmps11
  go_wp2_with (go_at_call 15; refine (node_any bx bs bp _ _ (by omega) (by omega) (by simp [World.cell?_setCell_other, *]) (by simp [World.cell?_setCell_other, *])).mono ?_; rintro e w' ⟨rfl, rfl⟩)
  refine HU.mono ?_
  rintro e w1 ⟨rfl, C, m2'⟩
  go_wp2
  go_ret
  exact ⟨rfl, hB.trans C.below, Nat.lt_of_lt_of_le (by simpa using hbx) C.size, Nat.lt_of_lt_of_le (by simpa using hbs) C.size, Nat.lt_of_lt_of_le (by simpa using hbp) C.size, hne1, hne2, C.same hx2 (by omega), C.same hs2 (by omega), m1.stay C (by simpa using hbp) (by omega),
    m2', m3.stay C (by simpa using hbp) (by omega), m4.stay C (by simpa using hbp) (by omega), m5.stay C (by simpa using hbp) (by omega)⟩

set_option maxHeartbeats 1000000 in
theorem rotR_45 (bx bs bp : Nat) (d1 d2 d3 d4 d5 : Dat) (l1 : Int) (w : World) (I : Idx w bx bs bp d1 d2 d3 d4 d5 l1 4 1 5) :
    Calls Yba.prog 11 #[.pointer (some ⟨bx, 0, none⟩), .int .i32 2] w fun e w' => e = .returned (.int .i32 1) ∧ Below bp w w' ∧
      Idx w' bx bs bp d1 (best2 d2 (some d4) (some d5)) d3 d4 d5 l1 2 4 5 := by
  obtain ⟨hbx, hbs, hbp, hne1, hne2, hx, hs, n1, n2, n3, n4, n5⟩ := I
  obtain ⟨c8, f8⟩ : w.cell? ⟨bp, 18, none⟩ = some (.int .i32 4) ∧ w.frozen? ⟨bp, 18, none⟩ = false := n1 8 (by omega)
  obtain ⟨c7, f7⟩ : w.cell? ⟨bp, 27, none⟩ = some (.int .i32 1) ∧ w.frozen? ⟨bp, 27, none⟩ = false := n2 7 (by omega)
  have hx2 : ((w.setCell ⟨bp, 27, none⟩ (.int .i32 4)).setCell ⟨bp, 18, none⟩ (.int .i32 2)).cell? ⟨bx, 1, none⟩ = some (.slice (some ⟨bs, 0, none⟩) 1 1) := by simp [World.cell?_setCell_other, *]
  have hs2 : ((w.setCell ⟨bp, 27, none⟩ (.int .i32 4)).setCell ⟨bp, 18, none⟩ (.int .i32 2)).cell? ⟨bs, 0, none⟩ = some (.pointer (some ⟨bp, 0, none⟩)) := by simp [World.cell?_setCell_other, *]
  have m1 : IsNd ((w.setCell ⟨bp, 27, none⟩ (.int .i32 4)).setCell ⟨bp, 18, none⟩ (.int .i32 2)) bp 1 (d1.nd l1 2) := (n1.putOther (by omega)).putR (by omega)
  have m2 : IsNd ((w.setCell ⟨bp, 27, none⟩ (.int .i32 4)).setCell ⟨bp, 18, none⟩ (.int .i32 2)) bp 2 (d2.nd 4 5) := (n2.putL (by omega)).putOther (by omega)
  have m3 : IsNd ((w.setCell ⟨bp, 27, none⟩ (.int .i32 4)).setCell ⟨bp, 18, none⟩ (.int .i32 2)) bp 3 (d3.nd 0 0) := (n3.putOther (by omega)).putOther (by omega)
  have m4 : IsNd ((w.setCell ⟨bp, 27, none⟩ (.int .i32 4)).setCell ⟨bp, 18, none⟩ (.int .i32 2)) bp 4 (d4.nd 0 0) := (n4.putOther (by omega)).putOther (by omega)
  have m5 : IsNd ((w.setCell ⟨bp, 27, none⟩ (.int .i32 4)).setCell ⟨bp, 18, none⟩ (.int .i32 2)) bp 5 (d5.nd 0 0) := (n5.putOther (by omega)).putOther (by omega)
  have hB : Below bp w ((w.setCell ⟨bp, 27, none⟩ (.int .i32 4)).setCell ⟨bp, 18, none⟩ (.int .i32 2)) := ((Below.refl bp w).setCell (p := ⟨bp, 27, none⟩) (Nat.le_refl _) _).setCell (p := ⟨bp, 18, none⟩) (Nat.le_refl _) _
  have HU := update_245 bx bs bp d2 d4 d5 0 0 0 0 _ (by simpa using hbx) (by simpa using hbs) (by simpa using hbp) hne1 hne2 hx2 hs2 m2 m4 m5
  go_enter Yba.func11, Yba.ntmps11
  go_wp2_with (go_at_call 15; refine (node_any bx bs bp _ _ (by omega) (by omega) (by simp [World.cell?_setCell_other, *]) (by simp [World.cell?_setCell_other, *])).mono ?_; rintro e w' ⟨rfl, rfl⟩)
  refine HU.mono ?_
  rintro e w1 ⟨rfl, C, m2'⟩
  go_wp2
  go_ret
  exact ⟨rfl, hB.trans C.below, Nat.lt_of_lt_of_le (by simpa using hbx) C.size, Nat.lt_of_lt_of_le (by simpa using hbs) C.size, Nat.lt_of_lt_of_le (by simpa using hbp) C.size, hne1, hne2, C.same hx2 (by omega), C.same hs2 (by omega), m1.stay C (by simpa using hbp) (by omega),
    m2', m3.stay C (by simpa using hbp) (by omega), m4.stay C (by simpa using hbp) (by omega), m5.stay C (by simpa using hbp) (by omega)⟩


theorem rotL (bx bs bp : Nat) (d1 d2 d3 d4 d5 : Dat) (x y : Bool) (r2 : Int) (w : World) (I : Idx w bx bs bp d1 d2 d3 d4 d5 (if x then 3 else 0) 2 (if y then 4 else 0) r2) :
    Calls Yba.prog 7 #[.pointer (some ⟨bx, 0, none⟩), .int .i32 1] w fun e w' => e = .returned (.int .i32 2) ∧ Below bp w w' ∧
      Idx w' bx bs bp (best2 d1 (if x then some d3 else none) (if y then some d4 else none)) d2 d3 d4 d5 (if x then 3 else 0) (if y then 4 else 0) 1 r2 := by
  cases x <;> cases y
  · exact rotL_00 bx bs bp d1 d2 d3 d4 d5 r2 w I
  · exact rotL_04 bx bs bp d1 d2 d3 d4 d5 r2 w I
  · exact rotL_30 bx bs bp d1 d2 d3 d4 d5 r2 w I
  · exact rotL_34 bx bs bp d1 d2 d3 d4 d5 r2 w I

theorem rotR (bx bs bp : Nat) (d1 d2 d3 d4 d5 : Dat) (y z : Bool) (l1 : Int) (w : World) (I : Idx w bx bs bp d1 d2 d3 d4 d5 l1 (if y then 4 else 0) 1 (if z then 5 else 0)) :
    Calls Yba.prog 11 #[.pointer (some ⟨bx, 0, none⟩), .int .i32 2] w fun e w' => e = .returned (.int .i32 1) ∧ Below bp w w' ∧
      Idx w' bx bs bp d1 (best2 d2 (if y then some d4 else none) (if z then some d5 else none)) d3 d4 d5 l1 2 (if y then 4 else 0) (if z then 5 else 0) := by
  cases y <;> cases z
  · exact rotR_00 bx bs bp d1 d2 d3 d4 d5 l1 w I
  · exact rotR_05 bx bs bp d1 d2 d3 d4 d5 l1 w I
  · exact rotR_40 bx bs bp d1 d2 d3 d4 d5 l1 w I
  · exact rotR_45 bx bs bp d1 d2 d3 d4 d5 l1 w I

end Go.Proofs.Ybulkjqw
