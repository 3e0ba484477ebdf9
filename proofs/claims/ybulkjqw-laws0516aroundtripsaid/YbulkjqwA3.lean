import Derived.Test.YbulkjqwA2
namespace Go.Proofs.Ybulkjqw
open Go.RowKit
set_option linter.unusedSimpArgs false
set_option linter.unusedVariables false

/-- The ten cells of a treap node. -/
structure Nd where
  w : Int
  h : Int
  g : Int
  lw : Int
  lh : Int
  lg : Int
  cnt : Int
  l : Int
  r : Int
  p : Int

def Nd.at (n : Nd) : Nat → Value
  | 0 => .int .i32 n.w
  | 1 => .int .i32 n.h
  | 2 => .int .i32 n.g
  | 3 => .int .i32 n.lw
  | 4 => .int .i32 n.lh
  | 5 => .int .i32 n.lg
  | 6 => .int .i32 n.cnt
  | 7 => .int .i32 n.l
  | 8 => .int .i32 n.r
  | _ => .int .u32 n.p

/-- Node i of the page that lies in block bp is 'n'. -/
def IsNd (w : World) (bp i : Nat) (n : Nd) : Prop := ∀ k, k < 10 → w.cell? ⟨bp, i * 10 + k, none⟩ = some (n.at k) ∧ w.frozen? ⟨bp, i * 10 + k, none⟩ = false

set_option maxHeartbeats 1000000 in
theorem aset_any (bp : Nat) (i : Int) (n : Nd) (a b c d e f g j : Int) (w : World) (h0 : 0 ≤ i) (h1 : i < 1024) (hbp : bp < w.heap.size) (hcs : IsNd w bp i.toNat n) :
    Calls Yba.prog 14 #[.pointer (some ⟨bp, 0, none⟩), .int .i32 i, .agg #[.int .i32 a, .int .i32 b, .int .i32 c, .int .i32 d, .int .i32 e, .int .i32 f, .int .i32 g, .int .u32 j]] w
      fun r w' => r = .returned (.tuple #[]) ∧ Chg bp (fun b o => b = bp ∧ i.toNat * 10 ≤ o ∧ o < i.toNat * 10 + 10) w w' ∧ IsNd w' bp i.toNat ⟨a, b, c, d, e, f, g, 0, 0, j⟩ := by
  have hne : bp ≠ w.heap.size := by omega
  have c0 := (hcs 0 (by omega)).1
  have f0 := (hcs 0 (by omega)).2
  have c1 := (hcs 1 (by omega)).1
  have f1 := (hcs 1 (by omega)).2
  have c2 := (hcs 2 (by omega)).1
  have f2 := (hcs 2 (by omega)).2
  have c3 := (hcs 3 (by omega)).1
  have f3 := (hcs 3 (by omega)).2
  have c4 := (hcs 4 (by omega)).1
  have f4 := (hcs 4 (by omega)).2
  have c5 := (hcs 5 (by omega)).1
  have f5 := (hcs 5 (by omega)).2
  have c6 := (hcs 6 (by omega)).1
  have f6 := (hcs 6 (by omega)).2
  have c7 := (hcs 7 (by omega)).1
  have f7 := (hcs 7 (by omega)).2
  have c8 := (hcs 8 (by omega)).1
  have f8 := (hcs 8 (by omega)).2
  have c9 := (hcs 9 (by omega)).1
  have f9 := (hcs 9 (by omega)).2
  simp only [Nd.at, Nat.add_zero] at c0 c1 c2 c3 c4 c5 c6 c7 c8 c9 f0
  clear hcs
  go_enter Yba.func14, Yba.ntmps14
  go_wp2
  go_region_held3 (fun w' => w'.cell? ⟨w.heap.size, 0, none⟩ = some (.int .i32 a) ∧ w'.cell? ⟨w.heap.size, 1, none⟩ = some (.int .i32 b) ∧ w'.cell? ⟨w.heap.size, 2, none⟩ = some (.int .i32 c) ∧ w'.cell? ⟨w.heap.size, 3, none⟩ = some (.int .i32 d) ∧ w'.cell? ⟨w.heap.size, 4, none⟩ = some (.int .i32 e) ∧ w'.cell? ⟨w.heap.size, 5, none⟩ = some (.int .i32 f) ∧ w'.cell? ⟨w.heap.size, 6, none⟩ = some (.int .i32 g) ∧ w'.cell? ⟨w.heap.size, 7, none⟩ = some (.int .u32 j)) (simp [World.cell?_alloc_at]) (fail)
  all_goals (go_end0; refine ⟨rfl, ?_, ?_⟩)
  · refine Chg.drew (Chg.alloc ?_ (by simp; omega) _)
    repeat (refine Chg.setCell ?_ (Nat.le_refl _) (fun _ => ⟨rfl, by omega, by omega⟩) _)
    exact Chg.refl _ _ _
  · intro k hk
    rw [World.cell?_drew, World.frozen?_drew, World.cell?_alloc_past _ _ _ (by simpa using hbp), World.frozen?_alloc_past _ _ _ (by simpa using hbp)]
    match k, hk with
    | 0, _ => simp [Nd.at, World.cell?_setCell_other, World.cell?_setCell_same', *]
    | 1, _ => simp [Nd.at, World.cell?_setCell_other, World.cell?_setCell_same', *]
    | 2, _ => simp [Nd.at, World.cell?_setCell_other, World.cell?_setCell_same', *]
    | 3, _ => simp [Nd.at, World.cell?_setCell_other, World.cell?_setCell_same', *]
    | 4, _ => simp [Nd.at, World.cell?_setCell_other, World.cell?_setCell_same', *]
    | 5, _ => simp [Nd.at, World.cell?_setCell_other, World.cell?_setCell_same', *]
    | 6, _ => simp [Nd.at, World.cell?_setCell_other, World.cell?_setCell_same', *]
    | 7, _ => simp [Nd.at, World.cell?_setCell_other, World.cell?_setCell_same', *]
    | 8, _ => simp [Nd.at, World.cell?_setCell_other, World.cell?_setCell_same', *]
    | 9, _ => simp [Nd.at, World.cell?_setCell_other, World.cell?_setCell_same', *]

end Go.Proofs.Ybulkjqw
