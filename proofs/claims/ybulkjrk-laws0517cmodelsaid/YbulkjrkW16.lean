/-
  OWN WORK: placeFor, admission, trade (which trades nothing), appendRejected.
-/
import Derived.Test.YbulkjrkW15
namespace Go.Proofs.Ybulkjrk
open Go.RowKit
set_option linter.unusedSimpArgs false
set_option linter.unusedVariables false
set_option linter.unusedSectionVars false
set_option maxRecDepth 100000
variable [Base]
section
variable {ob : Nat → Nat} {m c eb bb : Nat} {g : Gp} {W W' : World} {q : Nat → List Nat} {tot : Nat → Int} {lev : Nat → Option Nat}
/-- What a search answers, at the state. -/
theorem search_ph (h : Ph ob m eb bb g W) {k : Nat} (hk : k < 4) (price : Int) : Calls Yba.prog 19 #[.pointer (some ⟨bb, 1 + 4 * k, none⟩), .int .i64 price] W fun e w' => Below W.heap.size W w' ∧ ∃ pl, e = .returned pl ∧ Place (g.σ k) (g.ll k) price pl := by
  have hG := h.good k hk
  obtain ⟨hT, tree⟩ := hG.tree
  refine (search_any price (h.rep k hk) tree hG.sort).mono ?_
  rintro e w' ⟨hB, ⟨x, hx, hp, rfl⟩ | ⟨n, p, d, L, R, hloc, hLR, hL, hR, rfl⟩⟩
  · exact ⟨hB, _, rfl, .inl ⟨x, hx, hp, rfl⟩⟩
  · exact ⟨hB, _, rfl, .inr ⟨n, p, d, L, R, hloc, hLR, hL, hR, rfl⟩⟩

set_option maxHeartbeats 2000000 in
theorem placeFor_any (h : Ph ob m eb bb g W) (L : Lg m c ob g q tot lev) (hc : c ≤ 3000) {k : Nat} (hk : k < 4) (price qty : Int) (b0 : 0 ≤ qty) (b1 : qty ≤ 1000) :
    Calls Yba.prog 46 #[.pointer (some ⟨bb, 1 + 4 * k, none⟩), .int .i64 price, .int .i64 qty] W fun e w' => ∃ pl, e = .returned (.tuple #[pl, .bool true]) ∧ Place (g.σ k) (g.ll k) price pl ∧ Below W.heap.size W w' := by
  have hB0 : Below W.heap.size W (W.alloc (.cells #[.pointer none, .pointer none, .int .i64 0] 86)) := (Below.refl _ _).alloc (Nat.le_refl _) _
  have hs := search_ph (h.alloc (.cells #[.pointer none, .pointer none, .int .i64 0] 86)) hk price
  go_enter Yba.func46, Yba.ntmps46
  go_wp2_with (fail)
  refine hs.mono ?_
  rintro e w1 ⟨hB, pl, rfl, hpl⟩
  dsimp only
  have h1 : Ph ob m eb bb g w1 := (h.alloc _).below hB
  have hB1 : Below W.heap.size W w1 := hB0.trans (hB.mono (by simp))
  have zb : w1.cell? ⟨W.heap.size, 0, none⟩ = some (.pointer none) := by
    rw [hB.cell (p := ⟨W.heap.size, 0, none⟩) (by simp)]; exact World.cell?_alloc_at _ _ _ _ rfl
  have zb1 : w1.cell? ⟨W.heap.size, 1, none⟩ = some (.pointer none) := by
    rw [hB.cell (p := ⟨W.heap.size, 1, none⟩) (by simp)]; exact World.cell?_alloc_at _ _ _ _ rfl
  have zb2 : w1.cell? ⟨W.heap.size, 2, none⟩ = some (.int .i64 0) := by
    rw [hB.cell (p := ⟨W.heap.size, 2, none⟩) (by simp)]; exact World.cell?_alloc_at _ _ _ _ rfl
  have zf : ∀ o, w1.frozen? ⟨W.heap.size, o, none⟩ = false := fun o => by
    rw [hB.frozen (p := ⟨W.heap.size, o, none⟩) (by simp)]; exact World.frozen?_alloc_at _ _ _ _ rfl
  have zf0 := zf 0
  have zf1 := zf 1
  have zf2 := zf 2
  have hlt : W.heap.size < w1.heap.size := Nat.lt_of_lt_of_le (by simp) hB.size
  have hP := hpl
  rcases hpl with ⟨x, hx, hp, rfl⟩ | ⟨n, p, d, A, R, hloc, hLR, hL, hR, rfl⟩
  · have V := L.lv k hk x hx
    have x1 := (h1.rep k hk).cell x hx 1 (by omega)
    simp only [lv] at x1
    rw [V.e1] at x1
    have t0 := V.t0
    have t1 := V.t1
    have zx := (h1.rep k hk).lt x hx
    have HP := hide (And.intro hP hB1)
    clear hP hB1 h1 h V hs hB hB0 L
    unfold pt at *
    go_wp2
    refine bodyPost_ret (v := .tuple #[.agg #[.pointer (some ⟨x, 0, none⟩), .pointer none, .int .i64 0], .bool true]) ?_ rfl ⟨_, rfl, HP.out.1, (((HP.out.2.setCell (p := ⟨W.heap.size, 0, none⟩) (Nat.le_refl _) _).setCell (p := ⟨W.heap.size, 1, none⟩) (Nat.le_refl _) _).setCell (p := ⟨W.heap.size, 2, none⟩) (Nat.le_refl _) _).alloc (by simp; omega) _⟩
    simp [results, Yba.results46, go_sem, zb, zb1, zb2, hlt, World.cell?_alloc_past, World.cell?_setCell_other, World.cell?_setCell_same']
  · obtain ⟨pp, hpp⟩ : ∃ pp, ptr p = .pointer pp := ⟨_, rfl⟩
    obtain ⟨dd, hdd⟩ : ∃ dd, wv d = .int .i64 dd := by cases d <;> exact ⟨_, rfl⟩
    rw [hpp, hdd] at hP
    have HP := hide (And.intro hP hB1)
    clear hP hB1 h1 h hs hB hB0 L
    rw [hpp, hdd]
    go_wp2
    refine bodyPost_ret (v := .tuple #[.agg #[.pointer none, .pointer pp, .int .i64 dd], .bool true]) ?_ rfl ⟨_, rfl, HP.out.1, (((HP.out.2.setCell (p := ⟨W.heap.size, 0, none⟩) (Nat.le_refl _) _).setCell (p := ⟨W.heap.size, 1, none⟩) (Nat.le_refl _) _).setCell (p := ⟨W.heap.size, 2, none⟩) (Nat.le_refl _) _).alloc (by simp; omega) _⟩
    simp [results, Yba.results46, go_sem, zb, zb1, zb2, hlt, World.cell?_alloc_past, World.cell?_setCell_other, World.cell?_setCell_same']
end
end Go.Proofs.Ybulkjrk
