/-
  OWN WORK: where a price stands or belongs; the walk of search.
-/
import Derived.Test.YbulkjrkV8
namespace Go.Proofs.Ybulkjrk
open Go.RowKit
set_option linter.unusedSimpArgs false
set_option linter.unusedVariables false

/-- The place of a subtree: under p, on the way d. -/
def Loc (σ : Sd) (n : Nat) (p : Option Nat) (d : Bool) (o : Option Nat) (was : Int) (L R : List Nat) : Prop :=
  (p = none ∧ d = false ∧ σ.root = o ∧ L = [] ∧ R = []) ∨ ∃ q ls ho L' R', p = some q ∧ σ.ch q d = o ∧ Tree σ (some q) (σ.ch q (!d)) ls ho ∧ σ.h q = 1 + max was ho ∧ was - ho ≤ 1 ∧ ho - was ≤ 1 ∧ C σ n (σ.par q) (some q) (σ.h q) L' R' ∧ (d = false ∧ L = L' ∧ R = q :: (ls ++ R') ∨ d = true ∧ L = L' ++ (ls ++ [q]) ∧ R = R')
theorem Loc.toC {σ : Sd} {n p d o was L R} (h : Loc σ n p d o was L R) : C σ (n + 1) p o was L R := by
  rcases h with ⟨rfl, _, e, rfl, rfl⟩ | ⟨q, ls, ho, L', R', e⟩
  · exact .inl ⟨rfl, e, rfl, rfl⟩
  · exact .inr ⟨q, d, ls, ho, L', R', e⟩
theorem Loc.down {σ : Sd} {n p d x was L R l1 l2 h1 h2} (h : Loc σ n p d (some x) was L R) (hp : σ.par x = p) (hh : σ.h x = was) (t1 : Tree σ (some x) (σ.ch x false) l1 h1) (t2 : Tree σ (some x) (σ.ch x true) l2 h2) (he : was = 1 + max h1 h2) (a : h1 - h2 ≤ 1) (b : h2 - h1 ≤ 1) :
    Loc σ (n + 1) (some x) true (σ.ch x true) h2 (L ++ (l1 ++ [x])) R ∧ Loc σ (n + 1) (some x) false (σ.ch x false) h1 L (x :: (l2 ++ R)) := by
  subst hp hh
  have c := h.toC
  exact ⟨.inr ⟨x, l1, h1, L, R, rfl, rfl, t1, by rw [he]; omega, b, a, c, .inr ⟨rfl, rfl, rfl⟩⟩, .inr ⟨x, l2, h2, L, R, rfl, rfl, t2, he, a, b, c, .inl ⟨rfl, rfl, rfl⟩⟩⟩

/-- The world of a search: its result in block N, its place in block N + 1. -/
structure SW (N : Nat) (W wr : World) (p : Option Nat) (d : Bool) : Prop where
  below : Below N W wr
  size : N + 1 < wr.heap.size
  a0 : wr.cell? ⟨N + 1, 0, none⟩ = some (.pointer none)
  a1 : wr.cell? ⟨N + 1, 1, none⟩ = some (ptr p)
  a2 : wr.cell? ⟨N + 1, 2, none⟩ = some (wv d)
  r0 : wr.cell? ⟨N, 0, none⟩ = some (.pointer none)
  r1 : wr.cell? ⟨N, 1, none⟩ = some (.pointer none)
  r2 : wr.cell? ⟨N, 2, none⟩ = some (.int .i64 0)
  fa : ∀ o, wr.frozen? ⟨N + 1, o, none⟩ = false
  fr : ∀ o, wr.frozen? ⟨N, o, none⟩ = false
theorem oth {W : World} {b o b' o' : Nat} {v : Value} (h : b ≠ b' ∨ o ≠ o') : (W.setCell ⟨b, o, none⟩ v).cell? ⟨b', o', none⟩ = W.cell? ⟨b', o', none⟩ :=
  World.cell?_setCell_other _ _ _ _ (by intro e; cases e; rcases h with h | h <;> exact h rfl)
theorem SW.one {N : Nat} {W wr : World} {p : Option Nat} {d : Bool} (h : SW N W wr p d) (p' : Option Nat) : SW N W (wr.setCell ⟨N + 1, 1, none⟩ (ptr p')) p' d :=
  ⟨h.below.setCell (p := ⟨N + 1, 1, none⟩) (Nat.le_succ _) _, by simpa using h.size, (oth (by omega)).trans h.a0, World.cell?_setCell_same _ _ _ h.a1, (oth (by omega)).trans h.a2, (oth (by omega)).trans h.r0, (oth (by omega)).trans h.r1, (oth (by omega)).trans h.r2, fun o => by rw [World.frozen?_setCell]; exact h.fa o, fun o => by rw [World.frozen?_setCell]; exact h.fr o⟩
theorem SW.two {N : Nat} {W wr : World} {p : Option Nat} {d : Bool} (h : SW N W wr p d) (d' : Bool) : SW N W (wr.setCell ⟨N + 1, 2, none⟩ (wv d')) p d' :=
  ⟨h.below.setCell (p := ⟨N + 1, 2, none⟩) (Nat.le_succ _) _, by simpa using h.size, (oth (by omega)).trans h.a0, (oth (by omega)).trans h.a1, World.cell?_setCell_same _ _ _ h.a2, (oth (by omega)).trans h.r0, (oth (by omega)).trans h.r1, (oth (by omega)).trans h.r2, fun o => by rw [World.frozen?_setCell]; exact h.fa o, fun o => by rw [World.frozen?_setCell]; exact h.fr o⟩
theorem SW.drewN {N : Nat} {W wr : World} {p : Option Nat} {d : Bool} (h : SW N W wr p d) (n : Nat) : SW N W (wr.drewN n) p d :=
  ⟨⟨h.below.os, h.below.tape, h.below.output, h.below.size, h.below.block⟩, h.size, h.a0, h.a1, h.a2, h.r0, h.r1, h.r2, h.fa, h.fr⟩

section
variable {S : Sid} {ex : Nat → Nat → Value} {s0 : Value} {ll : List Nat}

set_option maxRecDepth 100000 in
set_option maxHeartbeats 1000000 in
theorem search_any {W : World} {σ : Sd} {hT : Int} (price : Int) (h : Rep S (· ∈ ll) ex s0 W σ) (hTr : Tree σ none σ.root ll hT) (hsort : ll.Pairwise fun x y => σ.price x < σ.price y) :
    Calls Yba.prog 19 #[.pointer (some ⟨S.b, S.o, none⟩), .int .i64 price] W fun e w' => Below W.heap.size W w' ∧ ((∃ x, x ∈ ll ∧ σ.price x = price ∧ e = .returned (.agg #[.pointer (some ⟨x, 0, none⟩), .pointer none, .int .i64 0])) ∨
      ∃ n p d L R, Loc σ n p d none 0 L R ∧ L ++ R = ll ∧ (∀ y ∈ L, σ.price y < price) ∧ (∀ y ∈ R, price < σ.price y) ∧ e = .returned (.agg #[.pointer none, ptr p, wv d])) := by
  have hB0 : Below W.heap.size W ((W.alloc (.cells #[.pointer none, .pointer none, .int .i64 0] 86)).alloc (.cells #[.pointer none, .pointer none, .int .i64 0] 86)) := ((Below.refl _ _).alloc (Nat.le_refl _) _).alloc (by simp) _
  have cr := h.side 1 (by omega)
  simp only [sv] at cr
  have zS := h.slt
  go_enter Yba.func19, Yba.ntmps19
  go_wp2
  go_loopg [6] ll.length (fun k v wr => ∃ o p d l was n L R, v = ptr o ∧ SW W.heap.size W wr p d ∧ Loc σ n p d o was L R ∧ Tree σ p o l was ∧ l.length = k ∧ L ++ (l ++ R) = ll ∧ (∀ y ∈ L, σ.price y < price) ∧ (∀ y ∈ R, price < σ.price y))
  case atStart =>
    exact ⟨σ.root, none, false, ll, hT, 0, [], [], rfl, ⟨hB0, by simp, by simp [World.cell?_alloc_at], by simp [World.cell?_alloc_at]; rfl, by simp [World.cell?_alloc_at]; rfl, by simp [World.cell?_alloc_at, World.cell?_alloc_past], by simp [World.cell?_alloc_at, World.cell?_alloc_past], by simp [World.cell?_alloc_at, World.cell?_alloc_past], fun o => World.frozen?_alloc_at _ _ _ _ (by simp), fun o => by rw [World.frozen?_alloc_past _ _ _ (by simp), World.frozen?_alloc_at _ _ _ _ rfl]⟩, .inl ⟨rfl, rfl, rfl, rfl, rfl⟩, hTr, rfl, by simp, fun y hy => by simp at hy, fun y hy => by simp at hy⟩
  case round =>
    obtain ⟨o, p, d, l, was, n, L, R, rfl, hSW, hLoc, hTo, hlk, hll, hL, hR⟩ := hrel
    have a0 := hSW.a0
    have a1 := hSW.a1
    have a2 := hSW.a2
    have r0 := hSW.r0
    have r1 := hSW.r1
    have r2 := hSW.r2
    have fa1 := hSW.fa 1
    have fa2 := hSW.fa 2
    have fr0 := hSW.fr 0
    have fr1 := hSW.fr 1
    have fr2 := hSW.fr 2
    have zW := hSW.size
    cases o with
    | none =>
      obtain ⟨rfl, rfl⟩ := hTo.isN
      simp only [ptr, Option.map_none]
      have hfin : ∀ v, v = Value.agg #[.pointer none, ptr p, wv d] → ∀ w9, Below W.heap.size W w9 → (Below W.heap.size W w9 ∧ ((∃ x, x ∈ ll ∧ σ.price x = price ∧ Ending.returned v = .returned (.agg #[.pointer (some ⟨x, 0, none⟩), .pointer none, .int .i64 0])) ∨
        ∃ n p d L R, Loc σ n p d none 0 L R ∧ L ++ R = ll ∧ (∀ y ∈ L, σ.price y < price) ∧ (∀ y ∈ R, price < σ.price y) ∧ Ending.returned v = .returned (.agg #[.pointer none, ptr p, wv d]))) := fun v hv w9 h9 =>
        ⟨h9, .inr ⟨n, p, d, L, R, hLoc, by simpa using hll, hL, hR, by rw [hv]⟩⟩
      have hB9 : ∀ x y z, Below W.heap.size W (((wr.setCell ⟨W.heap.size, 0, none⟩ x).setCell ⟨W.heap.size, 1, none⟩ y).setCell ⟨W.heap.size, 2, none⟩ z) := fun x y z =>
        ((hSW.below.setCell (p := ⟨W.heap.size, 0, none⟩) (Nat.le_refl _) _).setCell (p := ⟨W.heap.size, 1, none⟩) (Nat.le_refl _) _).setCell (p := ⟨W.heap.size, 2, none⟩) (Nat.le_refl _) _
      clear hSW hLoc hTo
      cases p <;> cases d <;> simp only [ptr, wv, Option.map_none, Option.map_some, if_true, if_false, Bool.false_eq_true] at a1 a2
      all_goals
        go_wp2
        refine bodyPost_ret (v := .agg #[.pointer none, _, _]) (by simp [results, Yba.results19, go_sem, r0, r1, r2, World.cell?_setCell_other, World.cell?_setCell_same']; exact ⟨rfl, rfl⟩) rfl (hfin _ rfl _ (hB9 _ _ _))
    | some x =>
      obtain ⟨l1, l2, h1, h2, e1, t1, t2, e2, e3, e4, e5, e6⟩ := hTo.isS
      have hx : x ∈ ll := by rw [← hll, e2]; simp
      have hxW := h.lt x hx
      have c0 := (hSW.below.cell (p := ⟨x, 0, none⟩) hxW).trans (h.cell x hx 0 (by omega))
      have c7 := (hSW.below.cell (p := ⟨x, 7, none⟩) hxW).trans (h.cell x hx 7 (by omega))
      have c8 := (hSW.below.cell (p := ⟨x, 8, none⟩) hxW).trans (h.cell x hx 8 (by omega))
      simp only [lv] at c0 c7 c8
      simp only [ptr, Option.map_some]
      obtain ⟨dn1, dn2⟩ := hLoc.down e1 e3 t1 t2 e4 e5 e6
      by_cases heq : price = σ.price x
      · have hB9 : ∀ x y z, Below W.heap.size W (((wr.setCell ⟨W.heap.size, 0, none⟩ x).setCell ⟨W.heap.size, 1, none⟩ y).setCell ⟨W.heap.size, 2, none⟩ z) := fun x y z =>
          ((hSW.below.setCell (p := ⟨W.heap.size, 0, none⟩) (Nat.le_refl _) _).setCell (p := ⟨W.heap.size, 1, none⟩) (Nat.le_refl _) _).setCell (p := ⟨W.heap.size, 2, none⟩) (Nat.le_refl _) _
        go_wp2
        refine bodyPost_ret (v := .agg #[.pointer (some ⟨x, 0, none⟩), .pointer none, .int .i64 0]) (by simp [results, Yba.results19, go_sem, r0, r1, r2, World.cell?_setCell_other, World.cell?_setCell_same']) rfl ⟨hB9 _ _ _, .inl ⟨x, hx, heq.symm, rfl⟩⟩
      · by_cases hpx : σ.price x < price
        · have hS2 := ((hSW.one (some x)).two false).two true
          have q2 : (((wr.setCell ⟨W.heap.size + 1, 1, none⟩ (.pointer (some ⟨x, 0, none⟩))).setCell ⟨W.heap.size + 1, 2, none⟩ (.int .i64 0)).setCell ⟨W.heap.size + 1, 2, none⟩ (.int .i64 1)).cell? ⟨W.heap.size + 1, 2, none⟩ = some (.int .i64 1) := hS2.a2
          go_wp2
          go_quiet (fail)
          go_wp2
          go_roundg l2.length
          case rel => exact ⟨σ.ch x true, some x, true, l2, h2, n + 1, _, _, rfl, hS2.drewN _, dn1, t2, rfl, by rw [← hll, e2]; simp, fun y hy => by
              rcases List.mem_append.1 hy with hy | hy
              · exact hL y hy
              · rcases List.mem_append.1 hy with hy | hy
                · have hs := hsort
                  rw [← hll, e2] at hs
                  have := (List.pairwise_append.1 (List.pairwise_append.1 (List.pairwise_append.1 hs).2.1).1).2.2 y hy x (by simp)
                  omega
                · simp at hy; subst hy; exact hpx, hR⟩
          case measure => rw [← hlk, e2]; simp; omega
        · have hS2 := (hSW.one (some x)).two false
          go_wp2
          go_quiet (fail)
          go_wp2
          go_roundg l1.length
          case rel => exact ⟨σ.ch x false, some x, false, l1, h1, n + 1, _, _, rfl, hS2.drewN _, dn2, t1, rfl, by rw [← hll, e2]; simp, hL, fun y hy => by
              rcases List.mem_cons.1 hy with hy | hy
              · subst hy; omega
              · rcases List.mem_append.1 hy with hy | hy
                · have hs := hsort
                  rw [← hll, e2] at hs
                  have := (List.pairwise_cons.1 (List.pairwise_append.1 (List.pairwise_append.1 (List.pairwise_append.1 hs).2.1).1).2.1).1 y hy
                  omega
                · exact hR y hy⟩
          case measure => rw [← hlk, e2]; simp <;> omega
end

end Go.Proofs.Ybulkjrk
