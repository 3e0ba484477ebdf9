/-
  OWN WORK: LawS0517CModel: what its walk leans on.
-/
import Derived.Test.YbulkjrkW29
import Derived.Test.YbulkjrkW30
namespace Go.Proofs.Ybulkjrk
open Go.RowKit
set_option linter.unusedSimpArgs false
set_option linter.unusedVariables false
set_option linter.unusedSectionVars false
set_option maxRecDepth 100000
variable [Base]
theorem rowAny {W : World} {B e sz : Nat} {v : Value} {n : Nat} {xs : List Value} (h : W.ownsRow B e sz v n xs) : ∃ a cap, v = .slice a n cap := by
  rcases h.2 with ⟨rfl, rfl⟩ | ⟨g, cap, cur, rfl, _⟩
  · exact ⟨_, _, rfl⟩
  · exact ⟨_, _, rfl⟩
theorem rowLow {W : World} {B B' e sz : Nat} {v : Value} {n : Nat} {xs : List Value} (h : W.ownsRow B e sz v n xs) (hB : B' ≤ B) : W.ownsRow B' e sz v n xs := by
  refine ⟨h.1, ?_⟩
  rcases h.2 with h0 | ⟨g, cap, cur, hv, hb, r⟩
  · exact .inl h0
  · exact .inr ⟨g, cap, cur, hv, Nat.le_trans hB hb, r⟩
/-- An append turned the row alone: a box of another type stands. -/
theorem grown_keeps {B e sz k : Nat} {wv : Value} {xs : List Value} {w w' : World} {o : Obj} {nb : Nat} {cs : Array Value} {t : TypeId} {fr : Nat × Nat} (h : w.ownsRow B e sz wv k xs) (hg : (w.alloc o).grownBy w' wv.ownBlock) (hb : w.heap[nb]? = some (.cells cs t fr)) (ht : e ≠ t) : w'.heap[nb]? = some (.cells cs t fr) := by
  have hlt := (Array.getElem?_eq_some_iff.1 hb).1
  rw [hg.block nb (by simp; omega) ?_, Go.heap_alloc_old _ _ hlt, hb]
  intro e'
  rcases h.2 with ⟨rfl, _⟩ | ⟨g, cap, cur, rfl, _, hcur, _⟩
  · cases e'
  · have : nb = g := by simpa [Value.ownBlock] using e'
    subst this
    rw [hb] at hcur
    cases hcur
    exact ht rfl
/-- The law's rows at its first loop's start. -/
theorem ls0 (s : Nat → Stp) (lp : Int) {n : Nat} {w2 w3 w4 : World} (hB3 : Below w2.heap.size w2 w3) (hz3 : w2.heap.size < w3.heap.size) (O3 : w3.ownsRow w2.heap.size 4 1 (.slice (some ⟨w2.heap.size, 0, none⟩) n n) n (List.replicate n (.bool false)))
    (hB4 : Below w3.heap.size w3 w4) (O4 : w4.ownsRow w3.heap.size 4 1 (.slice (some ⟨w3.heap.size, 0, none⟩) n n) n (List.replicate n (.bool false))) : LS s lp n w2 w2.heap.size w3.heap.size 0 (.slice none 0 0) false false 0 0 w4 := by
  have e1 : List.replicate n (Value.bool false) = flags n (fun j => decide (j < 0) && trg s lp j) := (flags_none n).trans (flags_congr (fun j _ => by simp))
  have e2 : List.replicate n (Value.bool false) = flags n (fun j => decide (j ∈ (actAll s (Tl s lp 0)).1)) := (flags_none n).trans (flags_congr (fun j _ => by simp [Tl, actAll]))
  refine ⟨⟨hB3.trans (hB4.mono hB3.size), World.ownsRow_nil _ _ _ _, ?_, ?_, by omega⟩, Agg.nil s⟩
  · rw [← e1]; exact rowUnder O3 hB4
  · rw [← e2]; exact rowLow O4 hB3.size
theorem ev_cell {W : World} {B g cap : Nat} {E : List (Int × Nat)} (h : W.ownsRow B 59 9 (.slice (some ⟨g, 0, none⟩) E.length cap) E.length (evs E)) {k : Nat} {x1 : Int} {x2 : Nat} (hx : E[k]? = some (x1, x2)) (j : Nat) (hj : j < 9) {v : Value} (hv : (evc x1 x2)[j]? = some v := by rfl) : W.cell? ⟨g, k * 9 + j, none⟩ = some v := by
  have hk : k < E.length := (List.getElem?_eq_some_iff.1 hx).1
  exact ((h.cellAt (k * 9 + j) (by omega)).trans (evs_get E k (x1, x2) j hx hj)).trans hv
theorem acts_len (s : Nat → Stp) (lp : Int) {n : Nat} (hn : n ≤ 1024) : (actAll s (Tl s lp n)).2.length ≤ 2048 := by
  have h1 := fold_len s (Tl s lp n) ([], [])
  have h2 : (Tl s lp n).length ≤ n := by
    have := List.length_filter_le (trg s lp) (List.range n)
    simpa [Tl] using this
  simp only [List.length_nil] at h1
  show ((Tl s lp n).foldl (act1 s) ([], [])).2.length ≤ 2048
  omega
end Go.Proofs.Ybulkjrk
