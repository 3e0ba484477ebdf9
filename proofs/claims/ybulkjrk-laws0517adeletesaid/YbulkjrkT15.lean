/-
  OWN WORK: what the two laws share: the slice of prices that came in; the check behind a build.
-/
import Derived.Test.YbulkjrkT14
namespace Go.Proofs.Ybulkjrk
open Go.RowKit
set_option linter.unusedSimpArgs false
set_option linter.unusedVariables false

/-- WHAT THE WALK IS TOLD OF A SLICE OF INTEGERS THAT CAME IN: it is nil; or it leads to a row of 'cap' cells, the numbers 'zs' (the first 'len' are its elements, the rest its spare room), each fitting its kind. -/
def IsRow (k : IntKind) (w : World) (a : Option Addr) (len cap : Nat) (zs : List Int) : Prop :=
  (a = none ∧ len = 0 ∧ cap = 0 ∧ zs = []) ∨
  ∃ x, a = some x ∧ len ≤ cap ∧ cap ≤ maxLen ∧ zs.length = cap ∧ (∀ i, i < zs.length → w.cell? (x.add i) = some (.int k (zs.getD i 0))) ∧ ∀ n ∈ zs, (Lit.int k n).wf = true

theorem in_row {k : IntKind} {w : World} {a : Option Addr} {len cap : Nat} {zs : List Int} (h : IsRow k w a len cap zs) : ∃ bp op, (0 < len → a = some ⟨bp, op, none⟩ ∧ bp < w.heap.size) ∧ ∀ i, i < len → w.cell? ⟨bp, op + i, none⟩ = some (.int k (zs.getD i 0)) := by
  rcases h with ⟨_, rfl, _⟩ | ⟨x, rfl, hlc, _, hz, hc, _⟩
  · exact ⟨0, 0, fun h => by omega, fun i hi => by omega⟩
  · obtain ⟨b, o, spot⟩ := x
    by_cases h0 : 0 < len
    · have hspot : spot = none := by
        have := hc 0 (by omega)
        simp only [Addr.add, if_true] at this
        exact World.cell?_spot this
      subst hspot
      have hc' : ∀ i, i < len → w.cell? ⟨b, o + i, none⟩ = some (.int k (zs.getD i 0)) := fun i hi => by
        have := hc i (by omega)
        rwa [show ((⟨b, o, none⟩ : Addr).add i) = ⟨b, o + i, none⟩ from by
          simp only [Addr.add]
          split
          · rename_i h; rw [h, Nat.add_zero]
          · rfl] at this
      exact ⟨b, o, fun _ => ⟨rfl, World.block_lt_of_cell? w _ (hc' 0 h0)⟩, hc'⟩
    · exact ⟨0, 0, fun h => by omega, fun i hi => by omega⟩

theorem valid_of {S : Nat} {ex : Nat → Nat → Value} {s0 v : Value} {ll : List Nat} {W : World} {σ : Sd} {base : Nat} {xs : List Value} (h : Rep S (· ∈ ll) ex s0 W σ) (hG : Good σ ll) (hlen : ll.length ≤ 1100) (hown : W.ownsRow base 2 1 v ll.length xs)
    (hxs : ∀ j, j < ll.length → ∃ y, y ∈ ll ∧ xs[j]? = some (.int .i64 (σ.price y))) : Calls Yba.prog 9 #[.pointer (some ⟨S, 0, none⟩), v] W fun e w' => e = .returned (.bool true) ∧ Below W.heap.size W w' := by
  obtain ⟨key, hkey⟩ : ∃ key : Nat → Int, ∀ j, j < ll.length → xs[j]? = some (.int .i64 (key j)) ∧ ∃ t, t < ll.length ∧ pr σ ll t = key j := by
    refine ⟨fun j => match xs[j]? with | some (.int _ z) => z | _ => 0, fun j hj => ?_⟩
    obtain ⟨y, hy, hx⟩ := hxs j hj
    dsimp only
    rw [hx]
    refine ⟨rfl, ?_⟩
    obtain ⟨t, ht, e⟩ := List.mem_iff_getElem.1 hy
    exact ⟨t, ht, by simp [pr, List.getD_eq_getElem?_getD, List.getElem?_eq_getElem ht, e]⟩
  have hown2 := hown
  rcases hown.2 with ⟨rfl, hz⟩ | ⟨g, cap, cur, rfl, hb, hg, _⟩
  · have key0 := avalid_any (pk := none) (ck := 0) (bk := 0) (key := key) h hG hlen (fun h => by omega) (fun j hj => by omega) (fun j hj => by omega)
    rw [hz] at key0
    exact key0
  · exact avalid_any (bk := g) (key := key) h hG hlen (fun _ => ⟨rfl, (Array.getElem?_eq_some_iff.1 hg).1⟩) (fun j hj => (hown2.cellAt j (by omega)).trans (hkey j hj).1) (fun j hj => (hkey j hj).2)

end Go.Proofs.Ybulkjrk
