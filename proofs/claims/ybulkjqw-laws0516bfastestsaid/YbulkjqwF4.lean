import Derived.Test.YbulkjqwF3
import Derived.RangeFuncNested
import Derived.RangeFuncBound
import Derived.RangeFuncCalls
import Derived.RangeFuncLeaves
import Derived.RangeFuncBox
import Derived.Shelf.Abstract
import Derived.Shelf.RegionOpen
import Derived.OwnWalkIn
import Derived.TacticsInMore
import Derived.LoopNIn
import Derived.LoopIn
namespace Go.Proofs.Ybulkjqw
open Go.RowKit Go.Shelf
set_option linter.unusedSimpArgs false
set_option linter.unusedVariables false

theorem fr_next {w w2 W W1 w' : World} (hb : Below W1.heap.size W1 w') (hS : (∀ b o, b < w2.heap.size → W.cell? ⟨b, o, none⟩ = w2.cell? ⟨b, o, none⟩) ∧ w2.heap.size ≤ W.heap.size ∧ Below w.heap.size w W) (e : W1.heap = W.heap ∧ W1.os = W.os ∧ W1.tape = W.tape ∧ W1.output = W.output) :
    (∀ b o, b < w2.heap.size → w'.cell? ⟨b, o, none⟩ = w2.cell? ⟨b, o, none⟩) ∧ w2.heap.size ≤ w'.heap.size ∧ Below w.heap.size w w' := by
  have hb' : Below W.heap.size W w' := ⟨hb.os.trans e.2.1, hb.tape.trans e.2.2.1, hb.output.trans e.2.2.2, e.1 ▸ hb.size, fun k hk => by rw [← e.1] at hk ⊢; exact hb.block k hk⟩
  exact ⟨fun b o h => ((bcell hb').1 b o (Nat.lt_of_lt_of_le h hS.2.1)).trans (hS.1 b o h), Nat.le_trans hS.2.1 hb'.size, hS.2.2.trans (hb'.mono hS.2.2.size)⟩

/-- The emulation that the law lays, as cells. -/
structure Emu (w : World) (be bsn ba bf bn bp bq bj br : Nat) (bc bd : Nat → Nat) (N m h : Nat) (req : Nat → Int) (v s : Nat → Int) : Prop where
  zbe : be < w.heap.size
  zbs : bsn < w.heap.size
  zba : ba < w.heap.size
  zbf : bf < w.heap.size
  zbn : bn < w.heap.size
  zbp : bp < w.heap.size
  zbq : bq < w.heap.size
  zbj : bj < w.heap.size
  zbr : br < w.heap.size
  zbc : ∀ k, k < N → bc k < w.heap.size
  zbd : ∀ k, k < N → bd k < w.heap.size
  e0 : w.cell? ⟨be, 0, none⟩ = some (.pointer (some ⟨bsn, 0, none⟩))
  e2 : w.cell? ⟨be, 2, none⟩ = some (.slice (some ⟨bn, 0, none⟩) N N)
  e4 : w.cell? ⟨be, 4, none⟩ = some (.slice (some ⟨bp, 0, none⟩) N N)
  e8 : w.cell? ⟨be, 8, none⟩ = some (.slice none 0 0)
  e14 : w.cell? ⟨be, 14, none⟩ = some (.slice (some ⟨bq, 0, none⟩) 1 1)
  e16 : w.cell? ⟨be, 16, none⟩ = some (.slice (some ⟨br, 0, none⟩) m m)
  s13 : w.cell? ⟨bsn, 13, none⟩ = some (.slice (some ⟨ba, 0, none⟩) 1 1)
  a1 : w.cell? ⟨ba, 1, none⟩ = some (.slice (some ⟨bf, 0, none⟩) 1 1)
  q0 : w.cell? ⟨bq, 0, none⟩ = some (.int .i64 0)
  q1 : w.cell? ⟨bq, 1, none⟩ = some (.int .i64 0)
  q2 : w.cell? ⟨bq, 2, none⟩ = some (.int .i64 0)
  q3 : w.cell? ⟨bq, 3, none⟩ = some (.slice (some ⟨bj, 0, none⟩) m m)
  q4 : w.cell? ⟨bq, 4, none⟩ = some (.int .i64 h)
  jb : ∀ i, i < m → w.cell? ⟨bj, i * 2, none⟩ = some (.int .i64 i)
  jb1 : ∀ i, i < m → w.cell? ⟨bj, i * 2 + 1, none⟩ = some (.int .i64 0)
  rq : ∀ i, i < m → w.cell? ⟨br, i * 4 + 3, none⟩ = some (.int .i64 (req i))
  nv : ∀ k, k < N → w.cell? ⟨bn, k * 5, none⟩ = some (.int .i64 (v k))
  ns : ∀ k, k < N → w.cell? ⟨bn, k * 5 + 1, none⟩ = some (.int .i64 (s k))
  nw : ∀ k, k < N → w.cell? ⟨bn, k * 5 + 2, none⟩ = some (.string ⟨#[0]⟩)
  pp : ∀ k, k < N → w.cell? ⟨bp, k, none⟩ = some (.pointer (some ⟨bc k, 0, none⟩))
  cv : ∀ k, k < N → w.cell? ⟨bc k, 0, none⟩ = some (.int .i64 (v k))
  cs : ∀ k, k < N → w.cell? ⟨bc k, 1, none⟩ = some (.int .i64 (s k))
  cw : ∀ k, k < N → w.cell? ⟨bc k, 2, none⟩ = some (.string ⟨#[0]⟩)
  c4 : ∀ k, k < N → w.cell? ⟨bc k, 4, none⟩ = some (.slice (some ⟨bd k, 0, none⟩) 1 1)
  d0 : ∀ k, k < N → w.cell? ⟨bd k, 0, none⟩ = some (.int .i64 k)

theorem Emu.below {w w' : World} {be bsn ba bf bn bp bq bj br : Nat} {bc bd : Nat → Nat} {N m h : Nat} {req : Nat → Int} {v s : Nat → Int} (E : Emu w be bsn ba bf bn bp bq bj br bc bd N m h req v s) (hB : Below w.heap.size w w') :
    Emu w' be bsn ba bf bn bp bq bj br bc bd N m h req v s := by
  have z := hB.size
  have c := (bcell hB).1
  exact ⟨Nat.lt_of_lt_of_le E.zbe z, Nat.lt_of_lt_of_le E.zbs z, Nat.lt_of_lt_of_le E.zba z, Nat.lt_of_lt_of_le E.zbf z, Nat.lt_of_lt_of_le E.zbn z, Nat.lt_of_lt_of_le E.zbp z, Nat.lt_of_lt_of_le E.zbq z, Nat.lt_of_lt_of_le E.zbj z, Nat.lt_of_lt_of_le E.zbr z,
    fun k hk => Nat.lt_of_lt_of_le (E.zbc k hk) z, fun k hk => Nat.lt_of_lt_of_le (E.zbd k hk) z,
    (c _ _ E.zbe).trans E.e0, (c _ _ E.zbe).trans E.e2, (c _ _ E.zbe).trans E.e4, (c _ _ E.zbe).trans E.e8, (c _ _ E.zbe).trans E.e14, (c _ _ E.zbe).trans E.e16, (c _ _ E.zbs).trans E.s13, (c _ _ E.zba).trans E.a1,
    (c _ _ E.zbq).trans E.q0, (c _ _ E.zbq).trans E.q1, (c _ _ E.zbq).trans E.q2, (c _ _ E.zbq).trans E.q3, (c _ _ E.zbq).trans E.q4,
    fun i hi => (c _ _ E.zbj).trans (E.jb i hi), fun i hi => (c _ _ E.zbj).trans (E.jb1 i hi), fun i hi => (c _ _ E.zbr).trans (E.rq i hi),
    fun k hk => (c _ _ E.zbn).trans (E.nv k hk), fun k hk => (c _ _ E.zbn).trans (E.ns k hk), fun k hk => (c _ _ E.zbn).trans (E.nw k hk), fun k hk => (c _ _ E.zbp).trans (E.pp k hk),
    fun k hk => (c _ _ (E.zbc k hk)).trans (E.cv k hk), fun k hk => (c _ _ (E.zbc k hk)).trans (E.cs k hk), fun k hk => (c _ _ (E.zbc k hk)).trans (E.cw k hk), fun k hk => (c _ _ (E.zbc k hk)).trans (E.c4 k hk), fun k hk => (c _ _ (E.zbd k hk)).trans (E.d0 k hk)⟩

/-- The loop of workflow.node over the batch: the node that ran the most, and how many. -/
def nprev (req : Nat → Int) (h B : Nat) : Nat → Int × Int
  | 0 => (-1, 0)
  | i + 1 => if req (h + i) < 0 then nprev req h B i else if (nprev req h B i).2 < cntTo req h B (req (h + i)) ∨ (cntTo req h B (req (h + i)) = (nprev req h B i).2 ∧ req (h + i) < (nprev req h B i).1) then (req (h + i), cntTo req h B (req (h + i))) else nprev req h B i

theorem nprev_bd (req : Nat → Int) (h B : Nat) (N : Int) (hrq : ∀ j, j < h + B → -1 ≤ req j ∧ req j < N) (hN : 0 ≤ N) (k : Nat) (hk : k ≤ B) : -1 ≤ (nprev req h B k).1 ∧ (nprev req h B k).1 < N := by
  induction k with
  | zero => simp [nprev]; omega
  | succ k ih =>
    have i := ih (by omega)
    have r := hrq (h + k) (by omega)
    rw [nprev]
    split
    · exact i
    · split
      · exact r
      · exact i

/-- What workflow.node answers. -/
def nodeAns (req : Nat → Int) (h B N : Nat) (cv cs : Int) (v s : Nat → Int) : Int × Bool :=
  if 0 ≤ (nprev req h B B).1 ∧ cv ≤ v (nprev req h B B).1.toNat ∧ cs ≤ s (nprev req h B B).1.toNat then ((nprev req h B B).1, true) else if 0 ≤ (pickTo cv cs v s N).1 then ((pickTo cv cs v s N).1, true) else (0, false)

end Go.Proofs.Ybulkjqw
