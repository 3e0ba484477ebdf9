/-
  OWN WORK for LawS0516BFastest: a 'make' at a variable size, for whatever element; the plain functions; the contract of zzs0516bnode.
-/
import Derived.Test.YbulkjqwK
namespace Go.Proofs.Ybulkjqw
open Go.RowKit
set_option linter.unusedSimpArgs false
set_option linter.unusedVariables false

/-- 'make([]T, l, n)': a new block of n zero elements. -/
theorem make_gen (t e : TypeId) (size bytes : Nat) (z : List Value) (hu : Yba.prog.underlying t = some (.slice e)) (hinfo : (Yba.prog.info? e).map (fun i => (i.zero.map Value.cells, i.size, i.bytes)) = some (some ⟨z⟩, size, bytes))
    (hz : z.length = size) (l n : Nat) (hl : l ≤ n) (hb : bytes * n ≤ 281474976710656) (hn : n ≤ 65536) (w : World) :
    ∃ w1 : World, (∀ (ρ : Operand → Value) (o : Oper) (x y : Operand), ρ x = .int .i64 l → ρ y = .int .i64 n → (execOp ρ { o with op := .makeSlice t x y }).run Yba.prog w = .ok (.value (.slice (some ⟨w.heap.size, 0, none⟩) l n)) w1) ∧
      Below w.heap.size w w1 ∧ w1.heap.size = w.heap.size + 1 ∧ (∀ j, j < n * size → w1.cell? ⟨w.heap.size, j, none⟩ = z[j % size]?) ∧ ∀ j, w1.frozen? ⟨w.heap.size, j, none⟩ = false := by
  obtain ⟨i, hi, he⟩ := Option.map_eq_some_iff.1 hinfo
  simp only [Prod.mk.injEq] at he
  obtain ⟨h1, h2, h3⟩ := he
  obtain ⟨zv, hzv, hzc⟩ := Option.map_eq_some_iff.1 h1
  have hb' : ((i.bytes : Nat) : Int) * (n : Int) ≤ 281474976710656 := by
    rw [h3]
    have hb2 : ((bytes * n : Nat) : Int) ≤ 281474976710656 := by omega
    rwa [Int.natCast_mul] at hb2
  have hr := run_make (P := Yba.prog) w t e i zv hu hi hzv .i64 .i64 l n (by omega) (by omega) hb' (by omega)
  simp only [Int.toNat_natCast] at hr
  refine ⟨w.alloc (.cells (madeCells zv.cells (n * i.size)) e), ?_, (Below.refl _ _).alloc (Nat.le_refl _) _, by simp, ?_, ?_⟩
  · intro ρ o x y hx hy
    show ((Instr.makeSlice t (ρ x) (ρ y)) >>= fun v => (pure (.value v) : Sem Next)).run Yba.prog w = _
    rw [hx, hy, Sem.run_bind, hr]
    rfl
  · intro j hj
    rw [World.cell?_alloc_at _ _ _ _ rfl, h2, hzc]
    have hs : 0 < size := by
      rcases Nat.eq_zero_or_pos size with h | h
      · subst h; simp at hj
      · exact h
    have hm : j % size < z.length := by rw [hz]; exact Nat.mod_lt _ hs
    simp [madeCells, hj, hz, hm]
    rw [List.getElem?_eq_getElem hm]; simp
  · intro j
    exact World.frozen?_alloc_at _ _ _ _ rfl

theorem wpList_make_gen {ops : Array Oper} {rest : List Oper} {o : Oper} {a : Act} {w w1 : World} {Q : Exit → Act → World → Prop} {t l n : Nat}
    (hr : Hid (∀ (ρ : Operand → Value) (o : Oper) (x y : Operand), ρ x = .int .i64 l → ρ y = .int .i64 n → (execOp ρ { o with op := .makeSlice t x y }).run Yba.prog w = .ok (.value (.slice (some ⟨w.heap.size, 0, none⟩) l n)) w1))
    (hg : o.guard = none) (x y : Operand) (ho : o.op = .makeSlice t x y) (hx : a.eval x = .int .i64 l) (hy : a.eval y = .int .i64 n)
    (h : wpList Yba.prog ops Q rest (a.put o.dst (.slice (some ⟨w.heap.size, 0, none⟩) l n)) w1) : wpList Yba.prog ops Q (o :: rest) a w := by
  refine wpList_plain hg fun K hK => ?_
  have hrun := hr.out a.eval o x y hx hy
  rw [← ho] at hrun
  unfold Oper.wp
  rw [hrun, Oper.upon_value]
  exact hK _ _ h

/-! ### The plain functions -/
/-- How many of the first b requests from h on ran on node k. -/
def cntTo (req : Nat → Int) (h : Nat) : Nat → Int → Int
  | 0, _ => 0
  | b + 1, k => cntTo req h b k + if req (h + b) = k then 1 else 0
/-- The first of the nodes below k with the greatest count, and the count. -/
def prevTo (cnt : Int → Int) : Nat → Int × Int
  | 0 => (-1, 0)
  | k + 1 => if (prevTo cnt k).2 < cnt k then ((k : Int), cnt k) else prevTo cnt k
/-- Of the nodes below k with room the best: its index, its slices, its vCPUs. -/
def pickTo (cv cs : Int) (v s : Nat → Int) : Nat → Int × Int × Int
  | 0 => (-1, 0, 0)
  | k + 1 => if (cv ≤ v k ∧ cs ≤ s k) ∧ ((pickTo cv cs v s k).1 < 0 ∨ (pickTo cv cs v s k).2.1 < s k ∨ (s k = (pickTo cv cs v s k).2.1 ∧ (pickTo cv cs v s k).2.2 < v k)) then ((k : Int), s k, v k) else pickTo cv cs v s k

theorem cntTo_bd (req : Nat → Int) (h b : Nat) (k : Int) : 0 ≤ cntTo req h b k ∧ cntTo req h b k ≤ b := by
  induction b with
  | zero => simp [cntTo]
  | succ b ih => simp only [cntTo]; split <;> omega
theorem prevTo_bd (cnt : Int → Int) (k : Nat) : -1 ≤ (prevTo cnt k).1 ∧ (prevTo cnt k).1 < k := by
  induction k with
  | zero => simp [prevTo]
  | succ k ih => simp only [prevTo]; split <;> simp <;> omega
theorem pickTo_bd (cv cs : Int) (v s : Nat → Int) (k : Nat) : -1 ≤ (pickTo cv cs v s k).1 ∧ (pickTo cv cs v s k).1 < k := by
  induction k with
  | zero => simp [pickTo]
  | succ k ih => simp only [pickTo]; split <;> simp <;> omega

end Go.Proofs.Ybulkjqw
