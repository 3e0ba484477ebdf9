import Derived.Test.YbulkjqwG1
import Derived.OwnWalk
namespace Go.Proofs.Ybulkjqw
open Go.RowKit Go.Shelf
set_option linter.unusedSimpArgs false
set_option linter.unusedVariables false

/-- 'make([]T, 0, n)' as a row of the call's own. -/
theorem make_row (t e : TypeId) (size bytes : Nat) (z : List Value) (hu : Yba.prog.underlying t = some (.slice e)) (hinfo : (Yba.prog.info? e).map (fun i => (i.zero.map Value.cells, i.size, i.bytes)) = some (some ⟨z⟩, size, bytes))
    (hz : z.length = size) (n : Nat) (hb : bytes * n ≤ 281474976710656) (hn : n ≤ 65536) (w : World) :
    ∃ w1 : World, (∀ (ρ : Operand → Value) (o : Oper) (x y : Operand), ρ x = .int .i64 (0 : Nat) → ρ y = .int .i64 n → (execOp ρ { o with op := .makeSlice t x y }).run Yba.prog w = .ok (.value (.slice (some ⟨w.heap.size, 0, none⟩) 0 n)) w1) ∧
      Below w.heap.size w w1 ∧ w1.heap.size = w.heap.size + 1 ∧ w1.ownsRow w.heap.size e size (.slice (some ⟨w.heap.size, 0, none⟩) 0 n) 0 [] := by
  obtain ⟨i, hi, he⟩ := Option.map_eq_some_iff.1 hinfo
  simp only [Prod.mk.injEq] at he
  obtain ⟨h1, h2, h3⟩ := he
  obtain ⟨zv, hzv, hzc⟩ := Option.map_eq_some_iff.1 h1
  have hb' : ((i.bytes : Nat) : Int) * (n : Int) ≤ 281474976710656 := by
    rw [h3]
    have hb2 : ((bytes * n : Nat) : Int) ≤ 281474976710656 := by omega
    rwa [Int.natCast_mul] at hb2
  have hr := run_make (P := Yba.prog) w t e i zv hu hi hzv .i64 .i64 (0 : Nat) n (by omega) (by omega) hb' (by omega)
  simp only [Int.toNat_natCast] at hr
  refine ⟨w.alloc (.cells (madeCells zv.cells (n * i.size)) e), ?_, (Below.refl _ _).alloc (Nat.le_refl _) _, by simp, ?_⟩
  · intro ρ o x y hx hy
    show ((Instr.makeSlice t (ρ x) (ρ y)) >>= fun v => (pure (.value v) : Sem Next)).run Yba.prog w = _
    rw [hx, hy, Sem.run_bind, hr]
    rfl
  · exact World.ownsRow_made w _ n (Nat.le_refl _) (by unfold maxLen; omega) (by rw [h2]; simp [madeCells])

theorem info45 : (Yba.prog.info? 45).map (fun i => (i.zero.map Value.cells, i.size, i.bytes)) = some (some ⟨[.int .i64 0, .int .i64 0, .int .i64 0, .int .i64 0]⟩, 4, 32) := by kernel_rfl
theorem info45' : (Yba.prog.info? 45).map (fun i => (i.zero, i.size, i.bytes)) = some (some (.agg #[.int .i64 0, .int .i64 0, .int .i64 0, .int .i64 0]), 4, 32) := by kernel_rfl
theorem info3' : (Yba.prog.info? 3).map (fun i => (i.zero, i.size, i.bytes)) = some (some (.int .i64 0), 1, 8) := by kernel_rfl
theorem info50 : (Yba.prog.info? 50).map (fun i => (i.zero.map Value.cells, i.size, i.bytes)) = some (some ⟨[.int .i64 0, .int .i64 0]⟩, 2, 16) := by kernel_rfl
theorem info52 : (Yba.prog.info? 52).map (fun i => (i.zero.map Value.cells, i.size, i.bytes)) = some (some ⟨[.int .i64 0, .int .i64 0, .int .i64 0, .int .i64 0]⟩, 4, 32) := by kernel_rfl
theorem info61 : (Yba.prog.info? 61).map (fun i => (i.zero.map Value.cells, i.size, i.bytes)) = some (some ⟨[.int .i64 0, .int .i64 0, .string ⟨#[]⟩, .int .i64 0, .slice none 0 0]⟩, 5, 64) := by kernel_rfl
theorem info62 : (Yba.prog.info? 62).map (fun i => (i.zero.map Value.cells, i.size, i.bytes)) = some (some ⟨[.pointer none]⟩, 1, 8) := by kernel_rfl
theorem info62' : (Yba.prog.info? 62).map (fun i => (i.zero, i.size, i.bytes)) = some (some (.pointer none), 1, 8) := by kernel_rfl

end Go.Proofs.Ybulkjqw
