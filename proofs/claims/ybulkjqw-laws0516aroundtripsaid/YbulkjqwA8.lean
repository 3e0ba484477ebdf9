import Derived.Test.YbulkjqwA7
namespace Go.Proofs.Ybulkjqw
open Go.RowKit
set_option linter.unusedSimpArgs false
set_option linter.unusedVariables false

def Dat.at (d : Dat) : Nat → Value
  | 0 => .int .i32 d.w
  | 1 => .int .i32 d.h
  | 2 => .int .i32 d.g
  | 3 => .int .i32 d.lw
  | 4 => .int .i32 d.lh
  | 5 => .int .i32 d.lg
  | 6 => .int .i32 d.c
  | _ => .int .u32 d.p
def Dat.arr (d : Dat) : Array Value := #[.int .i32 d.w, .int .i32 d.h, .int .i32 d.g, .int .i32 d.lw, .int .i32 d.lh, .int .i32 d.lg, .int .i32 d.c, .int .u32 d.p]
def IsDat (w : World) (b : Nat) (d : Dat) : Prop := ∀ k, k < 8 → w.cell? ⟨b, k, none⟩ = some (d.at k)
theorem Dat.arr_at (d : Dat) (k : Nat) (hk : k < 8) : d.arr[k]? = some (d.at k) := by
  match k, hk with
  | 0, _ | 1, _ | 2, _ | 3, _ | 4, _ | 5, _ | 6, _ | 7, _ => rfl
theorem five (w : World) (d1 d2 d3 d4 d5 : Dat) : ∀ W, W = ((((w.alloc (.cells d1.arr 24)).alloc (.cells d2.arr 24)).alloc (.cells d3.arr 24)).alloc (.cells d4.arr 24)).alloc (.cells d5.arr 24) →
    IsDat W w.heap.size d1 ∧ IsDat W (w.heap.size + 1) d2 ∧ IsDat W (w.heap.size + 1 + 1) d3 ∧ IsDat W (w.heap.size + 1 + 1 + 1) d4 ∧ IsDat W (w.heap.size + 1 + 1 + 1 + 1) d5 := by
  rintro W rfl
  refine ⟨?_, ?_, ?_, ?_, ?_⟩ <;> intro k hk
  · rw [World.cell?_alloc_past _ _ _ (by first | (simp; done) | (simp; omega)), World.cell?_alloc_past _ _ _ (by first | (simp; done) | (simp; omega)), World.cell?_alloc_past _ _ _ (by first | (simp; done) | (simp; omega)), World.cell?_alloc_past _ _ _ (by simp), World.cell?_alloc_at _ _ _ _ rfl]; exact d1.arr_at k hk
  · rw [World.cell?_alloc_past _ _ _ (by first | (simp; done) | (simp; omega)), World.cell?_alloc_past _ _ _ (by first | (simp; done) | (simp; omega)), World.cell?_alloc_past _ _ _ (by simp), World.cell?_alloc_at _ _ _ _ (by simp)]; exact d2.arr_at k hk
  · rw [World.cell?_alloc_past _ _ _ (by first | (simp; done) | (simp; omega)), World.cell?_alloc_past _ _ _ (by simp), World.cell?_alloc_at _ _ _ _ (by simp)]; exact d3.arr_at k hk
  · rw [World.cell?_alloc_past _ _ _ (by simp), World.cell?_alloc_at _ _ _ _ (by simp)]; exact d4.arr_at k hk
  · rw [World.cell?_alloc_at _ _ _ _ (by simp)]; exact d5.arr_at k hk
theorem IsDat.below {B b : Nat} {w w' : World} {d : Dat} (h : IsDat w b d) (hb : Below B w w') (hB : b < B) : IsDat w' b d := fun k hk => (hb.cell (p := ⟨b, k, none⟩) hB).trans (h k hk)

theorem s_next {w w2 W W1 w' : World} (hb : Below W1.heap.size W1 w') (hS : (∀ b o, b < w2.heap.size → W.cell? ⟨b, o, none⟩ = w2.cell? ⟨b, o, none⟩) ∧ w2.heap.size ≤ W.heap.size ∧ Below w.heap.size w W) (e : W1.heap = W.heap ∧ W1.os = W.os ∧ W1.tape = W.tape ∧ W1.output = W.output) :
    (∀ b o, b < w2.heap.size → w'.cell? ⟨b, o, none⟩ = w2.cell? ⟨b, o, none⟩) ∧ w2.heap.size ≤ w'.heap.size ∧ Below w.heap.size w w' := by
  have hb' : Below W.heap.size W w' := ⟨hb.os.trans e.2.1, hb.tape.trans e.2.2.1, hb.output.trans e.2.2.2, e.1 ▸ hb.size, fun k hk => by rw [← e.1] at hk ⊢; exact hb.block k hk⟩
  exact ⟨fun b o h => ((bcell hb').1 b o (Nat.lt_of_lt_of_le h hS.2.1)).trans (hS.1 b o h), Nat.le_trans hS.2.1 hb'.size, hS.2.2.trans (hb'.mono hS.2.2.size)⟩

theorem less_of {a b c d e f : Int} {v : Bool} (h : lessB a b c d e f = v) (w : World) :
    Calls Yba.prog 8 #[.agg #[.int .i32 a, .int .i32 b, .int .i32 c], .agg #[.int .i32 d, .int .i32 e, .int .i32 f]] w fun r w' => r = .returned (.bool v) ∧ Below w.heap.size w w' := by
  subst h; exact less_any a b c d e f w

end Go.Proofs.Ybulkjqw
