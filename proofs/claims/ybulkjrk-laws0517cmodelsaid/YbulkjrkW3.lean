/-
  OWN WORK: what is kept: blocks, their shapes, their cells.
-/
import Derived.Test.YbulkjrkW2
import Derived.OwnWalk
import Derived.Laws.OwnMore
namespace Go.Proofs.Ybulkjrk
open Go.RowKit
set_option linter.unusedSimpArgs false
set_option linter.unusedVariables false
set_option linter.unusedSectionVars false
/-- Where the call's own blocks begin. -/
structure BaseN where
  n : Nat
/-- It goes with every statement, unwritten: Inhabited, of a type of our own. -/
abbrev Base := Inhabited BaseN
def Base.B [b : Base] : Nat := match b with | ⟨x⟩ => x.n
variable [Base]
/-- A block of n cells of type t, one of the call's own. -/
def Blk (W : World) (b : Nat) (t : TypeId) (n : Nat) : Prop := Base.B ≤ b ∧ ∃ cs, W.heap[b]? = some (.cells cs t (0, 0)) ∧ cs.size = n
def rowTag (t : TypeId) : Prop := t = 29 ∨ t = 34 ∨ t = 59
/-- But for the blocks A nothing has turned; the shapes of all but rows are kept. -/
structure Fr (A : Nat → Prop) (W W' : World) : Prop where
  os : W'.os = W.os
  tape : W'.tape = W.tape
  output : W'.output = W.output
  size : W.heap.size ≤ W'.heap.size
  block : ∀ k, k < W.heap.size → ¬ A k → W'.heap[k]? = W.heap[k]?
  shp : ∀ (b : Nat) (cs : Array Value) (t : TypeId) (fr : Nat × Nat), ¬ rowTag t → W.heap[b]? = some (.cells cs t fr) → ∃ cs', W'.heap[b]? = some (.cells cs' t fr) ∧ cs'.size = cs.size
section
variable {A : Nat → Prop} {W W' W'' : World}
theorem Fr.refl (A : Nat → Prop) (W : World) : Fr A W W := ⟨rfl, rfl, rfl, Nat.le_refl _, fun _ _ _ => rfl, fun _ cs _ _ _ h => ⟨cs, h, rfl⟩⟩
theorem Fr.trans (h : Fr A W W') (k : Fr A W' W'') : Fr A W W'' :=
  ⟨k.os.trans h.os, k.tape.trans h.tape, k.output.trans h.output, Nat.le_trans h.size k.size, fun b hb ha => (k.block b (Nat.lt_of_lt_of_le hb h.size) ha).trans (h.block b hb ha), fun b cs t fr ht e => by
    obtain ⟨c1, e1, s1⟩ := h.shp b cs t fr ht e
    obtain ⟨c2, e2, s2⟩ := k.shp b c1 t fr ht e1
    exact ⟨c2, e2, s2.trans s1⟩⟩
theorem Fr.mono {B : Nat → Prop} (h : Fr A W W') (hs : ∀ b, b < W.heap.size → A b → B b) : Fr B W W' :=
  ⟨h.os, h.tape, h.output, h.size, fun b hb hB => h.block b hb (fun ha => hB (hs b hb ha)), h.shp⟩
/-- Joined: what turned in the second was turned already, or lies behind the first world. -/
theorem Fr.join {B : Nat → Prop} (h : Fr A W W') (k : Fr B W' W'') (hs : ∀ b, b < W.heap.size → B b → A b) : Fr A W W'' :=
  ⟨k.os.trans h.os, k.tape.trans h.tape, k.output.trans h.output, Nat.le_trans h.size k.size, fun b hb ha => (k.block b (Nat.lt_of_lt_of_le hb h.size) (fun hB => ha (hs b hb hB))).trans (h.block b hb ha), fun b cs t fr ht e => by
    obtain ⟨c1, e1, s1⟩ := h.shp b cs t fr ht e
    obtain ⟨c2, e2, s2⟩ := k.shp b c1 t fr ht e1
    exact ⟨c2, e2, s2.trans s1⟩⟩
theorem Fr.ofShp (os : W'.os = W.os) (tape : W'.tape = W.tape) (output : W'.output = W.output) (size : W.heap.size ≤ W'.heap.size) (block : ∀ k, k < W.heap.size → ¬ A k → W'.heap[k]? = W.heap[k]?) (hs : Shp W W') : Fr A W W' :=
  ⟨os, tape, output, size, block, fun b cs t fr _ e => hs b cs t fr e⟩
theorem Fr.setCell (h : Fr A W W') {b : Nat} (hb : b < W.heap.size → A b) (o : Nat) (v : Value) : Fr A W (W'.setCell ⟨b, o, none⟩ v) :=
  h.join (B := fun k => k = b) (Fr.ofShp rfl rfl rfl (by simp) (fun k _ hk => Below.heap_setCell _ _ _ _ hk) (Shp.set _ _ _)) (fun k hk e => by subst e; exact hb hk)
theorem Fr.setCells {b : Nat} : ∀ (vs : List Value) (o : Nat) {W' : World}, Fr A W W' → (b < W.heap.size → A b) → Fr A W (W'.setCells b o vs)
  | [], _, _, h, _ => h
  | v :: r, o, _, h, hb => Fr.setCells r (o + 1) (h.setCell hb o v) hb
theorem Fr.alloc (h : Fr A W W') (o : Obj) : Fr A W (W'.alloc o) :=
  h.join (B := fun _ => False) (Fr.ofShp rfl rfl rfl (by simp) (fun k hk _ => Go.heap_alloc_old _ _ hk) (Shp.below ((Below.refl _ _).alloc (Nat.le_refl _) _))) (fun _ _ e => e.elim)
theorem Fr.drewN (h : Fr A W W') (n : Nat) : Fr A W (W'.drewN n) := ⟨h.os, h.tape, h.output, h.size, h.block, h.shp⟩
theorem Fr.drew (h : Fr A W W') : Fr A W W'.drew := ⟨h.os, h.tape, h.output, h.size, h.block, h.shp⟩
theorem Fr.below (h : Below W.heap.size W W') : Fr A W W' := Fr.ofShp h.os h.tape h.output h.size (fun k hk _ => h.block k hk) (Shp.below h)
theorem Kp.fr {S : Sid} {D : Nat → Prop} (h : Kp S D W W') : Fr (fun b => b = S.b ∨ D b) W W' :=
  Fr.ofShp h.os h.tape h.output h.size (fun k hk ha => h.block k hk (fun e => ha (.inl e)) (fun e => ha (.inr e))) h.shp
/-- Behind an append onto a row that is owned. -/
theorem Fr.grown {e : TypeId} {size n n' : Nat} {v v' : Value} {xs xs' : List Value} (ho : W.ownsRow Base.B e size v n xs) (he : rowTag e) (hg : W.grownBy W' v.ownBlock) : Fr (fun b => v.ownBlock = some b) W W' :=
  ⟨hg.os, hg.tape, hg.output, hg.size, fun k hk ha => hg.block k hk (fun e => ha e.symm), fun b cs t fr ht h => by
    refine ⟨cs, ?_, rfl⟩
    have hlt := (Array.getElem?_eq_some_iff.1 h).1
    rw [hg.block b hlt ?_, h]
    intro e'
    rcases ho.2 with ⟨rfl, _⟩ | ⟨g, cap, cur, rfl, _, hcur, _⟩
    · cases e'
    · have : b = g := by simpa [Value.ownBlock] using e'
      subst this
      rw [h] at hcur
      cases hcur
      exact ht he⟩
theorem Blk.lt {b t n} (h : Blk W b t n) : b < W.heap.size := by
  obtain ⟨_, cs, h, _⟩ := h
  exact (Array.getElem?_eq_some_iff.1 h).1
theorem Blk.fr {b t n} (h : Blk W b t n) (k : Fr A W W') (ht : ¬ rowTag t) : Blk W' b t n := by
  obtain ⟨hlo, cs, h, hs⟩ := h
  obtain ⟨c1, e1, s1⟩ := k.shp b cs t _ ht h
  exact ⟨hlo, c1, e1, s1.trans hs⟩
theorem Blk.shp {b t n} (h : Blk W b t n) (k : Shp W W') : Blk W' b t n := by
  obtain ⟨hlo, cs, h, hs⟩ := h
  obtain ⟨c1, e1, s1⟩ := k b cs t _ h
  exact ⟨hlo, c1, e1, s1.trans hs⟩
theorem Blk.ne {b b' t t' n n'} (h : Blk W b t n) (h' : Blk W b' t' n') (ht : t ≠ t') : b ≠ b' := by
  rintro rfl
  obtain ⟨_, cs, h, _⟩ := h
  obtain ⟨_, cs', h', _⟩ := h'
  rw [h] at h'
  cases h'
  exact ht rfl
theorem Blk.neRow {b t n e size m} {v : Value} {xs : List Value} (h : Blk W b t n) (ho : W.ownsRow Base.B e size v m xs) (ht : t ≠ e) : v.ownBlock ≠ some b := by
  intro hv
  obtain ⟨_, cs, h, _⟩ := h
  rcases ho.2 with ⟨rfl, _⟩ | ⟨g, cap, cur, rfl, _, hcur, _⟩
  · cases hv
  · have : g = b := by simpa [Value.ownBlock] using hv
    subst this
    rw [h] at hcur
    cases hcur
    exact ht rfl
theorem Blk.frozen {b t n} (h : Blk W b t n) (o : Nat) : W.frozen? ⟨b, o, none⟩ = false := by
  obtain ⟨_, cs, h, _⟩ := h
  simp [World.frozen?, h]
theorem Blk.some {b t n} (h : Blk W b t n) {o : Nat} (ho : o < n) : (W.cell? ⟨b, o, none⟩).isSome = true := by
  obtain ⟨hlo, cs, h, hs⟩ := h
  subst hs
  simp [World.cell?, h, ho]
theorem Blk.there {b t n} (h : Blk W b t n) : W.there b 0 n := fun j hj => ⟨by rw [Nat.zero_add]; exact h.some hj, h.frozen _⟩
theorem Blk.new (W : World) (cs : Array Value) (t : TypeId) (hB : Base.B ≤ W.heap.size) : Blk (W.alloc (.cells cs t)) W.heap.size t cs.size := ⟨hB, cs, Go.heap_alloc_new _ _, rfl⟩

/-- A block whose cells are known. -/
structure Bk (b : Nat) (t : TypeId) (n : Nat) (f : Nat → Value) (W : World) : Prop where
  blk : Blk W b t n
  cell : ∀ k, k < n → W.cell? ⟨b, k, none⟩ = some (f k)
def upd (f : Nat → Value) (k : Nat) (v : Value) : Nat → Value := fun j => if j = k then v else f j
theorem upd_same (f : Nat → Value) (k : Nat) (v : Value) : upd f k v k = v := if_pos rfl
theorem upd_other (f : Nat → Value) {k j : Nat} (v : Value) (h : j ≠ k) : upd f k v j = f j := if_neg h
variable {b : Nat} {t : TypeId} {n : Nat} {f : Nat → Value}
theorem Bk.lt (h : Bk b t n f W) : b < W.heap.size := h.blk.lt
theorem Bk.base (h : Bk b t n f W) : Base.B ≤ W.heap.size := Nat.le_trans h.blk.1 (Nat.le_of_lt h.lt)
theorem Bk.frozen (h : Bk b t n f W) (o : Nat) : W.frozen? ⟨b, o, none⟩ = false := h.blk.frozen o
theorem Fr.cell (k : Fr A W W') {b : Nat} (hb : b < W.heap.size) (ha : ¬ A b) (o : Nat) : W'.cell? ⟨b, o, none⟩ = W.cell? ⟨b, o, none⟩ := World.cell?_of_block (k.block b hb ha)
theorem Fr.frozen (k : Fr A W W') {b : Nat} (hb : b < W.heap.size) (ha : ¬ A b) (o : Nat) : W'.frozen? ⟨b, o, none⟩ = W.frozen? ⟨b, o, none⟩ := World.frozen?_of_block (k.block b hb ha)
theorem Bk.fr (h : Bk b t n f W) (k : Fr A W W') (ht : ¬ rowTag t) (ha : ¬ A b) : Bk b t n f W' :=
  ⟨h.blk.fr k ht, fun j hj => (k.cell h.lt ha j).trans (h.cell j hj)⟩
theorem Bk.set (h : Bk b t n f W) {k : Nat} (hk : k < n) (v : Value) : Bk b t n (upd f k v) (W.setCell ⟨b, k, none⟩ v) :=
  ⟨h.blk.shp (Shp.set _ _ _), fun j hj => by
    by_cases e : j = k
    · subst e; rw [upd_same]; exact World.cell?_setCell_same _ _ _ (h.cell j hj)
    · rw [upd_other _ _ e, oth (.inr (Ne.symm e))]; exact h.cell j hj⟩
theorem Bk.setO (h : Bk b t n f W) {b' k : Nat} (hb : b' ≠ b) (v : Value) : Bk b t n f (W.setCell ⟨b', k, none⟩ v) :=
  ⟨h.blk.shp (Shp.set _ _ _), fun j hj => by rw [oth (.inl hb)]; exact h.cell j hj⟩
theorem Bk.drewN (h : Bk b t n f W) (q : Nat) : Bk b t n f (W.drewN q) := ⟨h.blk, h.cell⟩
theorem Bk.drew (h : Bk b t n f W) : Bk b t n f W.drew := ⟨h.blk, h.cell⟩
theorem Bk.alloc (h : Bk b t n f W) (o : Obj) : Bk b t n f (W.alloc o) :=
  ⟨h.blk.shp (Shp.below ((Below.refl _ _).alloc (Nat.le_refl _) _)), fun j hj => ((((Below.refl W.heap.size W).alloc (Nat.le_refl _) o).cell (p := ⟨b, j, none⟩) h.lt)).trans (h.cell j hj)⟩
theorem Bk.below (h : Bk b t n f W) (k : Below W.heap.size W W') : Bk b t n f W' :=
  ⟨h.blk.shp (Shp.below k), fun j hj => (k.cell (p := ⟨b, j, none⟩) h.lt).trans (h.cell j hj)⟩
theorem Shp.sets (b : Nat) : ∀ (vs : List Value) (o : Nat) (W : World), Shp W (W.setCells b o vs)
  | [], _, W => Shp.refl W
  | v :: r, o, W => (Shp.set W _ v).trans (Shp.sets b r (o + 1) _)
/-- The whole is stored anew. -/
theorem Bk.sets (h : Blk W b t n) (vs : List Value) (hl : vs.length = n) : Bk b t n (fun k => vs.getD k undef) (W.setCells b 0 vs) :=
  ⟨h.shp (Shp.sets _ _ _ _), fun j hj => by
    have := World.cell?_setCells_in b vs 0 W (fun i hi => by rw [Nat.zero_add]; exact h.some (by omega)) j (by omega)
    rw [Nat.zero_add] at this
    rw [this]
    simp [List.getD, List.getElem?_eq_getElem (show j < vs.length by omega)]⟩
theorem Bk.new (W : World) (cs : Array Value) (t : TypeId) (hB : Base.B ≤ W.heap.size) : Bk W.heap.size t cs.size (fun k => cs.getD k undef) (W.alloc (.cells cs t)) :=
  ⟨Blk.new W cs t hB, fun j hj => by
    rw [World.cell?_alloc_at _ _ _ _ rfl]
    simp [Array.getD, hj]⟩
end
end Go.Proofs.Ybulkjrk
