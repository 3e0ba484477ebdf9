import Derived.Test.YbulkjqwG2
namespace Go.Proofs.Ybulkjqw
open Go.RowKit Go.Shelf
set_option linter.unusedSimpArgs false
set_option linter.unusedVariables false

/-- A slice that came in: where it has elements, its cells. -/
def InRow (w : World) (p : Option Addr) (n size : Nat) (b o : Nat) (f : Nat → Nat → Value) : Prop :=
  0 < n → p = some ⟨b, o, none⟩ ∧ b < w.heap.size ∧ ∀ i, i < n → ∀ k, k < size → w.cell? ⟨b, o + i * size + k, none⟩ = some (f i k)

theorem lit_cells (w : World) (vs : List Value) (t : TypeId) {b : Nat} (hb : b = w.heap.size) : ∀ j u, vs[j]? = some u → (w.alloc (.cells vs.toArray t)).cell? ((⟨b, 0, none⟩ : Addr).add j) = some u := by
  intro j u h
  have e : ((⟨b, 0, none⟩ : Addr).add j) = ⟨w.heap.size, j, none⟩ := by simp [Addr.add, hb]; intro h; exact h.symm
  rw [e, World.cell?_alloc_at _ _ _ _ rfl]
  simpa using h
theorem get_left {xs ys : List Value} {j : Nat} {u : Value} (h : xs[j]? = some u) : (xs ++ ys)[j]? = some u := by
  rw [List.getElem?_append_left (List.getElem?_eq_some_iff.1 h).1, h]
theorem get_right {xs ys : List Value} {n j : Nat} (hn : xs.length = n) : (xs ++ ys)[n + j]? = ys[j]? := by
  rw [List.getElem?_append_right (by omega), hn]; congr 1; omega

/-- The node that request i ran on. -/
def reqOf (ru : Nat → Nat) (Q N : Nat) (i : Nat) : Int := if 0 < N ∧ 0 < Q then (ru (i % Q) : Int) % ((N : Int) + 1) - 1 else -1
theorem reqOf_bd (ru : Nat → Nat) (Q N : Nat) (i : Nat) : -1 ≤ reqOf ru Q N i ∧ reqOf ru Q N i < N := by
  unfold reqOf
  split
  · have h1 := Int.emod_nonneg (ru (i % Q) : Int) (show ((N : Int) + 1) ≠ 0 by omega)
    have h2 := Int.emod_lt_of_pos (ru (i % Q) : Int) (show (0 : Int) < (N : Int) + 1 by omega)
    omega
  · omega

/-- The jobs and the requests, i of m laid. -/
structure JR (J m : Nat) (req : Nat → Int) (w wr : World) (i : Nat) : Prop where
  below : Below J w wr
  size : J + 1 < wr.heap.size
  ej : ∀ k, k < m * 2 → ∃ v, wr.cell? ⟨J, k, none⟩ = some v
  er : ∀ k, k < m * 4 → ∃ v, wr.cell? ⟨J + 1, k, none⟩ = some v
  fj : ∀ k, wr.frozen? ⟨J, k, none⟩ = false
  fr : ∀ k, wr.frozen? ⟨J + 1, k, none⟩ = false
  j0 : ∀ k, k < i → wr.cell? ⟨J, k * 2, none⟩ = some (.int .i64 k)
  j1 : ∀ k, k < i → wr.cell? ⟨J, k * 2 + 1, none⟩ = some (.int .i64 0)
  r3 : ∀ k, k < i → wr.cell? ⟨J + 1, k * 4 + 3, none⟩ = some (.int .i64 (req k))
theorem cell_put {W : World} {b o : Nat} {u v : Value} {b' o' : Nat} (h : W.cell? ⟨b', o', none⟩ = some u) : ∃ x, (W.setCell ⟨b, o, none⟩ v).cell? ⟨b', o', none⟩ = some x := by
  by_cases e : b = b' ∧ o = o'
  · obtain ⟨rfl, rfl⟩ := e; exact ⟨v, put_cell h⟩
  · exact ⟨u, (put_other (by omega)).trans h⟩
theorem JR.next {J m : Nat} {req : Nat → Int} {w wr : World} {i : Nat} (h : JR J m req w wr i) (hi : i < m) (a b c : Value) {x : Int} (hx : x = req i) :
    JR J m req w ((((((wr.setCell ⟨J, i * 2, none⟩ (.int .i64 i)).setCell ⟨J, i * 2 + 1, none⟩ (.int .i64 0)).setCell ⟨J + 1, i * 4, none⟩ a).setCell ⟨J + 1, i * 4 + 1, none⟩ b).setCell ⟨J + 1, i * 4 + 2, none⟩ c).setCell ⟨J + 1, i * 4 + 3, none⟩ (.int .i64 x)) (i + 1) := by
  subst hx
  refine ⟨?_, by simpa using h.size, fun k hk => ?_, fun k hk => ?_, fun k => ?_, fun k => ?_, fun k hk => ?_, fun k hk => ?_, fun k hk => ?_⟩
  · exact ((((((h.below.setCell (p := ⟨J, i * 2, none⟩) (Nat.le_refl _) _).setCell (p := ⟨J, i * 2 + 1, none⟩) (Nat.le_refl _) _).setCell (p := ⟨J + 1, i * 4, none⟩) (Nat.le_succ _) _).setCell (p := ⟨J + 1, i * 4 + 1, none⟩) (Nat.le_succ _) _).setCell (p := ⟨J + 1, i * 4 + 2, none⟩) (Nat.le_succ _) _).setCell (p := ⟨J + 1, i * 4 + 3, none⟩) (Nat.le_succ _) _)
  · obtain ⟨_, h1⟩ := h.ej k hk
    obtain ⟨_, h1⟩ := cell_put (b := J) (o := i * 2) (v := .int .i64 i) h1
    obtain ⟨_, h1⟩ := cell_put (b := J) (o := i * 2 + 1) (v := .int .i64 0) h1
    obtain ⟨_, h1⟩ := cell_put (b := J + 1) (o := i * 4) (v := a) h1
    obtain ⟨_, h1⟩ := cell_put (b := J + 1) (o := i * 4 + 1) (v := b) h1
    obtain ⟨_, h1⟩ := cell_put (b := J + 1) (o := i * 4 + 2) (v := c) h1
    exact cell_put h1
  · obtain ⟨_, h1⟩ := h.er k hk
    obtain ⟨_, h1⟩ := cell_put (b := J) (o := i * 2) (v := .int .i64 i) h1
    obtain ⟨_, h1⟩ := cell_put (b := J) (o := i * 2 + 1) (v := .int .i64 0) h1
    obtain ⟨_, h1⟩ := cell_put (b := J + 1) (o := i * 4) (v := a) h1
    obtain ⟨_, h1⟩ := cell_put (b := J + 1) (o := i * 4 + 1) (v := b) h1
    obtain ⟨_, h1⟩ := cell_put (b := J + 1) (o := i * 4 + 2) (v := c) h1
    exact cell_put h1
  · simp only [World.frozen?_setCell]; exact h.fj k
  · simp only [World.frozen?_setCell]; exact h.fr k
  · rw [put_other (by omega), put_other (by omega), put_other (by omega), put_other (by omega)]
    rcases Nat.lt_succ_iff_lt_or_eq.1 hk with h2 | h2
    · rw [put_other (by omega), put_other (by omega)]; exact h.j0 k h2
    · subst h2
      obtain ⟨_, h1⟩ := h.ej (k * 2) (by omega)
      rw [put_other (by omega)]; exact put_cell h1
  · rw [put_other (by omega), put_other (by omega), put_other (by omega), put_other (by omega)]
    rcases Nat.lt_succ_iff_lt_or_eq.1 hk with h2 | h2
    · rw [put_other (by omega), put_other (by omega)]; exact h.j1 k h2
    · subst h2
      obtain ⟨_, h1⟩ := h.ej (k * 2 + 1) (by omega)
      exact put_cell ((put_other (by omega)).trans h1)
  · rcases Nat.lt_succ_iff_lt_or_eq.1 hk with h2 | h2
    · rw [put_other (by omega), put_other (by omega), put_other (by omega), put_other (by omega), put_other (by omega), put_other (by omega)]; exact h.r3 k h2
    · subst h2
      obtain ⟨uu, h1⟩ := h.er (k * 4 + 3) (by omega)
      refine put_cell (u := uu) ?_
      rw [put_other (by omega), put_other (by omega), put_other (by omega), put_other (by omega), put_other (by omega)]; exact h1

/-- Blocks laid one after the other. -/
def allocs (w : World) : List (List Value × TypeId) → World
  | [] => w
  | x :: l => allocs (w.alloc (.cells x.1.toArray x.2)) l
theorem allocs_below (l : List (List Value × TypeId)) : ∀ w : World, Below w.heap.size w (allocs w l) ∧ (allocs w l).heap.size = w.heap.size + l.length := by
  induction l with
  | nil => intro w; exact ⟨Below.refl _ _, rfl⟩
  | cons x l ih =>
    intro w
    obtain ⟨h1, h2⟩ := ih (w.alloc (.cells x.1.toArray x.2))
    refine ⟨((Below.refl _ _).alloc (Nat.le_refl _) _).trans (h1.mono (by simp)), ?_⟩
    rw [allocs, h2]; simp; omega
theorem allocs_cell (l : List (List Value × TypeId)) : ∀ (w : World) (i o : Nat) (x : List Value × TypeId), l[i]? = some x → (allocs w l).cell? ⟨w.heap.size + i, o, none⟩ = x.1[o]? := by
  induction l with
  | nil => intro w i o x h; simp at h
  | cons y l ih =>
    intro w i o x h
    cases i with
    | zero =>
      simp at h; subst h
      rw [allocs, Nat.add_zero, (bcell (allocs_below l _).1).1 _ _ (by simp), World.cell?_alloc_at _ _ _ _ rfl]
      simp
    | succ i =>
      have := ih (w.alloc (.cells y.1.toArray y.2)) i o x (by simpa using h)
      rw [World.size_alloc] at this
      rw [allocs, ← this, show w.heap.size + (i + 1) = w.heap.size + 1 + i from by omega]
theorem allocs_frozen (l : List (List Value × TypeId)) : ∀ (w : World) (i o : Nat), i < l.length → (allocs w l).frozen? ⟨w.heap.size + i, o, none⟩ = false := by
  induction l with
  | nil => intro w i o h; simp at h
  | cons y l ih =>
    intro w i o h
    cases i with
    | zero => rw [allocs, Nat.add_zero, (bcell (allocs_below l _).1).2 _ _ (by simp), World.frozen?_alloc_at _ _ _ _ rfl]
    | succ i =>
      have := ih (w.alloc (.cells y.1.toArray y.2)) i o (by simpa using h)
      rw [World.size_alloc] at this
      rw [allocs, ← this, show w.heap.size + (i + 1) = w.heap.size + 1 + i from by omega]

theorem grown_set (w : World) (b i : Nat) (v : Value) : w.grownBy (w.setCell ⟨b, i, none⟩ v) (some b) :=
  ⟨rfl, rfl, rfl, by simp, fun k _ hk => Below.heap_setCell w ⟨b, i, none⟩ v k (fun e => hk (by rw [e]))⟩
theorem grown_tr {a b c : World} {row : Option Nat} (h : a.grownBy b row) (k : b.grownBy c row) : a.grownBy c row :=
  ⟨k.os.trans h.os, k.tape.trans h.tape, k.output.trans h.output, Nat.le_trans h.size k.size, fun i hi hr => (k.block i (Nat.lt_of_lt_of_le hi h.size) hr).trans (h.block i hi hr)⟩
theorem grown_set3 (w : World) (b i j k : Nat) (x y z : Value) : w.grownBy (((w.setCell ⟨b, i, none⟩ x).setCell ⟨b, j, none⟩ y).setCell ⟨b, k, none⟩ z) (some b) :=
  grown_tr (grown_tr (grown_set w b i x) (grown_set _ b j y)) (grown_set _ b k z)
theorem grown_below {w w' : World} (h : Below w.heap.size w w') (row : Option Nat) : w.grownBy w' row := ⟨h.os, h.tape, h.output, h.size, fun k hk _ => h.block k hk⟩

/-- The nodes, i of N laid, in block D. -/
structure ND (D N : Nat) (v s : Nat → Int) (wr : World) (i : Nat) : Prop where
  size : D < wr.heap.size
  en : ∀ k, k < N * 5 → ∃ x, wr.cell? ⟨D, k, none⟩ = some x
  fn : ∀ k, wr.frozen? ⟨D, k, none⟩ = false
  n0 : ∀ k, k < i → wr.cell? ⟨D, k * 5, none⟩ = some (.int .i64 (v k))
  n1 : ∀ k, k < i → wr.cell? ⟨D, k * 5 + 1, none⟩ = some (.int .i64 (s k))
  n2 : ∀ k, k < i → wr.cell? ⟨D, k * 5 + 2, none⟩ = some (.string ⟨#[0]⟩)
theorem ND.via {D N : Nat} {v s : Nat → Int} {wr wr' : World} {i : Nat} {row : Option Nat} (h : ND D N v s wr i) (hg : wr.grownBy wr' row) (hr : some D ≠ row) : ND D N v s wr' i := by
  have hb := hg.block D h.size hr
  have c : ∀ o, wr'.cell? ⟨D, o, none⟩ = wr.cell? ⟨D, o, none⟩ := fun o => World.cell?_of_block (a := ⟨D, o, none⟩) hb
  have f : ∀ o, wr'.frozen? ⟨D, o, none⟩ = wr.frozen? ⟨D, o, none⟩ := fun o => World.frozen?_of_block (a := ⟨D, o, none⟩) hb
  exact ⟨Nat.lt_of_lt_of_le h.size hg.size, fun k hk => by rw [c]; exact h.en k hk, fun k => (f k).trans (h.fn k), fun k hk => (c _).trans (h.n0 k hk), fun k hk => (c _).trans (h.n1 k hk), fun k hk => (c _).trans (h.n2 k hk)⟩
theorem ND.put {D N : Nat} {v s : Nat → Int} {wr : World} {i : Nat} (h : ND D N v s wr i) (hi : i < N) {x y : Int} (hx : x = v i) (hy : y = s i) :
    ND D N v s (((wr.setCell ⟨D, i * 5, none⟩ (.int .i64 x)).setCell ⟨D, i * 5 + 1, none⟩ (.int .i64 y)).setCell ⟨D, i * 5 + 2, none⟩ (.string ⟨#[0]⟩)) (i + 1) := by
  subst hx hy
  refine ⟨by simpa using h.size, fun k hk => ?_, fun k => ?_, fun k hk => ?_, fun k hk => ?_, fun k hk => ?_⟩
  · obtain ⟨_, h1⟩ := h.en k hk
    obtain ⟨_, h1⟩ := cell_put (b := D) (o := i * 5) (v := .int .i64 (v i)) h1
    obtain ⟨_, h1⟩ := cell_put (b := D) (o := i * 5 + 1) (v := .int .i64 (s i)) h1
    exact cell_put h1
  · simp only [World.frozen?_setCell]; exact h.fn k
  · rw [put_other (by omega), put_other (by omega)]
    rcases Nat.lt_succ_iff_lt_or_eq.1 hk with h2 | h2
    · rw [put_other (by omega)]; exact h.n0 k h2
    · subst h2
      obtain ⟨_, h1⟩ := h.en (k * 5) (by omega)
      exact put_cell h1
  · rw [put_other (by omega)]
    rcases Nat.lt_succ_iff_lt_or_eq.1 hk with h2 | h2
    · rw [put_other (by omega), put_other (by omega)]; exact h.n1 k h2
    · subst h2
      obtain ⟨_, h1⟩ := h.en (k * 5 + 1) (by omega)
      exact put_cell ((put_other (by omega)).trans h1)
  · rcases Nat.lt_succ_iff_lt_or_eq.1 hk with h2 | h2
    · rw [put_other (by omega), put_other (by omega), put_other (by omega)]; exact h.n2 k h2
    · subst h2
      obtain ⟨uu, h1⟩ := h.en (k * 5 + 2) (by omega)
      refine put_cell (u := uu) ?_
      rw [put_other (by omega), put_other (by omega)]; exact h1

/-- The classes present, i of N laid; the row of pointers in block P. -/
structure PR (P N : Nat) (bc bd : Nat → Nat) (v s : Nat → Int) (wr : World) (i : Nat) : Prop where
  own : ∃ xs, wr.ownsRow P 62 1 (.slice (some ⟨P, 0, none⟩) i N) i xs ∧ ∀ k, k < i → xs[k]? = some (.pointer (some ⟨bc k, 0, none⟩))
  zc : ∀ k, k < i → P < bc k ∧ bc k < wr.heap.size
  zd : ∀ k, k < i → P < bd k ∧ bd k < wr.heap.size
  c0 : ∀ k, k < i → wr.cell? ⟨bc k, 0, none⟩ = some (.int .i64 (v k))
  c1 : ∀ k, k < i → wr.cell? ⟨bc k, 1, none⟩ = some (.int .i64 (s k))
  c2 : ∀ k, k < i → wr.cell? ⟨bc k, 2, none⟩ = some (.string ⟨#[0]⟩)
  c4 : ∀ k, k < i → wr.cell? ⟨bc k, 4, none⟩ = some (.slice (some ⟨bd k, 0, none⟩) 1 1)
  d0 : ∀ k, k < i → wr.cell? ⟨bd k, 0, none⟩ = some (.int .i64 k)
theorem PR.cells {P N : Nat} {bc bd : Nat → Nat} {v s : Nat → Int} {wr wr' : World} {i : Nat} {row : Option Nat} (h : PR P N bc bd v s wr i) (hg : wr.grownBy wr' row) (hr : ∀ k, row = some k → k ≤ P) (hown : ∃ xs, wr'.ownsRow P 62 1 (.slice (some ⟨P, 0, none⟩) i N) i xs ∧ ∀ k, k < i → xs[k]? = some (.pointer (some ⟨bc k, 0, none⟩))) :
    PR P N bc bd v s wr' i := by
  have e : ∀ b, P < b → some b ≠ row := fun b hb e => by have := hr b e.symm; omega
  exact ⟨hown, fun k hk => ⟨(h.zc k hk).1, Nat.lt_of_lt_of_le (h.zc k hk).2 hg.size⟩, fun k hk => ⟨(h.zd k hk).1, Nat.lt_of_lt_of_le (h.zd k hk).2 hg.size⟩,
    fun k hk => hg.cell (h.c0 k hk) (e _ (h.zc k hk).1), fun k hk => hg.cell (h.c1 k hk) (e _ (h.zc k hk).1), fun k hk => hg.cell (h.c2 k hk) (e _ (h.zc k hk).1), fun k hk => hg.cell (h.c4 k hk) (e _ (h.zc k hk).1), fun k hk => hg.cell (h.d0 k hk) (e _ (h.zd k hk).1)⟩
theorem PR.via {P N : Nat} {bc bd : Nat → Nat} {v s : Nat → Int} {wr wr' : World} {i : Nat} {row : Option Nat} (h : PR P N bc bd v s wr i) (hg : wr.grownBy wr' row) (hr : ∀ k, row = some k → k < P) : PR P N bc bd v s wr' i := by
  obtain ⟨xs, ho, hx⟩ := h.own
  exact h.cells hg (fun k e => Nat.le_of_lt (hr k e)) ⟨xs, ho.kept hg (.inr (fun e => Nat.lt_irrefl _ (hr P e.symm))), hx⟩
/-- One kind more: laid in W (its row, its block), then the append. -/
theorem PR.next {P N : Nat} {bc bd : Nat → Nat} {v s : Nat → Int} {W W' : World} {i : Nat} (h : PR P N bc bd v s W i) (hg : W.grownBy W' (some P)) {C D : Nat} {xs : List Value} (hxl : xs.length = i * 1) (hx : ∀ k, k < i → xs[k]? = some (.pointer (some ⟨bc k, 0, none⟩))) (ho : W'.ownsRow P 62 1 (.slice (some ⟨P, 0, none⟩) (i + 1) N) (i + 1) (xs ++ [.pointer (some ⟨C, 0, none⟩)]))
    (hC : P < C ∧ C < W.heap.size) (hD : P < D ∧ D < W.heap.size) (k0 : W.cell? ⟨C, 0, none⟩ = some (.int .i64 (v i))) (k1 : W.cell? ⟨C, 1, none⟩ = some (.int .i64 (s i))) (k2 : W.cell? ⟨C, 2, none⟩ = some (.string ⟨#[0]⟩)) (k4 : W.cell? ⟨C, 4, none⟩ = some (.slice (some ⟨D, 0, none⟩) 1 1)) (kd : W.cell? ⟨D, 0, none⟩ = some (.int .i64 i)) :
    PR P N (fun k => if k = i then C else bc k) (fun k => if k = i then D else bd k) v s W' (i + 1) := by
  have e : ∀ b, P < b → some b ≠ some P := fun b hb e => by cases e; omega
  have split : ∀ k, k < i + 1 → k ≠ i → k < i := fun k h1 h2 => by omega
  refine ⟨⟨_, ho, fun k hk => ?_⟩, fun k hk => ?_, fun k hk => ?_, fun k hk => ?_, fun k hk => ?_, fun k hk => ?_, fun k hk => ?_, fun k hk => ?_⟩
  · by_cases hki : k = i
    · subst hki; rw [if_pos rfl]; exact (get_right (j := 0) (by omega)).trans rfl
    · rw [if_neg hki]; exact get_left (hx k (split k hk hki))
  all_goals by_cases hki : k = i
  all_goals first | (subst hki; simp only [if_pos]) | simp only [if_neg hki]
  · exact ⟨hC.1, Nat.lt_of_lt_of_le hC.2 hg.size⟩
  · exact ⟨(h.zc k (split k hk hki)).1, Nat.lt_of_lt_of_le (h.zc k (split k hk hki)).2 hg.size⟩
  · exact ⟨hD.1, Nat.lt_of_lt_of_le hD.2 hg.size⟩
  · exact ⟨(h.zd k (split k hk hki)).1, Nat.lt_of_lt_of_le (h.zd k (split k hk hki)).2 hg.size⟩
  · exact hg.cell k0 (e _ hC.1)
  · exact hg.cell (h.c0 k (split k hk hki)) (e _ (h.zc k (split k hk hki)).1)
  · exact hg.cell k1 (e _ hC.1)
  · exact hg.cell (h.c1 k (split k hk hki)) (e _ (h.zc k (split k hk hki)).1)
  · exact hg.cell k2 (e _ hC.1)
  · exact hg.cell (h.c2 k (split k hk hki)) (e _ (h.zc k (split k hk hki)).1)
  · exact hg.cell k4 (e _ hC.1)
  · exact hg.cell (h.c4 k (split k hk hki)) (e _ (h.zc k (split k hk hki)).1)
  · exact hg.cell kd (e _ hD.1)
  · exact hg.cell (h.d0 k (split k hk hki)) (e _ (h.zd k (split k hk hki)).1)

end Go.Proofs.Ybulkjqw
