/-
  OWN WORK: LawS0517CModel: its own rows.
-/
import Derived.Test.YbulkjrkW28
import Derived.Test.YbulkjrkP2
import Derived.Test.YbulkjrkE1
namespace Go.Proofs.Ybulkjrk
open Go.RowKit
set_option linter.unusedSimpArgs false
set_option linter.unusedVariables false
set_option linter.unusedSectionVars false
set_option maxRecDepth 100000
variable [Base]
/-- 'make([]bool, n)'. -/
theorem make_bools (n : Nat) (hn : n ≤ 1024) (w : World) : ∃ w1 : World, (∀ (ρ : Operand → Value) (o : Oper) (x y : Operand), ρ x = .int .i64 n → ρ y = .int .i64 n → (execOp ρ { o with op := .makeSlice 66 x y }).run Yba.prog w = .ok (.value (.slice (some ⟨w.heap.size, 0, none⟩) n n)) w1) ∧
    Below w.heap.size w w1 ∧ w.heap.size < w1.heap.size ∧ w1.ownsRow w.heap.size 4 1 (.slice (some ⟨w.heap.size, 0, none⟩) n n) n (List.replicate n (.bool false)) := by
  obtain ⟨i, hi, hz, hs, hb⟩ : ∃ i, Yba.prog.info? 4 = some i ∧ i.zero = some (.bool false) ∧ i.size = 1 ∧ i.bytes = 1 := by
    obtain ⟨i, hi, he⟩ := Option.map_eq_some_iff.1 (show (Yba.prog.info? 4).map (fun i => (i.zero, i.size, i.bytes)) = some (some (.bool false), 1, 1) by kernel_rfl)
    simp only [Prod.mk.injEq] at he
    exact ⟨i, hi, he.1, he.2.1, he.2.2⟩
  have hr := run_make (P := Yba.prog) w 66 4 i (.bool false) Yba.underlying66 hi hz .i64 .i64 n n (by omega) (by omega) (by rw [hb]; omega) (by omega)
  simp only [Int.toNat_natCast] at hr
  refine ⟨w.alloc (.cells (madeCells (Value.bool false).cells (n * i.size)) 4), ?_, (Below.refl _ _).alloc (Nat.le_refl _) _, by simp, ?_⟩
  · intro ρ o x y hx hy
    show ((Instr.makeSlice 66 (ρ x) (ρ y)) >>= fun v => (pure (.value v) : Sem Next)).run Yba.prog w = _
    rw [hx, hy, Sem.run_bind, hr]
    rfl
  · have hl : (madeCells (Value.bool false).cells (n * i.size)).toList = List.replicate n (.bool false) := by
      rw [hs]
      apply List.ext_getElem
      · simp [size_madeCells]
      · intro j h1 h2
        simp [madeCells, Value.cells, Nat.mod_one]
    have := World.ownsRow_lit (base := w.heap.size) (e := 4) (size := 1) w (madeCells (Value.bool false).cells (n * i.size)) n (Nat.le_refl _) (by unfold maxLen; omega) (by rw [size_madeCells, hs])
    rw [hl] at this
    exact this
theorem wpList_bools {ops : Array Oper} {rest : List Oper} {o : Oper} {a : Act} {w w1 : World} {Q : Exit → Act → World → Prop} {n : Nat}
    (hr : Hid (∀ (ρ : Operand → Value) (o : Oper) (x y : Operand), ρ x = .int .i64 n → ρ y = .int .i64 n → (execOp ρ { o with op := .makeSlice 66 x y }).run Yba.prog w = .ok (.value (.slice (some ⟨w.heap.size, 0, none⟩) n n)) w1))
    (hg : o.guard = none) (x y : Operand) (ho : o.op = .makeSlice 66 x y) (hx : a.eval x = .int .i64 n) (hy : a.eval y = .int .i64 n)
    (h : wpList Yba.prog ops Q rest (a.put o.dst (.slice (some ⟨w.heap.size, 0, none⟩) n n)) w1) : wpList Yba.prog ops Q (o :: rest) a w := by
  refine wpList_plain hg fun K hK => ?_
  have hrun := hr.out a.eval o x y hx hy
  rw [← ho] at hrun
  unfold Oper.wp
  rw [hrun, Oper.upon_value]
  exact hK _ _ h
def flags (n : Nat) (f : Nat → Bool) : List Value := (List.range n).map fun j => .bool (f j)
theorem flags_congr {n : Nat} {f f' : Nat → Bool} (h : ∀ j, j < n → f j = f' j) : flags n f = flags n f' := by
  unfold flags
  apply List.map_congr_left
  intro j hj
  rw [h j (by simpa using hj)]
theorem flags_none (n : Nat) : List.replicate n (Value.bool false) = flags n (fun _ => false) := by
  apply List.ext_getElem
  · simp [flags]
  · intro j h1 h2
    simp [flags]
theorem flags_set (n t : Nat) (f : Nat → Bool) : (flags n f).set t (.bool true) = flags n (fun j => f j || j == t) := by
  apply List.ext_getElem
  · simp [flags]
  · intro j h1 h2
    by_cases e : t = j
    · subst e; simp [flags]
    · rw [List.getElem_set_ne e]
      simp [flags, show ¬ j = t from fun h => e h.symm]
theorem flags_get {n : Nat} {f : Nat → Bool} {j : Nat} (h : j < n) : (flags n f)[j]? = some (.bool (f j)) := by simp [flags, h]
theorem evs_len (E : List (Int × Nat)) : (evs E).length = E.length * 9 := by
  induction E with
  | nil => rfl
  | cons x E ih =>
    have : evs (x :: E) = evc x.1 x.2 ++ evs E := rfl
    rw [this, List.length_append, ih]
    simp [evc]
    omega
theorem evs_get : ∀ (E : List (Int × Nat)) (k : Nat) (x : Int × Nat) (j : Nat), E[k]? = some x → j < 9 → (evs E)[k * 9 + j]? = (evc x.1 x.2)[j]?
  | [], k, x, j, h, _ => by simp at h
  | y :: E, 0, x, j, h, hj => by
    have e : y = x := by simpa using h
    subst e
    have : evs (y :: E) = evc y.1 y.2 ++ evs E := rfl
    rw [this, List.getElem?_append_left (by simp [evc]; omega)]
    simp
  | y :: E, k + 1, x, j, h, hj => by
    have h' : E[k]? = some x := by simpa using h
    have : evs (y :: E) = evc y.1 y.2 ++ evs E := rfl
    rw [this, List.getElem?_append_right (by simp [evc]; omega), ← evs_get E k x j h' hj]
    simp only [evc, List.length_cons, List.length_nil]
    rw [show (k + 1) * 9 + j - (0 + 1 + 1 + 1 + 1 + 1 + 1 + 1 + 1 + 1) = k * 9 + j by omega]
theorem row_apart {W : World} {b b' e e' sz sz' : Nat} {v v' : Value} {k k' : Nat} {xs xs' : List Value} (h : W.ownsRow b e sz v k xs) (h' : W.ownsRow b' e' sz' v' k' xs') (he : e ≠ e') : v.ownBlock = none ∨ v.ownBlock ≠ v'.ownBlock := by
  rcases h.2 with ⟨rfl, _⟩ | ⟨g, cap, cur, rfl, _, hg, _⟩
  · exact .inl rfl
  · refine .inr ?_
    rcases h'.2 with ⟨rfl, _⟩ | ⟨g', cap', cur', rfl, _, hg', _⟩
    · simp [Value.ownBlock]
    · simp only [Value.ownBlock, ne_eq, Option.some.injEq]
      intro e1
      subst e1
      rw [hg] at hg'
      cases hg'
      exact he rfl
/-- The law's three rows. -/
structure LM (w2 : World) (tb rb n : Nat) (wv : Value) (k : Nat) (xs L1 L2 : List Value) (W : World) : Prop where
  below : Below w2.heap.size w2 W
  want : W.ownsRow w2.heap.size 59 9 wv k xs
  tr : W.ownsRow w2.heap.size 4 1 (.slice (some ⟨tb, 0, none⟩) n n) n L1
  re : W.ownsRow w2.heap.size 4 1 (.slice (some ⟨rb, 0, none⟩) n n) n L2
  ne : tb ≠ rb
section
variable {w2 W W' : World} {tb rb n k : Nat} {wv : Value} {xs L1 L2 : List Value}
theorem rowUnder {b e sz : Nat} {v : Value} {k : Nat} {xs : List Value} (h : W.ownsRow b e sz v k xs) (hB : Below W.heap.size W W') : W'.ownsRow b e sz v k xs := rowFr h (A := fun _ => False) (Fr.below hB) (fun _ _ e => e)
theorem LM.under (h : LM w2 tb rb n wv k xs L1 L2 W) (hB : Below W.heap.size W W') : LM w2 tb rb n wv k xs L1 L2 W' :=
  ⟨h.below.trans (hB.mono h.below.size), rowUnder h.want hB, rowUnder h.tr hB, rowUnder h.re hB, h.ne⟩
theorem LM.setT (h : LM w2 tb rb n wv k xs L1 L2 W) (j : Nat) (u : Value) : LM w2 tb rb n wv k xs (L1.set j u) L2 (W.setCell ⟨tb, j, none⟩ u) := by
  obtain ⟨h1, hg⟩ := h.tr.stored j u
  refine ⟨h.below.setCell (p := ⟨tb, j, none⟩) (h.tr.lt tb rfl).1 u, h.want.kept hg (row_apart h.want h.tr (by decide)), h1, h.re.kept hg (.inr ?_), h.ne⟩
  simp only [Value.ownBlock, ne_eq, Option.some.injEq]
  exact fun e => h.ne e.symm
theorem LM.setR (h : LM w2 tb rb n wv k xs L1 L2 W) (j : Nat) (u : Value) : LM w2 tb rb n wv k xs L1 (L2.set j u) (W.setCell ⟨rb, j, none⟩ u) := by
  obtain ⟨h1, hg⟩ := h.re.stored j u
  refine ⟨h.below.setCell (p := ⟨rb, j, none⟩) (h.re.lt rb rfl).1 u, h.want.kept hg (row_apart h.want h.re (by decide)), h.tr.kept hg (.inr ?_), h1, h.ne⟩
  simp only [Value.ownBlock, ne_eq, Option.some.injEq]
  exact h.ne
theorem LM.append (h : LM w2 tb rb n wv k xs L1 L2 W) {wv' : Value} {k' : Nat} {xs' : List Value} (hg : W.grownBy W' wv.ownBlock) (ho : W'.ownsRow w2.heap.size 59 9 wv' k' xs') : LM w2 tb rb n wv' k' xs' L1 L2 W' :=
  ⟨h.below.grown hg h.below.size (fun b e => (h.want.lt b e).1), ho, h.tr.kept hg (row_apart h.tr h.want (by decide)), h.re.kept hg (row_apart h.re h.want (by decide)), h.ne⟩
theorem LM.cellT (h : LM w2 tb rb n wv k xs L1 L2 W) {j : Nat} (hj : j < n) {v : Value} (hv : L1[j]? = some v) : W.cell? ⟨tb, j, none⟩ = some v ∧ W.frozen? ⟨tb, j, none⟩ = false := ⟨(h.tr.cellAt j (by omega)).trans hv, h.tr.frozenAt j⟩
theorem LM.cellR (h : LM w2 tb rb n wv k xs L1 L2 W) {j : Nat} (hj : j < n) {v : Value} (hv : L2[j]? = some v) : W.cell? ⟨rb, j, none⟩ = some v ∧ W.frozen? ⟨rb, j, none⟩ = false := ⟨(h.re.cellAt j (by omega)).trans hv, h.re.frozenAt j⟩
end
/-- What the law's first loop keeps. -/
structure LS (s : Nat → Stp) (lp : Int) (n : Nat) (w2 : World) (tb rb t : Nat) (wv : Value) (bN sN : Bool) (mB mS : Int) (W : World) : Prop where
  lm : LM w2 tb rb n wv (actAll s (Tl s lp t)).2.length (evs (actAll s (Tl s lp t)).2) (flags n (fun j => decide (j < t) && trg s lp j)) (flags n (fun j => decide (j ∈ (actAll s (Tl s lp t)).1))) W
  agg : Agg s (actAll s (Tl s lp t)).1 bN sN mB mS
section
variable {s : Nat → Stp} {lp : Int} {n : Nat} {w2 W W' : World} {tb rb t : Nat} {wv : Value} {bN sN : Bool} {mB mS : Int}
theorem LS.skip (h : LS s lp n w2 tb rb t wv bN sN mB mS W) (ht : trg s lp t = false) (hB : Below W.heap.size W W') : LS s lp n w2 tb rb (t + 1) wv bN sN mB mS W' := by
  have e : flags n (fun j => decide (j < t + 1) && trg s lp j) = flags n (fun j => decide (j < t) && trg s lp j) := flags_congr (fun j _ => by
    by_cases e : j = t
    · subst e; simp [ht]
    · have : decide (j < t + 1) = decide (j < t) := by simp; omega
      rw [this])
  have h1 := h.lm.under hB
  refine ⟨?_, ?_⟩
  · rw [Tl_no ht, e]; exact h1
  · rw [Tl_no ht]; exact h.agg
theorem flags_trg (n : Nat) (ht : trg s lp t = true) : (flags n (fun j => decide (j < t) && trg s lp j)).set t (.bool true) = flags n (fun j => decide (j < t + 1) && trg s lp j) := by
  rw [flags_set]
  refine flags_congr (fun j _ => ?_)
  by_cases e : j = t
  · subst e; simp [ht]
  · have : decide (j < t + 1) = decide (j < t) := by simp; omega
    rw [this]
    simp [e]
theorem flags_rest (n : Nat) (R : List Nat) (t : Nat) : (flags n (fun j => decide (j ∈ R))).set t (.bool true) = flags n (fun j => decide (j ∈ R ++ [t])) := by
  rw [flags_set]
  refine flags_congr (fun j _ => ?_)
  by_cases e : j = t
  · subst e; simp
  · simp [e]
theorem LS.bar (h : LS s lp n w2 tb rb t wv bN sN mB mS W) (ht : trg s lp t = true) (hb : (actAll s (Tl s lp t)).1.any (bars s t) = true) {wv' : Value} (h' : LM w2 tb rb n wv' ((actAll s (Tl s lp t)).2.length + 1 + 1) (evs (actAll s (Tl s lp t)).2 ++ evc 5 t ++ evc 2 t) ((flags n (fun j => decide (j < t) && trg s lp j)).set t (.bool true)) (flags n (fun j => decide (j ∈ (actAll s (Tl s lp t)).1))) W') : LS s lp n w2 tb rb (t + 1) wv' bN sN mB mS W' := by
  have e : actAll s (Tl s lp (t + 1)) = ((actAll s (Tl s lp t)).1, (actAll s (Tl s lp t)).2 ++ [(5, t), (2, t)]) := by rw [Tl_yes ht, actAll_snoc, act1_bar hb]
  rw [flags_trg n ht] at h'
  refine ⟨?_, ?_⟩
  · rw [e]
    simpa [evs, List.append_assoc] using h'
  · rw [e]; exact h.agg
theorem LS.zero (h : LS s lp n w2 tb rb t wv bN sN mB mS W) (ht : trg s lp t = true) (hb : ¬ (actAll s (Tl s lp t)).1.any (bars s t) = true) (h0 : (s t).lim = 0) {wv' : Value} (h' : LM w2 tb rb n wv' ((actAll s (Tl s lp t)).2.length + 1) (evs (actAll s (Tl s lp t)).2 ++ evc 5 t) ((flags n (fun j => decide (j < t) && trg s lp j)).set t (.bool true)) (flags n (fun j => decide (j ∈ (actAll s (Tl s lp t)).1))) W') : LS s lp n w2 tb rb (t + 1) wv' bN sN mB mS W' := by
  have e : actAll s (Tl s lp (t + 1)) = ((actAll s (Tl s lp t)).1, (actAll s (Tl s lp t)).2 ++ [(5, t)]) := by rw [Tl_yes ht, actAll_snoc, act1_zero hb h0]
  rw [flags_trg n ht] at h'
  refine ⟨?_, ?_⟩
  · rw [e]
    simpa [evs] using h'
  · rw [e]; exact h.agg
theorem LS.rest (ht : trg s lp t = true) (hb : ¬ (actAll s (Tl s lp t)).1.any (bars s t) = true) (h0 : ¬ (s t).lim = 0) {wv' : Value} (h' : LM w2 tb rb n wv' ((actAll s (Tl s lp t)).2.length + 1) (evs (actAll s (Tl s lp t)).2 ++ evc 5 t) ((flags n (fun j => decide (j < t) && trg s lp j)).set t (.bool true)) ((flags n (fun j => decide (j ∈ (actAll s (Tl s lp t)).1))).set t (.bool true)) W') (ha : Agg s ((actAll s (Tl s lp t)).1 ++ [t]) bN sN mB mS) : LS s lp n w2 tb rb (t + 1) wv' bN sN mB mS W' := by
  have e : actAll s (Tl s lp (t + 1)) = ((actAll s (Tl s lp t)).1 ++ [t], (actAll s (Tl s lp t)).2 ++ [(5, t)]) := by rw [Tl_yes ht, actAll_snoc, act1_rest hb h0]
  rw [flags_trg n ht, flags_rest] at h'
  refine ⟨?_, ?_⟩
  · rw [e]
    simpa [evs] using h'
  · rw [e]; exact ha
end
end Go.Proofs.Ybulkjrk
