import Derived.Test.YbulkjrkN4
namespace Go.Proofs.Ybulkjrk
open Go.RowKit
set_option linter.unusedSimpArgs false
set_option linter.unusedVariables false

/-- An Event: nine cells. -/
structure Ev where
  kind : Int
  ou : Int
  oi : Int
  sym : ByteArray
  side : Int
  price : Int
  qty : Int
  ru : Int
  ri : Int
def Ev.at (e : Ev) : Nat → Value
  | 0 => .int .u8 e.kind
  | 1 => .int .u64 e.ou
  | 2 => .int .u64 e.oi
  | 3 => .string e.sym
  | 4 => .int .u8 e.side
  | 5 => .int .i64 e.price
  | 6 => .int .i64 e.qty
  | 7 => .int .u64 e.ru
  | _ => .int .u64 e.ri
def IsEv (w : World) (b o : Nat) (e : Ev) : Prop := ∀ k, k < 9 → w.cell? ⟨b, o + k, none⟩ = some (e.at k)

/-- The nine cells of an Event, stored one after the other. -/
def Ev.put (w : World) (b o : Nat) (e : Ev) : World := (((((((((w.setCell ⟨b, o, none⟩ (.int .u8 e.kind)).setCell ⟨b, o + 1, none⟩ (.int .u64 e.ou)).setCell ⟨b, o + 2, none⟩ (.int .u64 e.oi)).setCell ⟨b, o + 3, none⟩ (.string e.sym)).setCell ⟨b, o + 4, none⟩ (.int .u8 e.side)).setCell ⟨b, o + 5, none⟩ (.int .i64 e.price)).setCell ⟨b, o + 6, none⟩ (.int .i64 e.qty)).setCell ⟨b, o + 7, none⟩ (.int .u64 e.ru)).setCell ⟨b, o + 8, none⟩ (.int .u64 e.ri))
theorem Ev.put_out (w : World) (b o : Nat) (e : Ev) (b' o' : Nat) (h : ¬ (b' = b ∧ o ≤ o' ∧ o' < o + 9)) : (Ev.put w b o e).cell? ⟨b', o', none⟩ = w.cell? ⟨b', o', none⟩ := by
  unfold Ev.put
  repeat rw [World.cell?_setCell_other _ _ _ _ (by simp only [ne_eq, Addr.mk.injEq]; omega)]
theorem Ev.put_frozen (w : World) (b o : Nat) (e : Ev) (a : Addr) : (Ev.put w b o e).frozen? a = w.frozen? a := by
  simp [Ev.put]
theorem Ev.put_size (w : World) (b o : Nat) (e : Ev) : (Ev.put w b o e).heap.size = w.heap.size := by
  simp [Ev.put]
theorem Ev.put_in (w : World) (b o : Nat) (e : Ev) (h : ∀ k, k < 9 → ∃ v, w.cell? ⟨b, o + k, none⟩ = some v) : IsEv (Ev.put w b o e) b o e := by
  intro k hk
  obtain ⟨v0, h0⟩ := h 0 (by omega)
  obtain ⟨v1, h1⟩ := h 1 (by omega)
  obtain ⟨v2, h2⟩ := h 2 (by omega)
  obtain ⟨v3, h3⟩ := h 3 (by omega)
  obtain ⟨v4, h4⟩ := h 4 (by omega)
  obtain ⟨v5, h5⟩ := h 5 (by omega)
  obtain ⟨v6, h6⟩ := h 6 (by omega)
  obtain ⟨v7, h7⟩ := h 7 (by omega)
  obtain ⟨v8, h8⟩ := h 8 (by omega)
  rw [Nat.add_zero] at h0
  unfold Ev.put
  match k, hk with
  | 0, _ | 1, _ | 2, _ | 3, _ | 4, _ | 5, _ | 6, _ | 7, _ | 8, _ => simp (maxDischargeDepth := 8) [Ev.at, World.cell?_setCell_other, World.cell?_setCell_same', h0, h1, h2, h3, h4, h5, h6, h7, h8]
theorem Ev.put_below {B : Nat} {a w : World} (h : Below B a w) (b o : Nat) (e : Ev) (hB : B ≤ b) : Below B a (Ev.put w b o e) := by
  unfold Ev.put
  repeat (refine below_put ?_ hB)
  exact h
theorem copy_round {n j N : Nat} {es : Nat → Ev} {w wr : World} (hj : j < n) (hN : N = w.heap.size) (hBr : Below w.heap.size w wr) (hzr : N < wr.heap.size) (hdone : ∀ i, i < j → IsEv wr N (i * 9) (es i)) (hcr : ∀ j, j < n * 9 → ∃ v, wr.cell? ⟨N, j, none⟩ = some v) (hfr : ∀ j, wr.frozen? ⟨N, j, none⟩ = false) :
    Below w.heap.size w (Ev.put wr N (j * 9) (es j)) ∧ N < (Ev.put wr N (j * 9) (es j)).heap.size ∧ (∀ i, i < j + 1 → IsEv (Ev.put wr N (j * 9) (es j)) N (i * 9) (es i)) ∧ (∀ k, k < n * 9 → ∃ v, (Ev.put wr N (j * 9) (es j)).cell? ⟨N, k, none⟩ = some v) ∧ ∀ k, (Ev.put wr N (j * 9) (es j)).frozen? ⟨N, k, none⟩ = false := by
  have hin := Ev.put_in wr N (j * 9) (es j) (fun k hk => hcr _ (by omega))
  refine ⟨Ev.put_below hBr _ _ _ (by omega), by rw [Ev.put_size]; exact hzr, ?_, ?_, ?_⟩
  · intro i hi
    by_cases e : i = j
    · subst e; exact hin
    · intro k hk
      rw [Ev.put_out _ _ _ _ _ _ (by omega)]
      exact hdone i (by omega) k hk
  · intro k hk
    by_cases e : j * 9 ≤ k ∧ k < j * 9 + 9
    · have := hin (k - j * 9) (by omega)
      rw [show j * 9 + (k - j * 9) = k from by omega] at this
      exact ⟨_, this⟩
    · rw [Ev.put_out _ _ _ _ _ _ (by omega)]
      exact hcr k hk
  · intro k
    rw [Ev.put_frozen]
    exact hfr k

/-- A 'make' of n Events: a new block, each of its cells there and free to be written. -/
theorem make_events (n : Nat) (hn : n ≤ 1024) (w : World) : ∃ w1 : World, (∀ (ρ : Operand → Value) (o : Oper) (x y : Operand), ρ x = .int .i64 n → ρ y = .int .i64 n → (execOp ρ { o with op := .makeSlice 40 x y }).run Yba.prog w = .ok (.value (.slice (some ⟨w.heap.size, 0, none⟩) n n)) w1) ∧
    Below w.heap.size w w1 ∧ w.heap.size < w1.heap.size ∧ (∀ j, j < n * 9 → ∃ v, w1.cell? ⟨w.heap.size, j, none⟩ = some v) ∧ ∀ j, w1.frozen? ⟨w.heap.size, j, none⟩ = false := by
  obtain ⟨i, hi, hb, hs⟩ : ∃ i, Yba.prog.info? 59 = some i ∧ i.bytes = 80 ∧ i.size = 9 := ⟨Yba.t59, by kernel_rfl, by kernel_rfl, by kernel_rfl⟩
  obtain ⟨z, hz⟩ : ∃ z, i.zero = some z := by
    have h : (Yba.prog.info? 59).bind (·.zero) = some (.agg #[.int .u8 0, .int .u64 0, .int .u64 0, .string ByteArray.empty, .int .u8 0, .int .i64 0, .int .i64 0, .int .u64 0, .int .u64 0]) := by kernel_rfl
    rw [hi] at h
    exact ⟨_, h⟩
  have hr := run_make (P := Yba.prog) w 40 59 i z Yba.underlying40 hi hz .i64 .i64 n n (by omega) (by omega) (by rw [hb]; omega) (by omega)
  simp only [Int.toNat_natCast] at hr
  refine ⟨w.alloc (.cells (madeCells z.cells (n * i.size)) 59), ?_, (Below.refl _ _).alloc (Nat.le_refl _) _, by simp, ?_, ?_⟩
  · intro ρ o x y hx hy
    show ((Instr.makeSlice 40 (ρ x) (ρ y)) >>= fun v => (pure (.value v) : Sem Next)).run Yba.prog w = _
    rw [hx, hy, Sem.run_bind, hr]
    rfl
  · intro j hj
    rw [World.cell?_alloc_at _ _ _ _ rfl]
    rw [hs]
    have : j < (madeCells z.cells (n * 9)).size := by rw [size_madeCells]; exact hj
    exact ⟨_, Array.getElem?_eq_getElem this⟩
  · intro j
    exact World.frozen?_alloc_at _ _ _ _ rfl

theorem wpList_events {ops : Array Oper} {rest : List Oper} {o : Oper} {a : Act} {w w1 : World} {Q : Exit → Act → World → Prop} {n : Nat}
    (hr : Hid (∀ (ρ : Operand → Value) (o : Oper) (x y : Operand), ρ x = .int .i64 n → ρ y = .int .i64 n → (execOp ρ { o with op := .makeSlice 40 x y }).run Yba.prog w = .ok (.value (.slice (some ⟨w.heap.size, 0, none⟩) n n)) w1))
    (hg : o.guard = none) (x y : Operand) (ho : o.op = .makeSlice 40 x y) (hx : a.eval x = .int .i64 n) (hy : a.eval y = .int .i64 n)
    (h : wpList Yba.prog ops Q rest (a.put o.dst (.slice (some ⟨w.heap.size, 0, none⟩) n n)) w1) : wpList Yba.prog ops Q (o :: rest) a w := by
  refine wpList_plain hg fun K hK => ?_
  have hrun := hr.out a.eval o x y hx hy
  rw [← ho] at hrun
  unfold Oper.wp
  rw [hrun, Oper.upon_value]
  exact hK _ _ h

set_option maxRecDepth 100000 in
set_option maxHeartbeats 1000000 in
theorem copy_some (b off n c : Nat) (es : Nat → Ev) (w : World) (hn : n ≤ 1024) (hb : b < w.heap.size) (he : ∀ i, i < n → IsEv w b (off + i * 9) (es i)) :
    Calls Yba.prog 12 #[.slice (some ⟨b, off, none⟩) n c] w fun e w' => ∃ bn, w.heap.size ≤ bn ∧ bn < w'.heap.size ∧ e = .returned (.slice (some ⟨bn, 0, none⟩) n n) ∧ Below w.heap.size w w' ∧ ∀ i, i < n → IsEv w' bn (i * 9) (es i) := by
  obtain ⟨w1, hr, hB1, hz1, hc1, hf1⟩ := make_events n hn w
  have HR : Hid (∀ (ρ : Operand → Value) (o : Oper) (x y : Operand), ρ x = .int .i64 n → ρ y = .int .i64 n → (execOp ρ { o with op := .makeSlice 40 x y }).run Yba.prog w = .ok (.value (.slice (some ⟨w.heap.size, 0, none⟩) n n)) w1) := hr
  clear hr
  have heq : ∀ w, (binOp .eql 40 (.slice (some ⟨b, off, none⟩) n c) (.slice none 0 0)).run Yba.prog w = .ok (.bool false) w := fun w => by simpa using Go.Lib.run_eql_slice_nil (P := Yba.prog) w 40 59 (some ⟨b, off, none⟩) n c 0 0 Yba.underlying40
  have hnI : (n : Int) ≤ 1024 := by omega
  go_enter Yba.func12, Yba.ntmps12
  go_wp2_with (at_make; refine wpList_events HR rfl _ _ rfl rfl rfl ?_)
  go_loopw [4] (fun k wr => ∃ j : Nat, j ≤ n ∧ k = .int .i64 j ∧ Below w.heap.size w wr ∧ w.heap.size < wr.heap.size ∧ (∀ i, i < j → IsEv wr w.heap.size (i * 9) (es i)) ∧ (∀ j, j < n * 9 → ∃ v, wr.cell? ⟨w.heap.size, j, none⟩ = some v) ∧ ∀ j, wr.frozen? ⟨w.heap.size, j, none⟩ = false) (fun k _ => n - (intOf k).toNat)
  case atStart => exact ⟨0, by omega, rfl, hB1, hz1, fun i hi => absurd hi (by omega), hc1, hf1⟩
  case round =>
    obtain ⟨j, hj, rfl, hBr, hzr, hdone, hcr, hfr⟩ := hrel
    clear hc1 hf1 HR heq
    by_cases hlt : j < n
    · have hltI : (j : Int) < (n : Int) := by omega
      have l0 : wr.cell? ⟨b, off + j * 9, none⟩ = some (.int .u8 (es j).kind) := ((bcell hBr).1 _ _ hb).trans (he j hlt 0 (by omega))
      have l1 : wr.cell? ⟨b, off + j * 9 + 1, none⟩ = some (.int .u64 (es j).ou) := ((bcell hBr).1 _ _ hb).trans (he j hlt 1 (by omega))
      have l2 : wr.cell? ⟨b, off + j * 9 + 2, none⟩ = some (.int .u64 (es j).oi) := ((bcell hBr).1 _ _ hb).trans (he j hlt 2 (by omega))
      have l3 : wr.cell? ⟨b, off + j * 9 + 3, none⟩ = some (.string (es j).sym) := ((bcell hBr).1 _ _ hb).trans (he j hlt 3 (by omega))
      have l4 : wr.cell? ⟨b, off + j * 9 + 4, none⟩ = some (.int .u8 (es j).side) := ((bcell hBr).1 _ _ hb).trans (he j hlt 4 (by omega))
      have l5 : wr.cell? ⟨b, off + j * 9 + 5, none⟩ = some (.int .i64 (es j).price) := ((bcell hBr).1 _ _ hb).trans (he j hlt 5 (by omega))
      have l6 : wr.cell? ⟨b, off + j * 9 + 6, none⟩ = some (.int .i64 (es j).qty) := ((bcell hBr).1 _ _ hb).trans (he j hlt 6 (by omega))
      have l7 : wr.cell? ⟨b, off + j * 9 + 7, none⟩ = some (.int .u64 (es j).ru) := ((bcell hBr).1 _ _ hb).trans (he j hlt 7 (by omega))
      have l8 : wr.cell? ⟨b, off + j * 9 + 8, none⟩ = some (.int .u64 (es j).ri) := ((bcell hBr).1 _ _ hb).trans (he j hlt 8 (by omega))
      obtain ⟨x0, d0⟩ := hcr (j * 9) (by omega)
      obtain ⟨x1, d1⟩ := hcr (j * 9 + 1) (by omega)
      obtain ⟨x2, d2⟩ := hcr (j * 9 + 2) (by omega)
      obtain ⟨x3, d3⟩ := hcr (j * 9 + 3) (by omega)
      obtain ⟨x4, d4⟩ := hcr (j * 9 + 4) (by omega)
      obtain ⟨x5, d5⟩ := hcr (j * 9 + 5) (by omega)
      obtain ⟨x6, d6⟩ := hcr (j * 9 + 6) (by omega)
      obtain ⟨x7, d7⟩ := hcr (j * 9 + 7) (by omega)
      obtain ⟨x8, d8⟩ := hcr (j * 9 + 8) (by omega)
      have f0 := hfr (j * 9)
      have f1 := hfr (j * 9 + 1)
      have f2 := hfr (j * 9 + 2)
      have f3 := hfr (j * 9 + 3)
      have f4 := hfr (j * 9 + 4)
      have f5 := hfr (j * 9 + 5)
      have f6 := hfr (j * 9 + 6)
      have f7 := hfr (j * 9 + 7)
      have f8 := hfr (j * 9 + 8)
      have HC : Hid (∀ j, j < n * 9 → ∃ v, wr.cell? ⟨w.heap.size, j, none⟩ = some v) := hcr
      have HF : Hid (∀ j, wr.frozen? ⟨w.heap.size, j, none⟩ = false) := hfr
      clear hcr hfr he
      go_wp2
      go_roundw
      case rel => exact ⟨j + 1, by omega, by go_num, copy_round (w := w) (wr := wr) (es := es) hlt rfl hBr hzr hdone HC.out HF.out⟩
      case measure => simp [intOf]; omega
    · have hge : ¬ (j : Int) < (n : Int) := by omega
      go_wp2
      go_ret
      have : j = n := by omega
      subst this
      exact ⟨w.heap.size, Nat.le_refl _, hzr, rfl, hBr, hdone⟩

end Go.Proofs.Ybulkjrk
