/-
  OWN WORK: the walk of the law's own check of the tree.
-/
import Derived.Test.YbulkjrkT11
import Derived.OwnWalk
namespace Go.Proofs.Ybulkjrk
open Go.RowKit
set_option linter.unusedSimpArgs false
set_option linter.unusedVariables false

theorem lit_cells (w : World) (vs : List Value) (t : TypeId) {b : Nat} (hb : b = w.heap.size) : ∀ j u, vs[j]? = some u → (w.alloc (.cells vs.toArray t)).cell? ((⟨b, 0, none⟩ : Addr).add j) = some u := by
  intro j u h
  have e : ((⟨b, 0, none⟩ : Addr).add j) = ⟨w.heap.size, j, none⟩ := by simp [Addr.add, hb]; intro h; exact h.symm
  rw [e, World.cell?_alloc_at _ _ _ _ rfl]
  simpa using h
theorem info2' : (Yba.prog.info? 2).map (fun i => (i.zero, i.size, i.bytes)) = some (some (.int .i64 0), 1, 8) := by kernel_rfl
theorem Rep.overN {S : Nat} {D : Nat → Prop} {ex : Nat → Nat → Value} {s0 : Value} {W W' : World} {σ : Sd} {n : Nat} (h : Rep S D ex s0 W σ) (hb : Below n W W') (hD : ∀ b, D b → b < n) (hS : S < n) : Rep S D ex s0 W' σ :=
  ⟨fun b hb' => Nat.lt_of_lt_of_le (h.lt b hb') hb.size, h.ne, Nat.lt_of_lt_of_le h.slt hb.size, fun b hb' o ho => (hb.cell (p := ⟨b, o, none⟩) (hD b hb')).trans (h.cell b hb' o ho), fun b hb' o => (hb.frozen (p := ⟨b, o, none⟩) (hD b hb')).trans (h.fz b hb' o),
    fun o ho => (hb.cell (p := ⟨S, o, none⟩) hS).trans (h.side o ho), fun o => (hb.frozen (p := ⟨S, o, none⟩) hS).trans (h.sfz o), fun b hb' => by
      obtain ⟨cs, e⟩ := h.blk b hb'
      exact ⟨cs, (hb.block b (hD b hb')).trans e⟩⟩
/-- The slice that '*out' holds. -/
structure OutIs (O : Nat) (W : World) (v : Value) (n : Nat) (xs : List Value) : Prop where
  cell : W.cell? ⟨O, 0, none⟩ = some v
  fz : W.frozen? ⟨O, 0, none⟩ = false
  lt : O < W.heap.size
  own : W.ownsRow (O + 1) 2 1 v n xs

set_option maxRecDepth 100000 in
set_option maxHeartbeats 4000000 in
theorem acheck_any {S O : Nat} {D : Nat → Prop} {ex : Nat → Nat → Value} {s0 : Value} {σ : Sd} (hD : ∀ b, D b → b < O) (hS : S < O) {par b : Option Nat} {l : List Nat} {h : Int} (t : Tree σ par b l h) :
    ∀ (W : World) (depth n : Nat) (xs : List Value) (v : Value), Rep S D ex s0 W σ → (∀ y ∈ l, D y) → OutIs O W v n xs → (depth : Int) + h ≤ 60 → n + l.length ≤ 2000 →
      Calls Yba.prog 21 #[ptr b, ptr par, .pointer (some ⟨O, 0, none⟩), .int .i64 depth] W fun e w' => e = .returned (.tuple #[.int .i8 h, .bool true]) ∧ ∃ v', OutIs O w' v' (n + l.length) (xs ++ l.map fun y => .int .i64 (σ.price y)) ∧ Below O W w' := by
  refine Tree.ind (σ := σ) (P := fun par b l h => ∀ (W : World) (depth n : Nat) (xs : List Value) (v : Value), Rep S D ex s0 W σ → (∀ y ∈ l, D y) → OutIs O W v n xs → (depth : Int) + h ≤ 60 → n + l.length ≤ 2000 →
      Calls Yba.prog 21 #[ptr b, ptr par, .pointer (some ⟨O, 0, none⟩), .int .i64 depth] W fun e w' => e = .returned (.tuple #[.int .i8 h, .bool true]) ∧ ∃ v', OutIs O w' v' (n + l.length) (xs ++ l.map fun y => .int .i64 (σ.price y)) ∧ Below O W w') ?_ ?_ t
  · intro par W depth n xs v hR hDl ho hd hnl
    show Calls Yba.prog 21 #[.pointer none, ptr par, .pointer (some ⟨O, 0, none⟩), .int .i64 depth] W _
    go_enter Yba.func21, Yba.ntmps21
    go_wp2
    go_ret2
    exact ⟨rfl, v, by simpa using ho, Below.refl _ _⟩
  · intro par x l1 l2 h1 h2 h e1 t1 t2 e2 e3 e4 e5 i1 i2 W depth n xs v hR hDl ho hd hnl
    have hx : D x := hDl x (by simp)
    have p1 := t1.pos
    have p2 := t2.pos
    have c6 := hR.cell x hx 6 (by omega)
    have c7 := hR.cell x hx 7 (by omega)
    simp only [lv] at c6 c7
    rw [e1] at c6
    have hlen : n + (l1.length + (l2.length + 1)) ≤ 2000 := by simpa using hnl
    have hnq : ∀ w, (binOp .neq 29 (ptr par) (ptr par)).run Yba.prog w = .ok (.bool false) w := fun w => by
      cases par with
      | none => show (binOp .neq 29 (.pointer none) (.pointer none)).run Yba.prog w = _; rw [run_neq_pointer_nil w 29 none (by kernel_rfl)]; rfl
      | some p => exact neq_same w ⟨p, 0, none⟩
    have hgd : ∀ w, (eqGuard .neq 29 (.tmp 22) (.tmp 23) (ptr par) (ptr par)).run Yba.prog w = .ok () w := fun w => rfl
    have hdI : ¬ (64 : Int) < (depth : Int) := by omega
    obtain ⟨i2', hi2, hz2, hs2, hb2⟩ := info_parts info2'
    show Calls Yba.prog 21 #[.pointer (some ⟨x, 0, none⟩), ptr par, .pointer (some ⟨O, 0, none⟩), .int .i64 depth] W _
    go_enter Yba.func21, Yba.ntmps21
    go_wp2_with (go_at_call 21; refine (i1 W (depth + 1) n xs v hR (fun y hy => hDl y (by simp [hy])) ho (by push_cast; omega) (by omega)).mono ?_; rintro e W1 ⟨rfl, v1, ho1, hB1⟩)
    have hR1 := hR.overN hB1 hD hS
    have e0 := hR1.cell x hx 0 (by omega)
    simp only [lv] at e0
    have hO1 := ho1.lt
    have cO := ho1.cell
    have e0a : (W1.alloc (.cells #[.int .i64 (σ.price x)] 2)).cell? ⟨x, 0, none⟩ = some (.int .i64 (σ.price x)) := (World.cell?_alloc_past _ _ _ (by have := hD x hx; omega)).trans e0
    refine wp_region_held_drew (S := fun w' => w'.cell? ⟨x, 0, none⟩ = some (.int .i64 (σ.price x))) (by kernel_rfl) e0 (fun hHeld => ?_)
    (refine wpAnyH_take (i := 0) (oi := { dst := some 40, op := Op.move (Operand.tmp 2), type := 91, pos := _, after := #[], guard := none }) (v := ?_) rfl (by kernel_rfl) (by kernel_rfl) (by kernel_rfl) (fun _ _ _ h => h) (Or.inl ⟨by rfl, ?_⟩) (by assumption) ?_; rotate_left 1; (focus (intro w hSw; go_simp; (first | done | with_reducible rfl))); try simp only [Act.put, List.setIfInBounds_toArray, List.set_cons_zero, List.set_cons_succ])
    (refine wpAnyH_take (i := 1) (oi := { dst := some 41, op := Op.move (Operand.tmp 2), type := 91, pos := _, after := #[], guard := none }) (v := ?_) rfl (by kernel_rfl) (by kernel_rfl) (by kernel_rfl) (fun _ _ _ h => h) (Or.inl ⟨by rfl, ?_⟩) (by assumption) ?_; rotate_left 1; (focus (intro w hSw; go_simp; (first | done | with_reducible rfl))); try simp only [Act.put, List.setIfInBounds_toArray, List.set_cons_zero, List.set_cons_succ])
    (refine wpAnyH_take (i := 2) (oi := { dst := some 42, op := Op.nilCheck (Operand.tmp 41), type := 0, pos := _, after := #[{ on := 1, ground := Ground.data }], guard := none }) (v := ?_) rfl (by kernel_rfl) (by kernel_rfl) (by kernel_rfl) (fun _ _ _ h => h) (Or.inl ⟨by rfl, ?_⟩) (by assumption) ?_; rotate_left 1; (focus (intro w hSw; go_simp; (first | done | with_reducible rfl))); try simp only [Act.put, List.setIfInBounds_toArray, List.set_cons_zero, List.set_cons_succ])
    (refine wpAnyH_take (i := 4) (oi := { dst := some 44, op := Op.move (Operand.tmp 0), type := 29, pos := _, after := #[], guard := none }) (v := ?_) rfl (by kernel_rfl) (by kernel_rfl) (by kernel_rfl) (fun _ _ _ h => h) (Or.inl ⟨by rfl, ?_⟩) (by assumption) ?_; rotate_left 1; (focus (intro w hSw; go_simp; (first | done | with_reducible rfl))); try simp only [Act.put, List.setIfInBounds_toArray, List.set_cons_zero, List.set_cons_succ])
    (refine wpAnyH_take (i := 5) (oi := { dst := some 45, op := Op.nilCheck (Operand.tmp 44), type := 0, pos := _, after := #[{ on := 4, ground := Ground.data }], guard := none }) (v := ?_) rfl (by kernel_rfl) (by kernel_rfl) (by kernel_rfl) (fun _ _ _ h => h) (Or.inl ⟨by rfl, ?_⟩) (by assumption) ?_; rotate_left 1; (focus (intro w hSw; go_simp; (first | done | with_reducible rfl))); try simp only [Act.put, List.setIfInBounds_toArray, List.set_cons_zero, List.set_cons_succ])
    (refine wpAnyH_take (i := 6) (oi := { dst := some 46, op := Op.fieldAddr 37 (Operand.tmp 45) 0, type := 0, pos := _, after := #[{ on := 5, ground := Ground.data }], guard := none }) (v := ?_) rfl (by kernel_rfl) (by kernel_rfl) (by kernel_rfl) (fun _ _ _ h => h) (Or.inl ⟨by rfl, ?_⟩) (by assumption) ?_; rotate_left 1; (focus (intro w hSw; go_simp; (first | done | with_reducible rfl))); try simp only [Act.put, List.setIfInBounds_toArray, List.set_cons_zero, List.set_cons_succ])
    (refine wpAnyH_take (i := 7) (oi := { dst := some 47, op := Op.load 2 (Operand.tmp 46), type := 2, pos := _, after := #[{ on := 6, ground := Ground.data }], guard := none }) (v := ?_) rfl (by kernel_rfl) (by kernel_rfl) (by kernel_rfl) (fun _ _ _ h => h) (Or.inl ⟨by rfl, ?_⟩) (by assumption) ?_; rotate_left 1; (focus (intro w hSw; go_simp; (first | done | with_reducible rfl))); try simp only [Act.put, List.setIfInBounds_toArray, List.set_cons_zero, List.set_cons_succ])
    (refine wpAnyH_ready (rs := [3, 8]) (by kernel_rfl) (by simp) ?_; refine AllReadyH.cons (o := { dst := some 43, op := Op.load 22 (Operand.tmp 42), type := 22, pos := _, after := #[{ on := 2, ground := Ground.data }], guard := none }) rfl (fun K hK => ?_) (AllReadyH.cons (o := { dst := some 48, op := Op.buildSlice 22 1 #[(0, Operand.tmp 47)], type := 22, pos := _, after := #[{ on := 7, ground := Ground.data }], guard := none }) rfl (fun K hK => ?_) AllReadyH.nil))
    (go_simp; refine hK.out _ _ e0 (fun hst1 => ?_); clear hK K; try simp only [Act.put, List.setIfInBounds_toArray, List.set_cons_zero, List.set_cons_succ])
    (refine wpAnyH_ready (rs := [8]) (by kernel_rfl) (by simp) ?_; refine AllReadyH.cons (o := { dst := some 48, op := Op.buildSlice 22 1 #[(0, Operand.tmp 47)], type := 22, pos := _, after := #[{ on := 7, ground := Ground.data }], guard := none }) rfl (fun K hK => ?_) AllReadyH.nil)
    (go_simp; refine hK.out _ _ e0a (fun hst2 => ?_); clear hK K; try simp only [Act.put, List.setIfInBounds_toArray, List.set_cons_zero, List.set_cons_succ])
    rotate_left 1
    (go_simp; refine hK.out _ _ e0a (fun hst1 => ?_); clear hK K; try simp only [Act.put, List.setIfInBounds_toArray, List.set_cons_zero, List.set_cons_succ])
    (refine wpAnyH_ready (rs := [3]) (by kernel_rfl) (by simp) ?_; refine AllReadyH.cons (o := { dst := some 43, op := Op.load 22 (Operand.tmp 42), type := 22, pos := _, after := #[{ on := 2, ground := Ground.data }], guard := none }) rfl (fun K hK => ?_) AllReadyH.nil)
    (go_simp; refine hK.out _ _ e0a (fun hst2 => ?_); clear hK K; try simp only [Act.put, List.setIfInBounds_toArray, List.set_cons_zero, List.set_cons_succ])
    all_goals
      (refine wpAnyH_ready (rs := [9]) (by kernel_rfl) (by simp) ?_; refine AllReadyH.cons rfl (fun K hK => ?_) AllReadyH.nil)
      refine wp_append_own _ _ _ 22 rfl (O + 1) 2 i2' (.int .i64 0) 1 8 Yba.underlying22 hi2 hz2 hs2 hb2 rfl (by decide) v1 (n + l1.length) (xs ++ l1.map fun y => .int .i64 (σ.price y)) rfl (ho1.own.alloc _).drew ⟨W1.heap.size, 0, none⟩ 1 1 [.int .i64 (σ.price x)] rfl rfl (lit_cells _ _ _ rfl) (by simp [Value.oneCell']) (by unfold maxLen; omega) (by omega) (by have := ho1.lt; simp; omega) (fun v5 w5 hown5 hgrow5 hnil5 => ?_)
      obtain ⟨gg, cap, rfl⟩ : ∃ gg cap, v5 = .slice (some ⟨gg, 0, none⟩) (n + l1.length + 1) cap := by
        rcases hown5.2 with ⟨_, hz⟩ | ⟨gg, cap, cur, hv, _⟩
        · omega
        · exact ⟨gg, cap, hv⟩
      have hg5 : (W1.alloc (.cells #[.int .i64 (σ.price x)] 2)).grownBy w5 v1.ownBlock := ⟨hgrow5.os, hgrow5.tape, hgrow5.output, hgrow5.size, hgrow5.block⟩
      have hO5 : ∀ k, v1.ownBlock = some k → O + 1 ≤ k := fun k e => (ho1.own.lt k e).1
      have hxx : w5.cell? ⟨x, 0, none⟩ = some (.int .i64 (σ.price x)) := hgrow5.cell e0a (fun e => by have := hO5 x e.symm; have := hD x hx; omega)
      refine hK.out _ _ hxx (fun hst3 => ?_)
      clear hK K
      try simp only [Act.put, List.setIfInBounds_toArray, List.set_cons_zero, List.set_cons_succ]
      (refine wpAnyH_take (i := 10) (oi := { dst := some 50, op := Op.nilCheck (Operand.tmp 40), type := 0, pos := _, after := #[{ on := 0, ground := Ground.data }, { on := 0, ground := Ground.phase }, { on := 1, ground := Ground.phase }, { on := 2, ground := Ground.phase }, { on := 3, ground := Ground.phase }, { on := 4, ground := Ground.phase }, { on := 5, ground := Ground.phase }, { on := 6, ground := Ground.phase }, { on := 7, ground := Ground.phase }, { on := 8, ground := Ground.phase }, { on := 9, ground := Ground.phase }], guard := none }) (v := ?_) rfl (by kernel_rfl) (by kernel_rfl) (by kernel_rfl) (fun _ _ _ h => h) (Or.inl ⟨by rfl, ?_⟩) (by assumption) ?_; rotate_left 1; (focus (intro w hSw; go_simp; (first | done | with_reducible rfl))); try simp only [Act.put, List.setIfInBounds_toArray, List.set_cons_zero, List.set_cons_succ])
      have hcO : w5.cell? ⟨O, 0, none⟩ = some v1 := hgrow5.cell ((World.cell?_alloc_past _ _ _ ho1.lt).trans ho1.cell) (fun e => by have := hO5 O e.symm; omega)
      have hfO : w5.frozen? ⟨O, 0, none⟩ = false := by
        have hlt0 : O < (W1.alloc (.cells #[.int .i64 (σ.price x)] 2)).heap.size := by have := ho1.lt; simp; omega
        exact (World.frozen?_of_block (a := ⟨O, 0, none⟩) (hgrow5.block O hlt0 (fun e => by have := hO5 O e.symm; omega))).trans ((World.frozen?_alloc_past _ _ _ ho1.lt).trans ho1.fz)
      (refine wpAnyH_ready (rs := [11]) (by kernel_rfl) (by simp) ?_; refine AllReadyH.cons (o := { dst := none, op := Op.store 22 (Operand.tmp 50) (Operand.tmp 49), type := 0, pos := _, after := #[{ on := 10, ground := Ground.data }, { on := 9, ground := Ground.data }, { on := 9, ground := Ground.chain }, { on := 0, ground := Ground.phase }, { on := 1, ground := Ground.phase }, { on := 2, ground := Ground.phase }, { on := 3, ground := Ground.phase }, { on := 4, ground := Ground.phase }, { on := 5, ground := Ground.phase }, { on := 6, ground := Ground.phase }, { on := 7, ground := Ground.phase }, { on := 8, ground := Ground.phase }, { on := 9, ground := Ground.phase }], guard := none }) rfl (fun K hK => ?_) AllReadyH.nil)
      go_simp
      refine hK.out _ _ ((oth (b := O) (o := 0) (b' := x) (o' := 0) (.inl (fun e => Nat.lt_irrefl _ (e ▸ hD x hx)))).trans hxx) (fun hst4 => ?_)
      clear hK K
      try simp only [Act.put, List.setIfInBounds_toArray, List.set_cons_zero, List.set_cons_succ]
      refine wpAnyH_done (by kernel_rfl) ?_ _
      have hB5 : Below O W1 (w5.setCell ⟨O, 0, none⟩ (.slice (some ⟨gg, 0, none⟩) (n + l1.length + 1) cap)) := ((((Below.refl O W1).alloc (Nat.le_of_lt ho1.lt) _).grown hg5 (by have := ho1.lt; simp; omega) (fun k e => by have := hO5 k e; omega)).setCell (p := ⟨O, 0, none⟩) (Nat.le_refl _) _)
      have ho5 : OutIs O (w5.setCell ⟨O, 0, none⟩ (.slice (some ⟨gg, 0, none⟩) (n + l1.length + 1) cap)) (.slice (some ⟨gg, 0, none⟩) (n + l1.length + 1) cap) (n + l1.length + 1) ((xs ++ l1.map fun y => .int .i64 (σ.price y)) ++ [.int .i64 (σ.price x)]) := ⟨World.cell?_setCell_same _ _ _ hcO, by rw [World.frozen?_setCell]; exact hfO, by have := hgrow5.size; have := ho1.lt; simp at *; omega, (ownsRow_setCell_below hown5 (a := ⟨O, 0, none⟩) (by simp) _)⟩
      generalize (w5.setCell ⟨O, 0, none⟩ (.slice (some ⟨gg, 0, none⟩) (n + l1.length + 1) cap)) = W5 at *
      have hR5 := hR1.overN hB5 hD hS
      have hk9 := hR5.cell x hx 9 (by omega)
      have hk8 := hR5.cell x hx 8 (by omega)
      simp only [lv] at hk9 hk8
      clear hown5 hgrow5 hg5 hnil5 hxx hcO hfO hHeld hst3 hst4 e0 e0a
      go_wp2_with (go_at_call 21; refine (i2 W5 (depth + 1) _ _ _ hR5 (fun y hy => hDl y (by simp [hy])) ho5 (by push_cast; omega) (by simp at hnl; omega)).mono ?_; rintro e W6 ⟨rfl, v6, ho6, hB6⟩; have hR6 := hR5.overN hB6 hD hS; have hj9 := hR6.cell x hx 9 (by omega); simp only [lv] at hj9)
      all_goals first
        | (go_ret2; refine ⟨by rw [e3]; rfl, v6, ?_, hB1.trans (hB5.trans hB6)⟩; rw [show n + (l1 ++ x :: l2).length = n + l1.length + 1 + l2.length by simp; omega]; simpa using ho6)
        | (exfalso; omega)

end Go.Proofs.Ybulkjrk
