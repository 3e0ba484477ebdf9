import Derived.Test.YbulkjqwF4
namespace Go.Proofs.Ybulkjqw
open Go.RowKit Go.Shelf
set_option linter.unusedSimpArgs false
set_option linter.unusedVariables false
attribute [local go_sem] Oper.semAt_some

theorem room_is (D : Bool) (v s cv cs B L : Int) (st : ByteArray) (h : decide (cv ≤ v ∧ cs ≤ s) = D) (w : World) : Calls Yba.prog 20 #[.agg #[.int .i64 v, .int .i64 s, .string st], .agg #[.int .i64 B, .int .i64 cv, .int .i64 cs, .int .i64 L]] w fun e w' => e = .returned (.bool D) ∧ Below w.heap.size w w' := by
  refine (room_any v s cv cs B L st w).mono ?_
  rintro e w' ⟨rfl, hb⟩
  exact ⟨by rw [h], hb⟩

theorem grown_of_below {W W' : World} (h : Below W.heap.size W W') : W.grownBy W' none := ⟨h.os, h.tape, h.output, h.size, fun k hk _ => h.block k hk⟩

/-- What a round of the loop keeps: what lay below n₀, and the block Bc. -/
def Kpc (n₀ Bc : Nat) (W W' : World) : Prop := Below n₀ W W' ∧ W'.heap[Bc]? = W.heap[Bc]?

theorem Kpc.cell {n₀ Bc : Nat} {W W' : World} (h : Kpc n₀ Bc W W') (o : Nat) : W'.cell? ⟨Bc, o, none⟩ = W.cell? ⟨Bc, o, none⟩ := by
  have := h.2
  exact World.cell?_of_block (w := W) (a := ⟨Bc, o, none⟩) this

theorem Kpc.trans {n₀ Bc : Nat} {A B C : World} (h : Kpc n₀ Bc A B) (k : Kpc n₀ Bc B C) : Kpc n₀ Bc A C := ⟨h.1.trans k.1, k.2.trans h.2⟩

theorem Kpc.of_below {n₀ Bc : Nat} {A B : World} (h : Below A.heap.size A B) (h0 : n₀ ≤ A.heap.size) (hB : Bc < A.heap.size) : Kpc n₀ Bc A B := ⟨h.mono h0, h.block _ hB⟩

/-- The nodes with room among the first k. -/
def roomy (cv cs : Int) (v s : Nat → Int) : Nat → List Nat
  | 0 => []
  | k + 1 => if cv ≤ v k ∧ cs ≤ s k then roomy cv cs v s k ++ [k] else roomy cv cs v s k

theorem roomy_len (cv cs : Int) (v s : Nat → Int) (k : Nat) : (roomy cv cs v s k).length ≤ k := by
  induction k with
  | zero => simp [roomy]
  | succ k ih =>
    rw [roomy]
    split
    · simp; omega
    · omega

set_option maxRecDepth 100000 in
set_option maxHeartbeats 1500000 in
theorem iter_in (n : Nat) (hn : 1 ≤ n) (l n₀ Be Bc : Nat) (be bsn ba bf bn bp bq bj br : Nat) (bc bd : Nat → Nat) (N m hd : Nat) (req : Nat → Int) (v s : Nat → Int) (B cv cs L : Int) (hN : N ≤ 256)
    (J Jx : List Nat → World → Prop) (W : World) (hJ : AbidesFrom W.heap.size J) (hn0 : n₀ ≤ W.heap.size) (hBc0 : n₀ ≤ Bc) (hBc : Bc < W.heap.size)
    (hY : ∀ pre (x : Nat) W1, J pre W1 → pre.length < N → YieldAt Fence.wide (n - 1) Yba.prog l #[.agg #[.int .i64 (v x), .int .i64 (s x), .string ⟨#[0]⟩], .int .i64 x] W1 fun e W' =>
      (e = .returned (.bool true) ∧ J (pre ++ [x]) W' ∧ Kpc n₀ Bc W1 W') ∨ (e = .returned (.bool false) ∧ Jx (pre ++ [x]) W'))
    (E : ∀ W', Below n₀ W W' → Emu W' be bsn ba bf bn bp bq bj br bc bd N m hd req v s)
    (hBe : W.cell? ⟨Be, 0, none⟩ = some (.pointer (some ⟨be, 0, none⟩)))
    (hc0 : W.cell? ⟨Bc, 0, none⟩ = some (.int .i64 B)) (hc1 : W.cell? ⟨Bc, 1, none⟩ = some (.int .i64 cv)) (hc2 : W.cell? ⟨Bc, 2, none⟩ = some (.int .i64 cs)) (hc3 : W.cell? ⟨Bc, 3, none⟩ = some (.int .i64 L)) (h0 : J [] W) :
    CallsIn Fence.wide n Yba.prog 27 #[.func (.yield l) #[] #[], .pointer (some ⟨Be, 0, none⟩), .pointer (some ⟨Bc, 0, none⟩)] W fun e W' => (∃ v, e = .returned v) ∧
      ((∃ ys, ys = roomy cv cs v s N ∧ J ys W') ∨ (∃ pre, True ∧ Jx pre W')) := by
  have hro : Fence.wide.round = none := rfl
  have E0 := E W (Below.refl _ _)
  have e4 := E0.e4
  have e8 := E0.e8
  refine callsIn_of_wp Yba.func27 rfl trivial ?_ hro
  simp only [Yba.ntmps27, List.size_toArray, List.length_cons, List.length_nil, Nat.reduceAdd, Nat.reduceSub, Array.replicate_succ, Array.replicate_zero, List.push_toArray, List.append_toArray, List.nil_append, List.cons_append]
  gi_wp2_with (refine ⟨trivial, ?_⟩; gi_at_call 28; refine (callsIn_wide.2 (expire_zero _ _ e8)).mono ?_; rintro e w' ⟨rfl, n1, rfl⟩)
  gi_loopw [14] (fun i wr => ∃ k : Nat, k ≤ N ∧ i = .int .i64 k ∧ J (roomy cv cs v s k) wr ∧ Kpc n₀ Bc W wr) (fun i _ => N - (intOf i).toNat)
  case atStart => exact ⟨0, Nat.zero_le _, rfl, hJ _ _ _ none h0 (grown_of_below (below_draws (Below.refl _ _) _)) (by simp), below_draws (Below.refl _ _) _, rfl⟩
  case round =>
    obtain ⟨k, hk, rfl, hJs, hkp⟩ := hrel
    by_cases hlt : k < N
    · have hltI : (k : Int) < (N : Int) := by omega
      have Ek := E wr hkp.1
      have g1 := Ek.pp k hlt
      have g2 := Ek.cv k hlt
      have g3 := Ek.cs k hlt
      have g4 := Ek.cw k hlt
      have g5 := Ek.c4 k hlt
      have g6 := Ek.d0 k hlt
      have c0 := (hkp.cell 0).trans hc0
      have c1 := (hkp.cell 1).trans hc1
      have c2 := (hkp.cell 2).trans hc2
      have c3 := (hkp.cell 3).trans hc3
      have hszn : n₀ ≤ wr.heap.size := Nat.le_trans hn0 hkp.1.size
      have hszc : Bc < wr.heap.size := Nat.lt_of_lt_of_le hBc hkp.1.size
      have hmx : Yba.prog.follows .mixedOrders = true := by kernel_rfl
      by_cases hr : cv ≤ v k ∧ cs ≤ s k
      · have hD := decide_eq_true hr
        have HS : Hid (roomy cv cs v s (k + 1) = roomy cv cs v s k ++ [k]) := by show _ = _; rw [roomy, if_pos hr]
        gi_wp2
        clear g1 hc0 hc1 hc2 hc3 hBe E0 e4 e8 Ek g5 g6 hBc0 hltI hr h0
        refine wpIn_region_any hmx ?_
        change wpAnyIn _ _ _ _ _ _ _ _ _ (World.drew _)
        all_goals
          (refine wpAnyIn_take (i := 0) (oi := { dst := some 18, op := Op.move (Operand.tmp 5), type := 62, pos := _, after := #[], guard := none }) (v := ?_) rfl rfl (by kernel_rfl) (by kernel_rfl) (by kernel_rfl) (fun _ _ _ h => h) ⟨Or.inl ⟨by rfl, ?_⟩, fun _ => rfl⟩ ?_; rotate_left 1; (focus (intro w; go_simp; (first | done | with_reducible rfl))); try simp only [Act.put, List.setIfInBounds_toArray, List.set_cons_zero, List.set_cons_succ])
          (refine wpAnyIn_take (i := 1) (oi := { dst := some 19, op := Op.nilCheck (Operand.tmp 18), type := 0, pos := _, after := #[{ on := 0, ground := Ground.data }], guard := none }) (v := ?_) rfl rfl (by kernel_rfl) (by kernel_rfl) (by kernel_rfl) (fun _ _ _ h => h) ⟨Or.inl ⟨by rfl, ?_⟩, fun _ => rfl⟩ ?_; rotate_left 1; (focus (intro w; go_simp; (first | done | with_reducible rfl))); try simp only [Act.put, List.setIfInBounds_toArray, List.set_cons_zero, List.set_cons_succ])
          (refine wpAnyIn_take (i := 2) (oi := { dst := some 20, op := Op.fieldAddr 67 (Operand.tmp 19) 0, type := 0, pos := _, after := #[{ on := 1, ground := Ground.data }], guard := none }) (v := ?_) rfl rfl (by kernel_rfl) (by kernel_rfl) (by kernel_rfl) (fun _ _ _ h => h) ⟨Or.inl ⟨by rfl, ?_⟩, fun _ => rfl⟩ ?_; rotate_left 1; (focus (intro w; go_simp; (first | done | with_reducible rfl))); try simp only [Act.put, List.setIfInBounds_toArray, List.set_cons_zero, List.set_cons_succ])
          (refine wpAnyIn_ready (rs := [3, 4]) (by kernel_rfl) (by simp) ?_; refine AllReadyIn.cons (o := { dst := some 21, op := Op.load 58 (Operand.tmp 20), type := 58, pos := _, after := #[{ on := 2, ground := Ground.data }], guard := none }) rfl (fun K hK => ?_) (AllReadyIn.cons (o := { dst := some 22, op := Op.load 45 (Operand.tmp 2), type := 45, pos := _, after := #[], guard := none }) rfl (fun K hK => ?_) AllReadyIn.nil))
          (go_simp; refine hK _ _ ?_; clear hK K; try simp only [Act.put, List.setIfInBounds_toArray, List.set_cons_zero, List.set_cons_succ])
          (refine wpAnyIn_ready (rs := [4]) (by kernel_rfl) (by simp) ?_; refine AllReadyIn.cons (o := { dst := some 22, op := Op.load 45 (Operand.tmp 2), type := 45, pos := _, after := #[], guard := none }) rfl (fun K hK => ?_) AllReadyIn.nil)
          (go_simp; refine hK _ _ ?_; clear hK K; try simp only [Act.put, List.setIfInBounds_toArray, List.set_cons_zero, List.set_cons_succ])
          rotate_left 1
          (go_simp; refine hK _ _ ?_; clear hK K; try simp only [Act.put, List.setIfInBounds_toArray, List.set_cons_zero, List.set_cons_succ])
          (refine wpAnyIn_ready (rs := [3]) (by kernel_rfl) (by simp) ?_; refine AllReadyIn.cons (o := { dst := some 21, op := Op.load 58 (Operand.tmp 20), type := 58, pos := _, after := #[{ on := 2, ground := Ground.data }], guard := none }) rfl (fun K hK => ?_) AllReadyIn.nil)
          (go_simp; refine hK _ _ ?_; clear hK K; try simp only [Act.put, List.setIfInBounds_toArray, List.set_cons_zero, List.set_cons_succ])
        all_goals
          (refine wpAnyIn_ready (rs := [5]) (by kernel_rfl) (by simp) ?_; refine AllReadyIn.cons (o := { dst := some 23, op := Op.call { callee := Callee.value (Operand.func 20), args := #[Operand.tmp 21, Operand.tmp 22], argTypes := #[58, 45] }, type := 4, pos := _, after := #[{ on := 3, ground := Ground.data }, { on := 4, ground := Ground.data }], guard := none }) rfl (fun K hK => ?_) AllReadyIn.nil)
        all_goals
          go_simp
          refine ⟨trivial, ?_⟩
          refine CallsIn.mono (callsIn_wide.2 (room_is true (v k) (s k) cv cs B L ⟨#[0]⟩ hD wr.drew)) ?_
          rintro e wk ⟨rfl, hk9⟩
          have hk8 : Below wr.heap.size wr wk := ⟨hk9.os, hk9.tape, hk9.output, hk9.size, hk9.block⟩
          have hk7 := Kpc.of_below (n₀ := n₀) (Bc := Bc) hk8 hszn hszc
          have hJk := hJ _ _ _ none hJs (grown_of_below hk8) (by simp)
          have Ew := E wk (hkp.1.trans hk7.1)
          have e2 := Ew.cv k hlt
          have e3 := Ew.cs k hlt
          have e4 := Ew.cw k hlt
          have e5 := Ew.c4 k hlt
          have e6 := Ew.d0 k hlt
          obtain ⟨fn, tmps, assign, body, hy, hR⟩ := hY _ k wk hJk (Nat.lt_of_le_of_lt (roomy_len cv cs v s k) hlt)
          clear Ew g2 g3 g4 c0 c1 c2 c3 hJk
          refine hK _ _ ?_
          clear hK K
          try simp only [Act.put, List.setIfInBounds_toArray, List.set_cons_zero, List.set_cons_succ]
        all_goals
          (refine wpAnyIn_take (i := 6) (oi := { dst := some 24, op := Op.move (Operand.tmp 23), type := 4, pos := _, after := #[{ on := 5, ground := Ground.data }, { on := 5, ground := Ground.chain }], guard := none }) (v := ?_) rfl rfl (by kernel_rfl) (by kernel_rfl) (by kernel_rfl) (fun _ _ _ h => h) ⟨Or.inl ⟨by rfl, ?_⟩, fun _ => rfl⟩ ?_; rotate_left 1; (focus (intro w; go_simp; (first | done | with_reducible rfl))); try simp only [Act.put, List.setIfInBounds_toArray, List.set_cons_zero, List.set_cons_succ])
          (refine wpAnyIn_take (i := 7) (oi := { dst := some 25, op := Op.move (Operand.tmp 0), type := 137, pos := _, after := #[{ on := 6, ground := Ground.guard }], guard := some (6, true) }) (v := ?_) rfl rfl (by kernel_rfl) (by kernel_rfl) (by kernel_rfl) (fun _ _ _ h => h) ⟨Or.inl ⟨by rfl, ?_⟩, fun _ => rfl⟩ ?_; rotate_left 1; (focus (intro w; go_simp; (first | done | with_reducible rfl))); try simp only [Act.put, List.setIfInBounds_toArray, List.set_cons_zero, List.set_cons_succ])
          (refine wpAnyIn_take (i := 8) (oi := { dst := some 26, op := Op.move (Operand.tmp 5), type := 62, pos := _, after := #[{ on := 6, ground := Ground.guard }], guard := some (6, true) }) (v := ?_) rfl rfl (by kernel_rfl) (by kernel_rfl) (by kernel_rfl) (fun _ _ _ h => h) ⟨Or.inl ⟨by rfl, ?_⟩, fun _ => rfl⟩ ?_; rotate_left 1; (focus (intro w; go_simp; (first | done | with_reducible rfl))); try simp only [Act.put, List.setIfInBounds_toArray, List.set_cons_zero, List.set_cons_succ])
          (refine wpAnyIn_take (i := 9) (oi := { dst := some 27, op := Op.nilCheck (Operand.tmp 26), type := 0, pos := _, after := #[{ on := 8, ground := Ground.data }, { on := 6, ground := Ground.guard }], guard := some (6, true) }) (v := ?_) rfl rfl (by kernel_rfl) (by kernel_rfl) (by kernel_rfl) (fun _ _ _ h => h) ⟨Or.inl ⟨by rfl, ?_⟩, fun _ => rfl⟩ ?_; rotate_left 1; (focus (intro w; go_simp; (first | done | with_reducible rfl))); try simp only [Act.put, List.setIfInBounds_toArray, List.set_cons_zero, List.set_cons_succ])
          (refine wpAnyIn_take (i := 10) (oi := { dst := some 28, op := Op.fieldAddr 67 (Operand.tmp 27) 0, type := 0, pos := _, after := #[{ on := 9, ground := Ground.data }, { on := 6, ground := Ground.guard }], guard := some (6, true) }) (v := ?_) rfl rfl (by kernel_rfl) (by kernel_rfl) (by kernel_rfl) (fun _ _ _ h => h) ⟨Or.inl ⟨by rfl, ?_⟩, fun _ => rfl⟩ ?_; rotate_left 1; (focus (intro w; go_simp; (first | done | with_reducible rfl))); try simp only [Act.put, List.setIfInBounds_toArray, List.set_cons_zero, List.set_cons_succ])
          (refine wpAnyIn_take (i := 12) (oi := { dst := some 30, op := Op.move (Operand.tmp 5), type := 62, pos := _, after := #[{ on := 6, ground := Ground.guard }], guard := some (6, true) }) (v := ?_) rfl rfl (by kernel_rfl) (by kernel_rfl) (by kernel_rfl) (fun _ _ _ h => h) ⟨Or.inl ⟨by rfl, ?_⟩, fun _ => rfl⟩ ?_; rotate_left 1; (focus (intro w; go_simp; (first | done | with_reducible rfl))); try simp only [Act.put, List.setIfInBounds_toArray, List.set_cons_zero, List.set_cons_succ])
          (refine wpAnyIn_take (i := 13) (oi := { dst := some 31, op := Op.nilCheck (Operand.tmp 30), type := 0, pos := _, after := #[{ on := 12, ground := Ground.data }, { on := 6, ground := Ground.guard }], guard := some (6, true) }) (v := ?_) rfl rfl (by kernel_rfl) (by kernel_rfl) (by kernel_rfl) (fun _ _ _ h => h) ⟨Or.inl ⟨by rfl, ?_⟩, fun _ => rfl⟩ ?_; rotate_left 1; (focus (intro w; go_simp; (first | done | with_reducible rfl))); try simp only [Act.put, List.setIfInBounds_toArray, List.set_cons_zero, List.set_cons_succ])
          (refine wpAnyIn_take (i := 14) (oi := { dst := some 32, op := Op.fieldAddr 67 (Operand.tmp 31) 2, type := 0, pos := _, after := #[{ on := 13, ground := Ground.data }, { on := 6, ground := Ground.guard }], guard := some (6, true) }) (v := ?_) rfl rfl (by kernel_rfl) (by kernel_rfl) (by kernel_rfl) (fun _ _ _ h => h) ⟨Or.inl ⟨by rfl, ?_⟩, fun _ => rfl⟩ ?_; rotate_left 1; (focus (intro w; go_simp; (first | done | with_reducible rfl))); try simp only [Act.put, List.setIfInBounds_toArray, List.set_cons_zero, List.set_cons_succ])
          (refine wpAnyIn_take (i := 15) (oi := { dst := some 33, op := Op.fieldAddr 65 (Operand.tmp 32) 0, type := 0, pos := _, after := #[{ on := 14, ground := Ground.data }, { on := 6, ground := Ground.guard }], guard := some (6, true) }) (v := ?_) rfl rfl (by kernel_rfl) (by kernel_rfl) (by kernel_rfl) (fun _ _ _ h => h) ⟨Or.inl ⟨by rfl, ?_⟩, fun _ => rfl⟩ ?_; rotate_left 1; (focus (intro w; go_simp; (first | done | with_reducible rfl))); try simp only [Act.put, List.setIfInBounds_toArray, List.set_cons_zero, List.set_cons_succ])
        all_goals
          (refine wpAnyIn_ready (rs := [11, 16]) (by kernel_rfl) (by simp) ?_; refine AllReadyIn.cons (o := { dst := some 29, op := Op.load 58 (Operand.tmp 28), type := 58, pos := _, after := #[{ on := 10, ground := Ground.data }, { on := 6, ground := Ground.guard }], guard := some (6, true) }) rfl (fun K hK => ?_) (AllReadyIn.cons (o := { dst := some 34, op := Op.load 46 (Operand.tmp 33), type := 46, pos := _, after := #[{ on := 15, ground := Ground.data }, { on := 6, ground := Ground.guard }], guard := some (6, true) }) rfl (fun K hK => ?_) AllReadyIn.nil))
          (go_simp; refine hK _ _ ?_; clear hK K; try simp only [Act.put, List.setIfInBounds_toArray, List.set_cons_zero, List.set_cons_succ])
          (refine wpAnyIn_ready (rs := [16]) (by kernel_rfl) (by simp) ?_; refine AllReadyIn.cons (o := { dst := some 34, op := Op.load 46 (Operand.tmp 33), type := 46, pos := _, after := #[{ on := 15, ground := Ground.data }, { on := 6, ground := Ground.guard }], guard := some (6, true) }) rfl (fun K hK => ?_) AllReadyIn.nil)
          (go_simp; refine hK _ _ ?_; clear hK K; try simp only [Act.put, List.setIfInBounds_toArray, List.set_cons_zero, List.set_cons_succ])
          (refine wpAnyIn_take (i := 17) (oi := { dst := some 35, op := Op.indexAddr 46 (Operand.tmp 34) (Operand.const (Value.int IntKind.i64 0)), type := 0, pos := _, after := #[{ on := 16, ground := Ground.data }, { on := 6, ground := Ground.guard }], guard := some (6, true) }) (v := ?_) rfl rfl (by kernel_rfl) (by kernel_rfl) (by kernel_rfl) (fun _ _ _ h => h) ⟨Or.inl ⟨by rfl, ?_⟩, fun _ => rfl⟩ ?_; rotate_left 1; (focus (intro w; go_simp; (first | done | with_reducible rfl))); try simp only [Act.put, List.setIfInBounds_toArray, List.set_cons_zero, List.set_cons_succ])
          (refine wpAnyIn_ready (rs := [18]) (by kernel_rfl) (by simp) ?_; refine AllReadyIn.cons (o := { dst := some 36, op := Op.load 3 (Operand.tmp 35), type := 3, pos := _, after := #[{ on := 17, ground := Ground.data }, { on := 6, ground := Ground.guard }], guard := some (6, true) }) rfl (fun K hK => ?_) AllReadyIn.nil)
          (go_simp; refine hK _ _ ?_; clear hK K; try simp only [Act.put, List.setIfInBounds_toArray, List.set_cons_zero, List.set_cons_succ])
          rotate_left 1
          (go_simp; refine hK _ _ ?_; clear hK K; try simp only [Act.put, List.setIfInBounds_toArray, List.set_cons_zero, List.set_cons_succ])
          (refine wpAnyIn_take (i := 17) (oi := { dst := some 35, op := Op.indexAddr 46 (Operand.tmp 34) (Operand.const (Value.int IntKind.i64 0)), type := 0, pos := _, after := #[{ on := 16, ground := Ground.data }, { on := 6, ground := Ground.guard }], guard := some (6, true) }) (v := ?_) rfl rfl (by kernel_rfl) (by kernel_rfl) (by kernel_rfl) (fun _ _ _ h => h) ⟨Or.inl ⟨by rfl, ?_⟩, fun _ => rfl⟩ ?_; rotate_left 1; (focus (intro w; go_simp; (first | done | with_reducible rfl))); try simp only [Act.put, List.setIfInBounds_toArray, List.set_cons_zero, List.set_cons_succ])
          (refine wpAnyIn_ready (rs := [11, 18]) (by kernel_rfl) (by simp) ?_; refine AllReadyIn.cons (o := { dst := some 29, op := Op.load 58 (Operand.tmp 28), type := 58, pos := _, after := #[{ on := 10, ground := Ground.data }, { on := 6, ground := Ground.guard }], guard := some (6, true) }) rfl (fun K hK => ?_) (AllReadyIn.cons (o := { dst := some 36, op := Op.load 3 (Operand.tmp 35), type := 3, pos := _, after := #[{ on := 17, ground := Ground.data }, { on := 6, ground := Ground.guard }], guard := some (6, true) }) rfl (fun K hK => ?_) AllReadyIn.nil))
          (go_simp; refine hK _ _ ?_; clear hK K; try simp only [Act.put, List.setIfInBounds_toArray, List.set_cons_zero, List.set_cons_succ])
          (refine wpAnyIn_ready (rs := [18]) (by kernel_rfl) (by simp) ?_; refine AllReadyIn.cons (o := { dst := some 36, op := Op.load 3 (Operand.tmp 35), type := 3, pos := _, after := #[{ on := 17, ground := Ground.data }, { on := 6, ground := Ground.guard }], guard := some (6, true) }) rfl (fun K hK => ?_) AllReadyIn.nil)
          (go_simp; refine hK _ _ ?_; clear hK K; try simp only [Act.put, List.setIfInBounds_toArray, List.set_cons_zero, List.set_cons_succ])
          rotate_left 1
          (go_simp; refine hK _ _ ?_; clear hK K; try simp only [Act.put, List.setIfInBounds_toArray, List.set_cons_zero, List.set_cons_succ])
          (refine wpAnyIn_ready (rs := [11]) (by kernel_rfl) (by simp) ?_; refine AllReadyIn.cons (o := { dst := some 29, op := Op.load 58 (Operand.tmp 28), type := 58, pos := _, after := #[{ on := 10, ground := Ground.data }, { on := 6, ground := Ground.guard }], guard := some (6, true) }) rfl (fun K hK => ?_) AllReadyIn.nil)
          (go_simp; refine hK _ _ ?_; clear hK K; try simp only [Act.put, List.setIfInBounds_toArray, List.set_cons_zero, List.set_cons_succ])
        all_goals
          (refine wpAnyIn_ready (rs := [19]) (by kernel_rfl) (by simp) ?_; refine AllReadyIn.cons (o := { dst := some 37, op := Op.call { callee := Callee.value (Operand.tmp 25), args := #[Operand.tmp 29, Operand.tmp 36], argTypes := #[58, 3] }, type := 4, pos := _, after := #[{ on := 7, ground := Ground.data }, { on := 11, ground := Ground.data }, { on := 18, ground := Ground.data }, { on := 6, ground := Ground.chain }, { on := 6, ground := Ground.guard }], guard := some (6, true) }) rfl (fun K hK => ?_) AllReadyIn.nil)
        all_goals
          go_simp
          refine RoundIn.mono hR ?_
          clear hR hy
          rintro e W3 (⟨rfl, hJ3, hk3⟩ | ⟨rfl, hJx3⟩)
          · (refine hK _ _ ?_; clear hK K; try simp only [Act.put, List.setIfInBounds_toArray, List.set_cons_zero, List.set_cons_succ])
            (refine wpAnyIn_take (i := 20) (oi := { dst := some 38, op := Op.unOp UnOp.not 4 (Operand.tmp 37), type := 4, pos := _, after := #[{ on := 19, ground := Ground.data }, { on := 6, ground := Ground.guard }], guard := some (6, true) }) (v := ?_) rfl rfl (by kernel_rfl) (by kernel_rfl) (by kernel_rfl) (fun _ _ _ h => h) ⟨Or.inl ⟨by rfl, ?_⟩, fun _ => rfl⟩ ?_; rotate_left 1; (focus (intro w; go_simp; (first | done | with_reducible rfl))); try simp only [Act.put, List.setIfInBounds_toArray, List.set_cons_zero, List.set_cons_succ])
            (refine wpAnyIn_take (i := 21) (oi := { dst := some 39, op := Op.pick (Operand.tmp 24) (Operand.tmp 38) (Operand.const (Value.bool false)), type := 4, pos := _, after := #[{ on := 6, ground := Ground.data }, { on := 20, ground := Ground.data }], guard := none }) (v := ?_) rfl rfl (by kernel_rfl) (by kernel_rfl) (by kernel_rfl) (fun _ _ _ h => h) ⟨Or.inl ⟨by rfl, ?_⟩, fun _ => rfl⟩ ?_; rotate_left 1; (focus (intro w; go_simp; (first | done | with_reducible rfl))); try simp only [Act.put, List.setIfInBounds_toArray, List.set_cons_zero, List.set_cons_succ])
            refine wpAnyIn_done (by kernel_rfl) ?_ _
            gi_wp2
            go_roundw
            case rel => exact ⟨k + 1, by omega, by go_num, by rw [HS.out]; exact hJ3, hkp.trans (hk7.trans hk3)⟩
            case measure => simp [intOf]; omega
          · (refine hK _ _ ?_; clear hK K; try simp only [Act.put, List.setIfInBounds_toArray, List.set_cons_zero, List.set_cons_succ])
            (refine wpAnyIn_take (i := 20) (oi := { dst := some 38, op := Op.unOp UnOp.not 4 (Operand.tmp 37), type := 4, pos := _, after := #[{ on := 19, ground := Ground.data }, { on := 6, ground := Ground.guard }], guard := some (6, true) }) (v := ?_) rfl rfl (by kernel_rfl) (by kernel_rfl) (by kernel_rfl) (fun _ _ _ h => h) ⟨Or.inl ⟨by rfl, ?_⟩, fun _ => rfl⟩ ?_; rotate_left 1; (focus (intro w; go_simp; (first | done | with_reducible rfl))); try simp only [Act.put, List.setIfInBounds_toArray, List.set_cons_zero, List.set_cons_succ])
            (refine wpAnyIn_take (i := 21) (oi := { dst := some 39, op := Op.pick (Operand.tmp 24) (Operand.tmp 38) (Operand.const (Value.bool false)), type := 4, pos := _, after := #[{ on := 6, ground := Ground.data }, { on := 20, ground := Ground.data }], guard := none }) (v := ?_) rfl rfl (by kernel_rfl) (by kernel_rfl) (by kernel_rfl) (fun _ _ _ h => h) ⟨Or.inl ⟨by rfl, ?_⟩, fun _ => rfl⟩ ?_; rotate_left 1; (focus (intro w; go_simp; (first | done | with_reducible rfl))); try simp only [Act.put, List.setIfInBounds_toArray, List.set_cons_zero, List.set_cons_succ])
            refine wpAnyIn_done (by kernel_rfl) ?_ _
            gi_wp2
            refine bodyPost_ret (results_none rfl _ _ _) rfl ?_
            exact ⟨⟨_, rfl⟩, .inr ⟨_, trivial, hJx3⟩⟩
      · have hD := decide_eq_false hr
        have HS : Hid (roomy cv cs v s (k + 1) = roomy cv cs v s k) := by show _ = _; rw [roomy, if_neg hr]
        have zc := Ek.zbc k hlt
        gi_wp2
        clear hc0 hc1 hc2 hc3 hBe E0 e4 e8 Ek g5 g6 hBc0 hltI hr h0
        refine wpIn_region_any hmx ?_
        change wpAnyIn _ _ _ _ _ _ _ _ _ (World.drew _)
        all_goals
          (refine wpAnyIn_take (i := 0) (oi := { dst := some 18, op := Op.move (Operand.tmp 5), type := 62, pos := _, after := #[], guard := none }) (v := ?_) rfl rfl (by kernel_rfl) (by kernel_rfl) (by kernel_rfl) (fun _ _ _ h => h) ⟨Or.inl ⟨by rfl, ?_⟩, fun _ => rfl⟩ ?_; rotate_left 1; (focus (intro w; go_simp; (first | done | with_reducible rfl))); try simp only [Act.put, List.setIfInBounds_toArray, List.set_cons_zero, List.set_cons_succ])
          (refine wpAnyIn_take (i := 1) (oi := { dst := some 19, op := Op.nilCheck (Operand.tmp 18), type := 0, pos := _, after := #[{ on := 0, ground := Ground.data }], guard := none }) (v := ?_) rfl rfl (by kernel_rfl) (by kernel_rfl) (by kernel_rfl) (fun _ _ _ h => h) ⟨Or.inl ⟨by rfl, ?_⟩, fun _ => rfl⟩ ?_; rotate_left 1; (focus (intro w; go_simp; (first | done | with_reducible rfl))); try simp only [Act.put, List.setIfInBounds_toArray, List.set_cons_zero, List.set_cons_succ])
          (refine wpAnyIn_take (i := 2) (oi := { dst := some 20, op := Op.fieldAddr 67 (Operand.tmp 19) 0, type := 0, pos := _, after := #[{ on := 1, ground := Ground.data }], guard := none }) (v := ?_) rfl rfl (by kernel_rfl) (by kernel_rfl) (by kernel_rfl) (fun _ _ _ h => h) ⟨Or.inl ⟨by rfl, ?_⟩, fun _ => rfl⟩ ?_; rotate_left 1; (focus (intro w; go_simp; (first | done | with_reducible rfl))); try simp only [Act.put, List.setIfInBounds_toArray, List.set_cons_zero, List.set_cons_succ])
          (refine wpAnyIn_ready (rs := [3, 4]) (by kernel_rfl) (by simp) ?_; refine AllReadyIn.cons (o := { dst := some 21, op := Op.load 58 (Operand.tmp 20), type := 58, pos := _, after := #[{ on := 2, ground := Ground.data }], guard := none }) rfl (fun K hK => ?_) (AllReadyIn.cons (o := { dst := some 22, op := Op.load 45 (Operand.tmp 2), type := 45, pos := _, after := #[], guard := none }) rfl (fun K hK => ?_) AllReadyIn.nil))
          (go_simp; refine hK _ _ ?_; clear hK K; try simp only [Act.put, List.setIfInBounds_toArray, List.set_cons_zero, List.set_cons_succ])
          (refine wpAnyIn_ready (rs := [4]) (by kernel_rfl) (by simp) ?_; refine AllReadyIn.cons (o := { dst := some 22, op := Op.load 45 (Operand.tmp 2), type := 45, pos := _, after := #[], guard := none }) rfl (fun K hK => ?_) AllReadyIn.nil)
          (go_simp; refine hK _ _ ?_; clear hK K; try simp only [Act.put, List.setIfInBounds_toArray, List.set_cons_zero, List.set_cons_succ])
          rotate_left 1
          (go_simp; refine hK _ _ ?_; clear hK K; try simp only [Act.put, List.setIfInBounds_toArray, List.set_cons_zero, List.set_cons_succ])
          (refine wpAnyIn_ready (rs := [3]) (by kernel_rfl) (by simp) ?_; refine AllReadyIn.cons (o := { dst := some 21, op := Op.load 58 (Operand.tmp 20), type := 58, pos := _, after := #[{ on := 2, ground := Ground.data }], guard := none }) rfl (fun K hK => ?_) AllReadyIn.nil)
          (go_simp; refine hK _ _ ?_; clear hK K; try simp only [Act.put, List.setIfInBounds_toArray, List.set_cons_zero, List.set_cons_succ])
        all_goals
          (refine wpAnyIn_ready (rs := [5]) (by kernel_rfl) (by simp) ?_; refine AllReadyIn.cons (o := { dst := some 23, op := Op.call { callee := Callee.value (Operand.func 20), args := #[Operand.tmp 21, Operand.tmp 22], argTypes := #[58, 45] }, type := 4, pos := _, after := #[{ on := 3, ground := Ground.data }, { on := 4, ground := Ground.data }], guard := none }) rfl (fun K hK => ?_) AllReadyIn.nil)
        all_goals
          go_simp
          refine ⟨trivial, ?_⟩
          refine CallsIn.mono (callsIn_wide.2 (room_is false (v k) (s k) cv cs B L ⟨#[0]⟩ hD wr.drew)) ?_
          rintro e wk ⟨rfl, hk9⟩
          have hk8 : Below wr.heap.size wr wk := ⟨hk9.os, hk9.tape, hk9.output, hk9.size, hk9.block⟩
          have hk7 := Kpc.of_below (n₀ := n₀) (Bc := Bc) hk8 hszn hszc
          have hJk := hJ _ _ _ none hJs (grown_of_below hk8) (by simp)
          refine hK _ _ ?_
          clear hK K
          try simp only [Act.put, List.setIfInBounds_toArray, List.set_cons_zero, List.set_cons_succ]
        all_goals
          (refine wpAnyIn_take (i := 6) (oi := { dst := some 24, op := Op.move (Operand.tmp 23), type := 4, pos := _, after := #[{ on := 5, ground := Ground.data }, { on := 5, ground := Ground.chain }], guard := none }) (v := ?_) rfl rfl (by kernel_rfl) (by kernel_rfl) (by kernel_rfl) (fun _ _ _ h => h) ⟨Or.inl ⟨by rfl, ?_⟩, fun _ => rfl⟩ ?_; rotate_left 1; (focus (intro w; go_simp; (first | done | with_reducible rfl))); try simp only [Act.put, List.setIfInBounds_toArray, List.set_cons_zero, List.set_cons_succ])
          (refine wpAnyIn_take (i := 7) (oi := { dst := some 25, op := Op.move (Operand.tmp 0), type := 137, pos := _, after := #[{ on := 6, ground := Ground.guard }], guard := some (6, true) }) (v := undef) rfl rfl (by kernel_rfl) (by kernel_rfl) (by kernel_rfl) (fun _ _ _ h => h) ⟨Or.inr ⟨by rfl, rfl⟩, fun _ => rfl⟩ ?_; try simp only [Act.put, List.setIfInBounds_toArray, List.set_cons_zero, List.set_cons_succ])
          (refine wpAnyIn_take (i := 8) (oi := { dst := some 26, op := Op.move (Operand.tmp 5), type := 62, pos := _, after := #[{ on := 6, ground := Ground.guard }], guard := some (6, true) }) (v := undef) rfl rfl (by kernel_rfl) (by kernel_rfl) (by kernel_rfl) (fun _ _ _ h => h) ⟨Or.inr ⟨by rfl, rfl⟩, fun _ => rfl⟩ ?_; try simp only [Act.put, List.setIfInBounds_toArray, List.set_cons_zero, List.set_cons_succ])
          (refine wpAnyIn_take (i := 9) (oi := { dst := some 27, op := Op.nilCheck (Operand.tmp 26), type := 0, pos := _, after := #[{ on := 8, ground := Ground.data }, { on := 6, ground := Ground.guard }], guard := some (6, true) }) (v := undef) rfl rfl (by kernel_rfl) (by kernel_rfl) (by kernel_rfl) (fun _ _ _ h => h) ⟨Or.inr ⟨by rfl, rfl⟩, fun _ => rfl⟩ ?_; try simp only [Act.put, List.setIfInBounds_toArray, List.set_cons_zero, List.set_cons_succ])
          (refine wpAnyIn_take (i := 10) (oi := { dst := some 28, op := Op.fieldAddr 67 (Operand.tmp 27) 0, type := 0, pos := _, after := #[{ on := 9, ground := Ground.data }, { on := 6, ground := Ground.guard }], guard := some (6, true) }) (v := undef) rfl rfl (by kernel_rfl) (by kernel_rfl) (by kernel_rfl) (fun _ _ _ h => h) ⟨Or.inr ⟨by rfl, rfl⟩, fun _ => rfl⟩ ?_; try simp only [Act.put, List.setIfInBounds_toArray, List.set_cons_zero, List.set_cons_succ])
          (refine wpAnyIn_take (i := 11) (oi := { dst := some 29, op := Op.load 58 (Operand.tmp 28), type := 58, pos := _, after := #[{ on := 10, ground := Ground.data }, { on := 6, ground := Ground.guard }], guard := some (6, true) }) (v := undef) rfl rfl (by kernel_rfl) (by kernel_rfl) (by kernel_rfl) (fun _ _ _ h => h) ⟨Or.inr ⟨by rfl, rfl⟩, fun _ => rfl⟩ ?_; try simp only [Act.put, List.setIfInBounds_toArray, List.set_cons_zero, List.set_cons_succ])
          (refine wpAnyIn_take (i := 12) (oi := { dst := some 30, op := Op.move (Operand.tmp 5), type := 62, pos := _, after := #[{ on := 6, ground := Ground.guard }], guard := some (6, true) }) (v := undef) rfl rfl (by kernel_rfl) (by kernel_rfl) (by kernel_rfl) (fun _ _ _ h => h) ⟨Or.inr ⟨by rfl, rfl⟩, fun _ => rfl⟩ ?_; try simp only [Act.put, List.setIfInBounds_toArray, List.set_cons_zero, List.set_cons_succ])
          (refine wpAnyIn_take (i := 13) (oi := { dst := some 31, op := Op.nilCheck (Operand.tmp 30), type := 0, pos := _, after := #[{ on := 12, ground := Ground.data }, { on := 6, ground := Ground.guard }], guard := some (6, true) }) (v := undef) rfl rfl (by kernel_rfl) (by kernel_rfl) (by kernel_rfl) (fun _ _ _ h => h) ⟨Or.inr ⟨by rfl, rfl⟩, fun _ => rfl⟩ ?_; try simp only [Act.put, List.setIfInBounds_toArray, List.set_cons_zero, List.set_cons_succ])
          (refine wpAnyIn_take (i := 14) (oi := { dst := some 32, op := Op.fieldAddr 67 (Operand.tmp 31) 2, type := 0, pos := _, after := #[{ on := 13, ground := Ground.data }, { on := 6, ground := Ground.guard }], guard := some (6, true) }) (v := undef) rfl rfl (by kernel_rfl) (by kernel_rfl) (by kernel_rfl) (fun _ _ _ h => h) ⟨Or.inr ⟨by rfl, rfl⟩, fun _ => rfl⟩ ?_; try simp only [Act.put, List.setIfInBounds_toArray, List.set_cons_zero, List.set_cons_succ])
          (refine wpAnyIn_take (i := 15) (oi := { dst := some 33, op := Op.fieldAddr 65 (Operand.tmp 32) 0, type := 0, pos := _, after := #[{ on := 14, ground := Ground.data }, { on := 6, ground := Ground.guard }], guard := some (6, true) }) (v := undef) rfl rfl (by kernel_rfl) (by kernel_rfl) (by kernel_rfl) (fun _ _ _ h => h) ⟨Or.inr ⟨by rfl, rfl⟩, fun _ => rfl⟩ ?_; try simp only [Act.put, List.setIfInBounds_toArray, List.set_cons_zero, List.set_cons_succ])
          (refine wpAnyIn_take (i := 16) (oi := { dst := some 34, op := Op.load 46 (Operand.tmp 33), type := 46, pos := _, after := #[{ on := 15, ground := Ground.data }, { on := 6, ground := Ground.guard }], guard := some (6, true) }) (v := undef) rfl rfl (by kernel_rfl) (by kernel_rfl) (by kernel_rfl) (fun _ _ _ h => h) ⟨Or.inr ⟨by rfl, rfl⟩, fun _ => rfl⟩ ?_; try simp only [Act.put, List.setIfInBounds_toArray, List.set_cons_zero, List.set_cons_succ])
          (refine wpAnyIn_take (i := 17) (oi := { dst := some 35, op := Op.indexAddr 46 (Operand.tmp 34) (Operand.const (Value.int IntKind.i64 0)), type := 0, pos := _, after := #[{ on := 16, ground := Ground.data }, { on := 6, ground := Ground.guard }], guard := some (6, true) }) (v := undef) rfl rfl (by kernel_rfl) (by kernel_rfl) (by kernel_rfl) (fun _ _ _ h => h) ⟨Or.inr ⟨by rfl, rfl⟩, fun _ => rfl⟩ ?_; try simp only [Act.put, List.setIfInBounds_toArray, List.set_cons_zero, List.set_cons_succ])
          (refine wpAnyIn_take (i := 18) (oi := { dst := some 36, op := Op.load 3 (Operand.tmp 35), type := 3, pos := _, after := #[{ on := 17, ground := Ground.data }, { on := 6, ground := Ground.guard }], guard := some (6, true) }) (v := undef) rfl rfl (by kernel_rfl) (by kernel_rfl) (by kernel_rfl) (fun _ _ _ h => h) ⟨Or.inr ⟨by rfl, rfl⟩, fun _ => rfl⟩ ?_; try simp only [Act.put, List.setIfInBounds_toArray, List.set_cons_zero, List.set_cons_succ])
          (refine wpAnyIn_take (i := 19) (oi := { dst := some 37, op := Op.call { callee := Callee.value (Operand.tmp 25), args := #[Operand.tmp 29, Operand.tmp 36], argTypes := #[58, 3] }, type := 4, pos := _, after := #[{ on := 7, ground := Ground.data }, { on := 11, ground := Ground.data }, { on := 18, ground := Ground.data }, { on := 6, ground := Ground.chain }, { on := 6, ground := Ground.guard }], guard := some (6, true) }) (v := undef) rfl rfl (by kernel_rfl) (by kernel_rfl) (by kernel_rfl) (fun _ _ _ h => h) ⟨Or.inr ⟨by rfl, rfl⟩, fun _ => rfl⟩ ?_; try simp only [Act.put, List.setIfInBounds_toArray, List.set_cons_zero, List.set_cons_succ])
          (refine wpAnyIn_take (i := 20) (oi := { dst := some 38, op := Op.unOp UnOp.not 4 (Operand.tmp 37), type := 4, pos := _, after := #[{ on := 19, ground := Ground.data }, { on := 6, ground := Ground.guard }], guard := some (6, true) }) (v := undef) rfl rfl (by kernel_rfl) (by kernel_rfl) (by kernel_rfl) (fun _ _ _ h => h) ⟨Or.inr ⟨by rfl, rfl⟩, fun _ => rfl⟩ ?_; try simp only [Act.put, List.setIfInBounds_toArray, List.set_cons_zero, List.set_cons_succ])
          (refine wpAnyIn_take (i := 21) (oi := { dst := some 39, op := Op.pick (Operand.tmp 24) (Operand.tmp 38) (Operand.const (Value.bool false)), type := 4, pos := _, after := #[{ on := 6, ground := Ground.data }, { on := 20, ground := Ground.data }], guard := none }) (v := ?_) rfl rfl (by kernel_rfl) (by kernel_rfl) (by kernel_rfl) (fun _ _ _ h => h) ⟨Or.inl ⟨by rfl, ?_⟩, fun _ => rfl⟩ ?_; rotate_left 1; (focus (intro w; go_simp; (first | done | with_reducible rfl))); try simp only [Act.put, List.setIfInBounds_toArray, List.set_cons_zero, List.set_cons_succ])
          refine wpAnyIn_done (by kernel_rfl) ?_ _
        all_goals
          gi_wp2
          go_roundw
          case rel => exact ⟨k + 1, by omega, by go_num, by rw [HS.out]; exact hJk, hkp.trans hk7⟩
          case measure => simp [intOf]; omega
    · obtain rfl : k = N := by omega
      gi_wp2
      go_end0
      exact ⟨⟨_, rfl⟩, .inl ⟨_, rfl, hJs⟩⟩

end Go.Proofs.Ybulkjqw
