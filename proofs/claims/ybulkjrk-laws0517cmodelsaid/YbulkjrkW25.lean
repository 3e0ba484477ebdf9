/-
  OWN WORK: zzs0517cbuild, the walk.
-/
import Derived.Test.YbulkjrkW24
namespace Go.Proofs.Ybulkjrk
open Go.RowKit
set_option linter.unusedSimpArgs false
set_option linter.unusedVariables false
set_option linter.unusedSectionVars false
set_option maxRecDepth 100000
variable [Base]
/-- The state at the loop's start. -/
theorem cb0 (s : Nat → Stp) {W w2 : World} (hb : Base.B = W.heap.size) (hB : Below (((W.alloc (.map #[] 0)).alloc (.map #[] 0)).alloc (.cells (eng0 W.heap.size) 79)).heap.size (((W.alloc (.map #[] 0)).alloc (.map #[] 0)).alloc (.cells (eng0 W.heap.size) 79)) w2) :
    ∃ w4, (Instr.mapUpdate 71 (.map (some W.heap.size)) (.string ⟨#[83]⟩) (pt w2.heap.size)).run Yba.prog (w2.alloc (.cells book0 49)) = .ok () w4 ∧ CB s (W.heap.size + 2) w2.heap.size (W.heap.size + 1) 0 W (fun _ => 0) (g0 W.heap.size) (fun _ => []) (fun _ => 0) (fun _ => none) (fun _ => none) w4 := by
  obtain ⟨P, hM, hsz⟩ := ph0 (by omega) hB
  have hN : (w2.alloc (.cells book0 49)).heap[W.heap.size]? = some (.map #[] 0) := by
    rw [Go.heap_alloc_old _ _ (by omega), hB.block W.heap.size (by simp; omega), Go.heap_alloc_old _ _ (by simp; omega), Go.heap_alloc_old _ _ (by simp), Go.heap_alloc_new]
  obtain ⟨w4, hr, ht⟩ := books_put hN w2.heap.size
  refine ⟨w4, hr, ?_⟩
  have F := turned_fr ht
  have nb : ∀ {b t n}, Blk (w2.alloc (.cells book0 49)) b t n → b ≠ W.heap.size := fun hb' e => by
    subst e
    obtain ⟨_, cs, e, _⟩ := hb'
    rw [hN] at e
    cases e
  have P4 := P.fr F (nb P.en.blk) (nb P.bk) (fun b hb' => nb hb') (fun i hi => by omega) (fun b hb' => by cases hb') (fun b hb' => by cases hb')
  have hM4 := hM.kept (F.block (W.heap.size + 1) hM.lt (by omega))
  have hB0 : Below W.heap.size W (((W.alloc (.map #[] 0)).alloc (.map #[] 0)).alloc (.cells (eng0 W.heap.size) 79)) := (((Below.refl _ _).alloc (Nat.le_refl _) _).alloc (by simp) _).alloc (by simp; omega) _
  have hB3 : Below W.heap.size W (w2.alloc (.cells book0 49)) := (hB0.trans (hB.mono hB0.size)).alloc (by omega) _
  have no : ∀ k i p, ¬ On (g0 W.heap.size) (fun _ => []) k i p := fun k i p ⟨l, hl, _⟩ => by simp [g0] at hl
  refine ⟨P4, lg0 _, hM4, fun i => by simp, fun i p => ⟨fun hh => absurd hh (no _ _ _), fun hh => by omega⟩, fun i p => ⟨fun hh => absurd hh (no _ _ _), fun hh => by omega⟩, no 0, no 1, fun i hi => by omega, rfl, rfl, rfl, rfl, rfl, rfl, rfl, fun _ _ => rfl, ?_, by omega⟩
  rw [hb]
  exact hB3.trans ⟨F.os, F.tape, F.output, F.size, fun b hb' => F.block b (by have := hB3.size; omega) (by omega)⟩

theorem wrap_small {x : Int} (h0 : 0 ≤ x) (h1 : x < 2 ^ 62) : IntKind.i64.wrap x = x := by simp [IntKind.wrap, IntKind.signed, IntKind.bits]; omega
theorem wrap_mod {x n : Int} {m : Int} (h : 0 ≤ x ∧ x ≤ m) (h0 : 0 < n) (h1 : n ≤ 1000) : IntKind.i64.wrap (x.tmod n) = x % n := by
  rw [Int.tmod_eq_emod_of_nonneg h.1]
  exact wrap_small (Int.emod_nonneg _ (by omega)) (by have := Int.emod_lt_of_pos x h0; omega)
theorem wrap_mod1 {x n : Int} {m : Int} (h : 0 ≤ x ∧ x ≤ m) (h0 : 0 < n) (h1 : n ≤ 1000) : IntKind.i64.wrap (IntKind.i64.wrap (x.tmod n) + 1) = x % n + 1 := by
  rw [wrap_mod h h0 h1]
  exact wrap_small (by have := Int.emod_nonneg x (show n ≠ 0 by omega); omega) (by have := Int.emod_lt_of_pos x h0; omega)
theorem size99 : (Yba.prog.info? 99).map (·.size) = some 9 := by kernel_rfl
theorem one_box (i k s p q st sp : Int) : #[Value.int .u64 i, .int .u64 k, .string ⟨#[83]⟩, .int .u8 s, .int .i64 p, .int .i64 q, .int .u8 st, .int .i64 sp, .int .u8 0].all (·.oneCell') = true := by simp [Value.oneCell']
theorem below_sets {B : Nat} {a : World} {b : Nat} : ∀ {w : World}, Below B a w → B ≤ b → ∀ (vs : List Value) (o : Nat), Below B a (w.setCells b o vs)
  | w, h, hb, [], o => h
  | w, h, hb, v :: vs, o => below_sets (h.setCell (p := ⟨b, o, none⟩) hb v) hb vs (o + 1)

set_option maxHeartbeats 2000000 in
theorem cbuild_any {W : World} {bs os n cap : Nat} {a : Option Addr} {en sl : Nat → Bool} {st li qy : Nat → Int} (hb : Base.B = W.heap.size) (hI : In5 W bs os n en sl st li qy) (hn : n ≤ 1024) (ha : 0 < n → a = some ⟨bs, os, none⟩) :
    Calls Yba.prog 15 #[.slice a n cap] W fun e w' => ∃ eb bb mb ob g q tot lev M, e = .returned (.tuple #[.pointer (some ⟨eb, 0, none⟩), .pointer (some ⟨bb, 0, none⟩)]) ∧ CB (plainS en sl st li qy) eb bb mb n W ob g q tot lev M w' := by
  have hne := newEngine_any W
  have hnb := fun w => newBook_any w
  go_enter Yba.func15, Yba.ntmps15
  go_wp2_with (first
    | (go_at_call 25; refine hne.mono ?_; rintro e w1 ⟨rfl, rfl⟩)
    | (go_at_call 26; refine (hnb _).mono ?_; rintro e w3 ⟨w2, hB2, rfl, rfl⟩; obtain ⟨w4, hrun, C0⟩ := cb0 (plainS en sl st li qy) hb hB2; simp only [pt] at hrun; have hs2 := hB2.size; simp at hs2; have ce : (w2.alloc (.cells book0 49)).cell? ⟨W.heap.size + 2, 0, none⟩ = some (.map (some W.heap.size)) := (((World.cell?_alloc_past _ _ _ (by omega)).trans (hB2.cell (p := ⟨W.heap.size + 2, 0, none⟩) (by simp))).trans (World.cell?_alloc_at _ _ _ _ (by simp)))))
  clear hne hnb hrun ce
  go_loopw [6] (fun v wr => ∃ (t : Nat) (ob : Nat → Nat) (g : Gp) (q : Nat → List Nat) (tot : Nat → Int) (lev M : Nat → Option Nat), t ≤ n ∧ v = .int .i64 t ∧ CB (plainS en sl st li qy) (W.heap.size + 2) w2.heap.size (W.heap.size + 1) t W ob g q tot lev M wr) (fun v _ => n - (intOf v).toNat)
  case atStart => exact ⟨0, _, _, _, _, _, _, by omega, rfl, C0⟩
  case round =>
    obtain ⟨t, ob, g, q, tot, lev, M, htn, rfl, C⟩ := hrel
    clear C0
    by_cases ht : t < n
    · obtain rfl := ha (by omega)
      have zb : bs < W.heap.size := World.block_lt_of_cell? W ⟨bs, _, none⟩ (hI.c0 t ht)
      have cl : ∀ o, wr.cell? ⟨bs, o, none⟩ = W.cell? ⟨bs, o, none⟩ := fun o => C.below.cell (p := ⟨bs, o, none⟩) (by rw [hb]; exact zb)
      have d0 := (cl _).trans (hI.c0 t ht)
      have d1 := (cl _).trans (hI.c1 t ht)
      have d2 := (cl _).trans (hI.c2 t ht)
      have d3 := (cl _).trans (hI.c3 t ht)
      have d4 := (cl _).trans (hI.c4 t ht)
      have HC := hide (And.intro C hI)
      clear C hI cl
      cases hen : en t with
      | true =>
        rw [hen] at d0
        have hid := fun w => cid_any (t : Int) (by omega) (by omega) w
        have hwr : IntKind.u64.wrap (t : Int) = t := by simp [IntKind.wrap, IntKind.signed, IntKind.bits]; omega
        simp only [hwr] at hid
        have hsd : ∀ w, Calls Yba.prog 18 #[.agg #[.bool true, .bool (sl t), .int .u8 (st t), .int .u8 (li t), .int .u16 (qy t)]] w fun e w' => e = .returned (.int .u8 (sdI (sl t))) ∧ Below w.heap.size w w' := fun w => cside_any true (sl t) (.int .u8 (st t)) (.int .u8 (li t)) (.int .u16 (qy t)) rfl rfl rfl w
        go_wp2
        obtain ⟨NB, hNB⟩ : ∃ NB, NB = wr.heap.size := ⟨_, rfl⟩
        obtain ⟨W5, hW5⟩ : ∃ W5, W5 = wr.alloc (.cells #[.bool true, .bool (sl t), .int .u8 (st t), .int .u8 (li t), .int .u16 (qy t)] 69) := ⟨_, rfl⟩
        rw [← hW5, ← hNB]
        have y0 : W5.cell? ⟨NB, 0, none⟩ = some (.bool true) := by rw [hW5]; exact World.cell?_alloc_at _ _ _ _ hNB
        have y1 : W5.cell? ⟨NB, 1, none⟩ = some (.bool (sl t)) := by rw [hW5]; exact World.cell?_alloc_at _ _ _ _ hNB
        have y2 : W5.cell? ⟨NB, 2, none⟩ = some (.int .u8 (st t)) := by rw [hW5]; exact World.cell?_alloc_at _ _ _ _ hNB
        have y3 : W5.cell? ⟨NB, 3, none⟩ = some (.int .u8 (li t)) := by rw [hW5]; exact World.cell?_alloc_at _ _ _ _ hNB
        have y4 : W5.cell? ⟨NB, 4, none⟩ = some (.int .u16 (qy t)) := by rw [hW5]; exact World.cell?_alloc_at _ _ _ _ hNB
        have zN : NB < W5.heap.size := by rw [hW5, hNB]; simp
        have r2 := HC.out.2.r2 t ht
        have r3 := HC.out.2.r3 t ht
        have r4 := HC.out.2.r4 t ht
        have HW := hide (And.intro hW5 hNB)
        have HEN := hide hen
        clear hW5 hNB d0 d1 d2 d3 d4 hen
        have wl := hide (wrap_mod (n := 21) r3 (by omega) (by omega))
        have wq := hide (wrap_mod1 (n := 1000) r4 (by omega) (by omega))
        have wp := hide (wrap_mod1 (n := 20) r2 (by omega) (by omega))
        have zB : Base.B ≤ W5.heap.size := by have := HC.out.1.ph.en.base; rw [HW.out.1]; simp; omega
        refine wp_region_held_drew (S := fun w' => Below W5.heap.size W5 w') (by kernel_rfl) (Below.refl _ _).drew (fun hHeld => ?_)
        (refine wpAnyH_take (i := 0) (oi := { dst := some 29, op := Go.Op.move (Go.Operand.tmp 6), type := 3, pos := _, after := #[], guard := none }) (v := ?_) rfl (by kernel_rfl) (by kernel_rfl) (by kernel_rfl) (fun _ _ _ h => h) (Or.inl ⟨by rfl, ?_⟩) (by assumption) ?_; rotate_left 1; (focus (intro w hSw; (have s0 := (hSw.cell (p := ⟨NB, 0, none⟩) zN).trans y0; have s1 := (hSw.cell (p := ⟨NB, 1, none⟩) zN).trans y1; have s2 := (hSw.cell (p := ⟨NB, 2, none⟩) zN).trans y2; have s3 := (hSw.cell (p := ⟨NB, 3, none⟩) zN).trans y3; have s4 := (hSw.cell (p := ⟨NB, 4, none⟩) zN).trans y4; clear hSw); go_simp; (first | done | with_reducible rfl))); (try simp only [Act.put, List.setIfInBounds_toArray, List.set_cons_zero, List.set_cons_succ]))
        (refine wpAnyH_take (i := 2) (oi := { dst := some 31, op := Go.Op.load 69 (Go.Operand.tmp 7), type := 69, pos := _, after := #[], guard := none }) (v := ?_) rfl (by kernel_rfl) (by kernel_rfl) (by kernel_rfl) (fun _ _ _ h => h) (Or.inl ⟨by rfl, ?_⟩) (by assumption) ?_; rotate_left 1; (focus (intro w hSw; (have s0 := (hSw.cell (p := ⟨NB, 0, none⟩) zN).trans y0; have s1 := (hSw.cell (p := ⟨NB, 1, none⟩) zN).trans y1; have s2 := (hSw.cell (p := ⟨NB, 2, none⟩) zN).trans y2; have s3 := (hSw.cell (p := ⟨NB, 3, none⟩) zN).trans y3; have s4 := (hSw.cell (p := ⟨NB, 4, none⟩) zN).trans y4; clear hSw); go_simp; (first | done | with_reducible rfl))); (try simp only [Act.put, List.setIfInBounds_toArray, List.set_cons_zero, List.set_cons_succ]))
        (refine wpAnyH_take (i := 4) (oi := { dst := some 33, op := Go.Op.fieldAddr 69 (Go.Operand.tmp 7) 3, type := 0, pos := _, after := #[], guard := none }) (v := ?_) rfl (by kernel_rfl) (by kernel_rfl) (by kernel_rfl) (fun _ _ _ h => h) (Or.inl ⟨by rfl, ?_⟩) (by assumption) ?_; rotate_left 1; (focus (intro w hSw; (have s0 := (hSw.cell (p := ⟨NB, 0, none⟩) zN).trans y0; have s1 := (hSw.cell (p := ⟨NB, 1, none⟩) zN).trans y1; have s2 := (hSw.cell (p := ⟨NB, 2, none⟩) zN).trans y2; have s3 := (hSw.cell (p := ⟨NB, 3, none⟩) zN).trans y3; have s4 := (hSw.cell (p := ⟨NB, 4, none⟩) zN).trans y4; clear hSw); go_simp; (first | done | with_reducible rfl))); (try simp only [Act.put, List.setIfInBounds_toArray, List.set_cons_zero, List.set_cons_succ]))
        (refine wpAnyH_take (i := 5) (oi := { dst := some 34, op := Go.Op.load 5 (Go.Operand.tmp 33), type := 5, pos := _, after := #[{ on := 4, ground := Go.Ground.data }], guard := none }) (v := ?_) rfl (by kernel_rfl) (by kernel_rfl) (by kernel_rfl) (fun _ _ _ h => h) (Or.inl ⟨by rfl, ?_⟩) (by assumption) ?_; rotate_left 1; (focus (intro w hSw; (have s0 := (hSw.cell (p := ⟨NB, 0, none⟩) zN).trans y0; have s1 := (hSw.cell (p := ⟨NB, 1, none⟩) zN).trans y1; have s2 := (hSw.cell (p := ⟨NB, 2, none⟩) zN).trans y2; have s3 := (hSw.cell (p := ⟨NB, 3, none⟩) zN).trans y3; have s4 := (hSw.cell (p := ⟨NB, 4, none⟩) zN).trans y4; clear hSw); go_simp; (first | done | with_reducible rfl))); (try simp only [Act.put, List.setIfInBounds_toArray, List.set_cons_zero, List.set_cons_succ]))
        (refine wpAnyH_take (i := 6) (oi := { dst := some 35, op := Go.Op.binOp Go.BinOp.rem 5 (Go.Operand.tmp 34) (Go.Operand.const (Go.Value.int Go.IntKind.u8 21)) 5, type := 5, pos := _, after := #[{ on := 5, ground := Go.Ground.data }], guard := none }) (v := ?_) rfl (by kernel_rfl) (by kernel_rfl) (by kernel_rfl) (fun _ _ _ h => h) (Or.inl ⟨by rfl, ?_⟩) (by assumption) ?_; rotate_left 1; (focus (intro w hSw; (have s0 := (hSw.cell (p := ⟨NB, 0, none⟩) zN).trans y0; have s1 := (hSw.cell (p := ⟨NB, 1, none⟩) zN).trans y1; have s2 := (hSw.cell (p := ⟨NB, 2, none⟩) zN).trans y2; have s3 := (hSw.cell (p := ⟨NB, 3, none⟩) zN).trans y3; have s4 := (hSw.cell (p := ⟨NB, 4, none⟩) zN).trans y4; clear hSw); go_simp; (first | done | with_reducible rfl))); (try simp only [Act.put, List.setIfInBounds_toArray, List.set_cons_zero, List.set_cons_succ]))
        (refine wpAnyH_take (i := 7) (oi := { dst := some 36, op := Go.Op.convert 5 2 (Go.Operand.tmp 35), type := 2, pos := _, after := #[{ on := 6, ground := Go.Ground.data }], guard := none }) (v := ?_) rfl (by kernel_rfl) (by kernel_rfl) (by kernel_rfl) (fun _ _ _ h => h) (Or.inl ⟨by rfl, ?_⟩) (by assumption) ?_; rotate_left 1; (focus (intro w hSw; (have s0 := (hSw.cell (p := ⟨NB, 0, none⟩) zN).trans y0; have s1 := (hSw.cell (p := ⟨NB, 1, none⟩) zN).trans y1; have s2 := (hSw.cell (p := ⟨NB, 2, none⟩) zN).trans y2; have s3 := (hSw.cell (p := ⟨NB, 3, none⟩) zN).trans y3; have s4 := (hSw.cell (p := ⟨NB, 4, none⟩) zN).trans y4; clear hSw); go_simp; (first | done | with_reducible rfl))); (try simp only [Act.put, List.setIfInBounds_toArray, List.set_cons_zero, List.set_cons_succ]))
        (refine wpAnyH_take (i := 8) (oi := { dst := some 37, op := Go.Op.fieldAddr 69 (Go.Operand.tmp 7) 4, type := 0, pos := _, after := #[], guard := none }) (v := ?_) rfl (by kernel_rfl) (by kernel_rfl) (by kernel_rfl) (fun _ _ _ h => h) (Or.inl ⟨by rfl, ?_⟩) (by assumption) ?_; rotate_left 1; (focus (intro w hSw; (have s0 := (hSw.cell (p := ⟨NB, 0, none⟩) zN).trans y0; have s1 := (hSw.cell (p := ⟨NB, 1, none⟩) zN).trans y1; have s2 := (hSw.cell (p := ⟨NB, 2, none⟩) zN).trans y2; have s3 := (hSw.cell (p := ⟨NB, 3, none⟩) zN).trans y3; have s4 := (hSw.cell (p := ⟨NB, 4, none⟩) zN).trans y4; clear hSw); go_simp; (first | done | with_reducible rfl))); (try simp only [Act.put, List.setIfInBounds_toArray, List.set_cons_zero, List.set_cons_succ]))
        (refine wpAnyH_take (i := 9) (oi := { dst := some 38, op := Go.Op.load 67 (Go.Operand.tmp 37), type := 67, pos := _, after := #[{ on := 8, ground := Go.Ground.data }], guard := none }) (v := ?_) rfl (by kernel_rfl) (by kernel_rfl) (by kernel_rfl) (fun _ _ _ h => h) (Or.inl ⟨by rfl, ?_⟩) (by assumption) ?_; rotate_left 1; (focus (intro w hSw; (have s0 := (hSw.cell (p := ⟨NB, 0, none⟩) zN).trans y0; have s1 := (hSw.cell (p := ⟨NB, 1, none⟩) zN).trans y1; have s2 := (hSw.cell (p := ⟨NB, 2, none⟩) zN).trans y2; have s3 := (hSw.cell (p := ⟨NB, 3, none⟩) zN).trans y3; have s4 := (hSw.cell (p := ⟨NB, 4, none⟩) zN).trans y4; clear hSw); go_simp; (first | done | with_reducible rfl))); (try simp only [Act.put, List.setIfInBounds_toArray, List.set_cons_zero, List.set_cons_succ]))
        (refine wpAnyH_take (i := 10) (oi := { dst := some 39, op := Go.Op.binOp Go.BinOp.rem 67 (Go.Operand.tmp 38) (Go.Operand.const (Go.Value.int Go.IntKind.u16 1000)) 67, type := 67, pos := _, after := #[{ on := 9, ground := Go.Ground.data }], guard := none }) (v := ?_) rfl (by kernel_rfl) (by kernel_rfl) (by kernel_rfl) (fun _ _ _ h => h) (Or.inl ⟨by rfl, ?_⟩) (by assumption) ?_; rotate_left 1; (focus (intro w hSw; (have s0 := (hSw.cell (p := ⟨NB, 0, none⟩) zN).trans y0; have s1 := (hSw.cell (p := ⟨NB, 1, none⟩) zN).trans y1; have s2 := (hSw.cell (p := ⟨NB, 2, none⟩) zN).trans y2; have s3 := (hSw.cell (p := ⟨NB, 3, none⟩) zN).trans y3; have s4 := (hSw.cell (p := ⟨NB, 4, none⟩) zN).trans y4; clear hSw); go_simp; (first | done | with_reducible rfl))); (try simp only [Act.put, List.setIfInBounds_toArray, List.set_cons_zero, List.set_cons_succ]))
        (refine wpAnyH_take (i := 11) (oi := { dst := some 40, op := Go.Op.convert 67 2 (Go.Operand.tmp 39), type := 2, pos := _, after := #[{ on := 10, ground := Go.Ground.data }], guard := none }) (v := ?_) rfl (by kernel_rfl) (by kernel_rfl) (by kernel_rfl) (fun _ _ _ h => h) (Or.inl ⟨by rfl, ?_⟩) (by assumption) ?_; rotate_left 1; (focus (intro w hSw; (have s0 := (hSw.cell (p := ⟨NB, 0, none⟩) zN).trans y0; have s1 := (hSw.cell (p := ⟨NB, 1, none⟩) zN).trans y1; have s2 := (hSw.cell (p := ⟨NB, 2, none⟩) zN).trans y2; have s3 := (hSw.cell (p := ⟨NB, 3, none⟩) zN).trans y3; have s4 := (hSw.cell (p := ⟨NB, 4, none⟩) zN).trans y4; clear hSw); go_simp; (first | done | with_reducible rfl))); (try simp only [Act.put, List.setIfInBounds_toArray, List.set_cons_zero, List.set_cons_succ]))
        (refine wpAnyH_take (i := 12) (oi := { dst := some 41, op := Go.Op.binOp Go.BinOp.add 2 (Go.Operand.tmp 40) (Go.Operand.const (Go.Value.int Go.IntKind.i64 1)) 2, type := 2, pos := _, after := #[{ on := 11, ground := Go.Ground.data }], guard := none }) (v := ?_) rfl (by kernel_rfl) (by kernel_rfl) (by kernel_rfl) (fun _ _ _ h => h) (Or.inl ⟨by rfl, ?_⟩) (by assumption) ?_; rotate_left 1; (focus (intro w hSw; (have s0 := (hSw.cell (p := ⟨NB, 0, none⟩) zN).trans y0; have s1 := (hSw.cell (p := ⟨NB, 1, none⟩) zN).trans y1; have s2 := (hSw.cell (p := ⟨NB, 2, none⟩) zN).trans y2; have s3 := (hSw.cell (p := ⟨NB, 3, none⟩) zN).trans y3; have s4 := (hSw.cell (p := ⟨NB, 4, none⟩) zN).trans y4; clear hSw); go_simp; (first | done | with_reducible rfl))); (try simp only [Act.put, List.setIfInBounds_toArray, List.set_cons_zero, List.set_cons_succ]))
        (refine wpAnyH_take (i := 13) (oi := { dst := some 42, op := Go.Op.move (Go.Operand.tmp 8), type := 80, pos := _, after := #[], guard := none }) (v := ?_) rfl (by kernel_rfl) (by kernel_rfl) (by kernel_rfl) (fun _ _ _ h => h) (Or.inl ⟨by rfl, ?_⟩) (by assumption) ?_; rotate_left 1; (focus (intro w hSw; (have s0 := (hSw.cell (p := ⟨NB, 0, none⟩) zN).trans y0; have s1 := (hSw.cell (p := ⟨NB, 1, none⟩) zN).trans y1; have s2 := (hSw.cell (p := ⟨NB, 2, none⟩) zN).trans y2; have s3 := (hSw.cell (p := ⟨NB, 3, none⟩) zN).trans y3; have s4 := (hSw.cell (p := ⟨NB, 4, none⟩) zN).trans y4; clear hSw); go_simp; (first | done | with_reducible rfl))); (try simp only [Act.put, List.setIfInBounds_toArray, List.set_cons_zero, List.set_cons_succ]))
        (refine wpAnyH_take (i := 14) (oi := { dst := some 43, op := Go.Op.fieldAddr 69 (Go.Operand.tmp 7) 2, type := 0, pos := _, after := #[], guard := none }) (v := ?_) rfl (by kernel_rfl) (by kernel_rfl) (by kernel_rfl) (fun _ _ _ h => h) (Or.inl ⟨by rfl, ?_⟩) (by assumption) ?_; rotate_left 1; (focus (intro w hSw; (have s0 := (hSw.cell (p := ⟨NB, 0, none⟩) zN).trans y0; have s1 := (hSw.cell (p := ⟨NB, 1, none⟩) zN).trans y1; have s2 := (hSw.cell (p := ⟨NB, 2, none⟩) zN).trans y2; have s3 := (hSw.cell (p := ⟨NB, 3, none⟩) zN).trans y3; have s4 := (hSw.cell (p := ⟨NB, 4, none⟩) zN).trans y4; clear hSw); go_simp; (first | done | with_reducible rfl))); (try simp only [Act.put, List.setIfInBounds_toArray, List.set_cons_zero, List.set_cons_succ]))
        (refine wpAnyH_take (i := 15) (oi := { dst := some 44, op := Go.Op.load 5 (Go.Operand.tmp 43), type := 5, pos := _, after := #[{ on := 14, ground := Go.Ground.data }], guard := none }) (v := ?_) rfl (by kernel_rfl) (by kernel_rfl) (by kernel_rfl) (fun _ _ _ h => h) (Or.inl ⟨by rfl, ?_⟩) (by assumption) ?_; rotate_left 1; (focus (intro w hSw; (have s0 := (hSw.cell (p := ⟨NB, 0, none⟩) zN).trans y0; have s1 := (hSw.cell (p := ⟨NB, 1, none⟩) zN).trans y1; have s2 := (hSw.cell (p := ⟨NB, 2, none⟩) zN).trans y2; have s3 := (hSw.cell (p := ⟨NB, 3, none⟩) zN).trans y3; have s4 := (hSw.cell (p := ⟨NB, 4, none⟩) zN).trans y4; clear hSw); go_simp; (first | done | with_reducible rfl))); (try simp only [Act.put, List.setIfInBounds_toArray, List.set_cons_zero, List.set_cons_succ]))
        (refine wpAnyH_take (i := 16) (oi := { dst := some 45, op := Go.Op.binOp Go.BinOp.rem 5 (Go.Operand.tmp 44) (Go.Operand.const (Go.Value.int Go.IntKind.u8 20)) 5, type := 5, pos := _, after := #[{ on := 15, ground := Go.Ground.data }], guard := none }) (v := ?_) rfl (by kernel_rfl) (by kernel_rfl) (by kernel_rfl) (fun _ _ _ h => h) (Or.inl ⟨by rfl, ?_⟩) (by assumption) ?_; rotate_left 1; (focus (intro w hSw; (have s0 := (hSw.cell (p := ⟨NB, 0, none⟩) zN).trans y0; have s1 := (hSw.cell (p := ⟨NB, 1, none⟩) zN).trans y1; have s2 := (hSw.cell (p := ⟨NB, 2, none⟩) zN).trans y2; have s3 := (hSw.cell (p := ⟨NB, 3, none⟩) zN).trans y3; have s4 := (hSw.cell (p := ⟨NB, 4, none⟩) zN).trans y4; clear hSw); go_simp; (first | done | with_reducible rfl))); (try simp only [Act.put, List.setIfInBounds_toArray, List.set_cons_zero, List.set_cons_succ]))
        (refine wpAnyH_take (i := 17) (oi := { dst := some 46, op := Go.Op.convert 5 2 (Go.Operand.tmp 45), type := 2, pos := _, after := #[{ on := 16, ground := Go.Ground.data }], guard := none }) (v := ?_) rfl (by kernel_rfl) (by kernel_rfl) (by kernel_rfl) (fun _ _ _ h => h) (Or.inl ⟨by rfl, ?_⟩) (by assumption) ?_; rotate_left 1; (focus (intro w hSw; (have s0 := (hSw.cell (p := ⟨NB, 0, none⟩) zN).trans y0; have s1 := (hSw.cell (p := ⟨NB, 1, none⟩) zN).trans y1; have s2 := (hSw.cell (p := ⟨NB, 2, none⟩) zN).trans y2; have s3 := (hSw.cell (p := ⟨NB, 3, none⟩) zN).trans y3; have s4 := (hSw.cell (p := ⟨NB, 4, none⟩) zN).trans y4; clear hSw); go_simp; (first | done | with_reducible rfl))); (try simp only [Act.put, List.setIfInBounds_toArray, List.set_cons_zero, List.set_cons_succ]))
        (refine wpAnyH_take (i := 18) (oi := { dst := some 47, op := Go.Op.binOp Go.BinOp.add 2 (Go.Operand.tmp 46) (Go.Operand.const (Go.Value.int Go.IntKind.i64 1)) 2, type := 2, pos := _, after := #[{ on := 17, ground := Go.Ground.data }], guard := none }) (v := ?_) rfl (by kernel_rfl) (by kernel_rfl) (by kernel_rfl) (fun _ _ _ h => h) (Or.inl ⟨by rfl, ?_⟩) (by assumption) ?_; rotate_left 1; (focus (intro w hSw; (have s0 := (hSw.cell (p := ⟨NB, 0, none⟩) zN).trans y0; have s1 := (hSw.cell (p := ⟨NB, 1, none⟩) zN).trans y1; have s2 := (hSw.cell (p := ⟨NB, 2, none⟩) zN).trans y2; have s3 := (hSw.cell (p := ⟨NB, 3, none⟩) zN).trans y3; have s4 := (hSw.cell (p := ⟨NB, 4, none⟩) zN).trans y4; clear hSw); go_simp; (first | done | with_reducible rfl))); (try simp only [Act.put, List.setIfInBounds_toArray, List.set_cons_zero, List.set_cons_succ]))
        refine wpAnyH_ready (rs := [1, 20]) (by kernel_rfl) (by simp) ?_
        refine (AllReadyH.cons (o := { dst := some 30, op := Go.Op.call { callee := Go.Callee.value (Go.Operand.func 17), args := #[Go.Operand.tmp 29], argTypes := #[3] }, type := 57, pos := _, after := #[{ on := 0, ground := Go.Ground.data }], guard := none }) rfl (fun K hK => ?_) (AllReadyH.cons (o := { dst := some 9, op := Go.Op.alloc 99, type := 0, pos := _, after := #[], guard := none }) rfl (fun K hK => ?_) AllReadyH.nil))
        · go_simp
          go_wp2_with (go_at_call 17; refine (hid _).mono ?_; rintro e w6 ⟨rfl, hB6⟩)
          refine hK.out _ _ (hHeld.trans (hB6.mono hHeld.size)) (fun hS6 => ?_)
          clear hK K
          (try simp only [Act.put, List.setIfInBounds_toArray, List.set_cons_zero, List.set_cons_succ])
          refine wpAnyH_ready (rs := [3, 20]) (by kernel_rfl) (by simp) ?_
          refine (AllReadyH.cons (o := { dst := some 32, op := Go.Op.call { callee := Go.Callee.value (Go.Operand.func 18), args := #[Go.Operand.tmp 31], argTypes := #[69] }, type := 30, pos := _, after := #[{ on := 2, ground := Go.Ground.data }, { on := 1, ground := Go.Ground.chain }], guard := none }) rfl (fun K hK => ?_) (AllReadyH.cons (o := { dst := some 9, op := Go.Op.alloc 99, type := 0, pos := _, after := #[], guard := none }) rfl (fun K hK => ?_) AllReadyH.nil))
          · go_simp
            go_wp2_with (go_at_call 18; refine (hsd _).mono ?_; rintro e w7 ⟨rfl, hB7⟩)
            refine hK.out _ _ (hS6.trans (hB7.mono hS6.size)) (fun hS7 => ?_)
            clear hK K
            (try simp only [Act.put, List.setIfInBounds_toArray, List.set_cons_zero, List.set_cons_succ])
            (refine wpAnyH_take (i := 19) (oi := { dst := some 48, op := Go.Op.build 99 #[(0, Go.Operand.tmp 30), (1, Go.Operand.const (Go.Value.string { data := #[83] })), (2, Go.Operand.tmp 32), (3, Go.Operand.tmp 36), (4, Go.Operand.tmp 41), (5, Go.Operand.tmp 42), (6, Go.Operand.tmp 47)], type := 99, pos := _, after := #[{ on := 1, ground := Go.Ground.data }, { on := 3, ground := Go.Ground.data }, { on := 7, ground := Go.Ground.data }, { on := 12, ground := Go.Ground.data }, { on := 13, ground := Go.Ground.data }, { on := 18, ground := Go.Ground.data }], guard := none }) (v := ?_) rfl (by kernel_rfl) (by kernel_rfl) (by kernel_rfl) (fun _ _ _ h => h) (Or.inl ⟨by rfl, ?_⟩) (by assumption) ?_; rotate_left 1; (focus (intro w hSw; (have s0 := (hSw.cell (p := ⟨NB, 0, none⟩) zN).trans y0; have s1 := (hSw.cell (p := ⟨NB, 1, none⟩) zN).trans y1; have s2 := (hSw.cell (p := ⟨NB, 2, none⟩) zN).trans y2; have s3 := (hSw.cell (p := ⟨NB, 3, none⟩) zN).trans y3; have s4 := (hSw.cell (p := ⟨NB, 4, none⟩) zN).trans y4; clear hSw); go_simp; (first | done | with_reducible rfl))); (try simp only [Act.put, List.setIfInBounds_toArray, List.set_cons_zero, List.set_cons_succ]))
            refine wpAnyH_ready (rs := [20]) (by kernel_rfl) (by simp) ?_
            refine (AllReadyH.cons (o := { dst := some 9, op := Go.Op.alloc 99, type := 0, pos := _, after := #[], guard := none }) rfl (fun K hK => ?_) AllReadyH.nil)
            go_simp
            have hX : Blk ((w7).alloc (.cells #[.int .u64 0, .int .u64 0, .string ⟨#[]⟩, .int .u8 0, .int .i64 0, .int .i64 0, .int .u8 0, .int .i64 0, .int .u8 0] 99)) (w7.heap.size) 99 9 := Blk.new (w7) #[.int .u64 0, .int .u64 0, .string ⟨#[]⟩, .int .u8 0, .int .i64 0, .int .i64 0, .int .u8 0, .int .i64 0, .int .u8 0] 99 (Nat.le_trans zB hS7.size)
            have hXg : W5.heap.size ≤ w7.heap.size := hS7.size
            refine hK.out _ _ (hS7.alloc hS7.size _) (fun hSa => ?_)
            clear hK K
            (try simp only [Act.put, List.setIfInBounds_toArray, List.set_cons_zero, List.set_cons_succ])
            refine wpAnyH_ready (rs := [21]) (by kernel_rfl) (by simp) ?_
            refine (AllReadyH.cons (o := { dst := none, op := Go.Op.store 99 (Go.Operand.tmp 9) (Go.Operand.tmp 48), type := 0, pos := _, after := #[{ on := 20, ground := Go.Ground.data }, { on := 19, ground := Go.Ground.data }, { on := 3, ground := Go.Ground.chain }, { on := 0, ground := Go.Ground.phase }, { on := 1, ground := Go.Ground.phase }, { on := 2, ground := Go.Ground.phase }, { on := 3, ground := Go.Ground.phase }, { on := 4, ground := Go.Ground.phase }, { on := 5, ground := Go.Ground.phase }, { on := 6, ground := Go.Ground.phase }, { on := 7, ground := Go.Ground.phase }, { on := 8, ground := Go.Ground.phase }, { on := 9, ground := Go.Ground.phase }, { on := 10, ground := Go.Ground.phase }, { on := 11, ground := Go.Ground.phase }, { on := 12, ground := Go.Ground.phase }, { on := 13, ground := Go.Ground.phase }, { on := 14, ground := Go.Ground.phase }, { on := 15, ground := Go.Ground.phase }, { on := 16, ground := Go.Ground.phase }, { on := 17, ground := Go.Ground.phase }, { on := 18, ground := Go.Ground.phase }, { on := 19, ground := Go.Ground.phase }, { on := 20, ground := Go.Ground.phase }], guard := none }) rfl (fun K hK => ?_) AllReadyH.nil)
            refine step_store_mid rfl 99 (.tmp 9) (.tmp 48) rfl (w7.heap.size) 0 (#[.int .u64 7, .int .u64 t, .string ⟨#[83]⟩, .int .u8 (sdI (sl t)), .int .i64 (IntKind.i64.wrap ((li t).tmod 21)), .int .i64 (IntKind.i64.wrap (IntKind.i64.wrap ((qy t).tmod 1000) + 1)), .int .u8 2, .int .i64 (IntKind.i64.wrap (IntKind.i64.wrap ((st t).tmod 20) + 1)), .int .u8 0] : Array Value) rfl rfl hX.there size99 (one_box _ _ _ _ _ _ _) ?_
            have hS9 := below_sets hSa hXg (#[.int .u64 7, .int .u64 t, .string ⟨#[83]⟩, .int .u8 (sdI (sl t)), .int .i64 (IntKind.i64.wrap ((li t).tmod 21)), .int .i64 (IntKind.i64.wrap (IntKind.i64.wrap ((qy t).tmod 1000) + 1)), .int .u8 2, .int .i64 (IntKind.i64.wrap (IntKind.i64.wrap ((st t).tmod 20) + 1)), .int .u8 0] : Array Value).toList 0
            have hXc := Bk.sets hX (#[.int .u64 7, .int .u64 t, .string ⟨#[83]⟩, .int .u8 (sdI (sl t)), .int .i64 (IntKind.i64.wrap ((li t).tmod 21)), .int .i64 (IntKind.i64.wrap (IntKind.i64.wrap ((qy t).tmod 1000) + 1)), .int .u8 2, .int .i64 (IntKind.i64.wrap (IntKind.i64.wrap ((st t).tmod 20) + 1)), .int .u8 0] : Array Value).toList rfl
            generalize hwF : World.setCells (w7.alloc (.cells #[.int .u64 0, .int .u64 0, .string ⟨#[]⟩, .int .u8 0, .int .i64 0, .int .i64 0, .int .u8 0, .int .i64 0, .int .u8 0] 99)) (w7.heap.size) 0 (#[.int .u64 7, .int .u64 t, .string ⟨#[83]⟩, .int .u8 (sdI (sl t)), .int .i64 (IntKind.i64.wrap ((li t).tmod 21)), .int .i64 (IntKind.i64.wrap (IntKind.i64.wrap ((qy t).tmod 1000) + 1)), .int .u8 2, .int .i64 (IntKind.i64.wrap (IntKind.i64.wrap ((st t).tmod 20) + 1)), .int .u8 0] : Array Value).toList = wF at hS9 hXc ⊢
            clear hwF
            refine hK.out _ _ hS9 (fun _ => ?_)
            clear hK K
            (try simp only [Act.put, List.setIfInBounds_toArray, List.set_cons_zero, List.set_cons_succ])
            refine wpAnyH_done (by kernel_rfl) ?_ _
            have hC := HC.out.1
            have hBr : Below wr.heap.size wr wF := ((by rw [HW.out.1]; exact (Below.refl _ _).alloc (Nat.le_refl _) _ : Below wr.heap.size wr W5)).trans (hS9.mono (by rw [HW.out.1]; simp))
            have z0 : wF.cell? ⟨w7.heap.size, 0, none⟩ = some (.int .u64 7) := hXc.cell 0 (by omega)
            have z1 : wF.cell? ⟨w7.heap.size, 1, none⟩ = some (.int .u64 t) := hXc.cell 1 (by omega)
            have z2 : wF.cell? ⟨w7.heap.size, 2, none⟩ = some (.string ⟨#[83]⟩) := hXc.cell 2 (by omega)
            have z3 : wF.cell? ⟨w7.heap.size, 3, none⟩ = some (.int .u8 (sdI (sl t))) := hXc.cell 3 (by omega)
            have z4 : wF.cell? ⟨w7.heap.size, 4, none⟩ = some (.int .i64 (li t % 21)) := (hXc.cell 4 (by omega)).trans (congrArg (fun x => some (Value.int .i64 x)) wl.out)
            have z5 : wF.cell? ⟨w7.heap.size, 5, none⟩ = some (.int .i64 (qy t % 1000 + 1)) := (hXc.cell 5 (by omega)).trans (congrArg (fun x => some (Value.int .i64 x)) wq.out)
            have z6 : wF.cell? ⟨w7.heap.size, 6, none⟩ = some (.int .u8 2) := hXc.cell 6 (by omega)
            have z7 : wF.cell? ⟨w7.heap.size, 7, none⟩ = some (.int .i64 (st t % 20 + 1)) := (hXc.cell 7 (by omega)).trans (congrArg (fun x => some (Value.int .i64 x)) wp.out)
            have z8 : wF.cell? ⟨w7.heap.size, 8, none⟩ = some (.int .u8 0) := hXc.cell 8 (by omega)
            have hwt := wait_any (m := t) (c := t) (hC.ph.below hBr) hC.lg (hC.map.kept (hBr.block _ hC.map.lt)) (by omega) (by omega) (by omega) (hC.levn t (Nat.le_refl _)) hC.pn hC.ec1 hC.ec3 (sdI (sl t)) 2 (st t % 20 + 1) (qy t % 1000 + 1) (li t % 21) true rfl (by omega) (by omega)
            clear hC hid hsd hS9 hXc
            go_wp2_with (go_at_call 27; refine hwt.mono ?_; rintro e w9 ⟨rfl, ob', g', q', tot', lev', hW⟩)
            go_roundw
            case rel =>
              have hW' : Wtd ob ob' t t (W.heap.size + 2) w2.heap.size (W.heap.size + 1) g g' q q' tot' lev lev' M t t (plainS en sl st li qy t).entry (sdI (plainS en sl st li qy t).sell) (plainS en sl st li qy t).sp (plainS en sl st li qy t).qty (plainS en sl st li qy t).lim wF w9 := by
                show Wtd _ _ _ _ _ _ _ _ _ _ _ _ _ _ _ _ _ (en t) _ _ _ _ _ _
                rw [HEN.out]
                exact hW
              exact ⟨t + 1, ob', g', q', tot', lev', upN M t (some (ob' t)), by omega, by simp, HC.out.1.next hBr hW'⟩
            case measure => simp [intOf]; omega
          · go_simp
            have hX : Blk ((w6).alloc (.cells #[.int .u64 0, .int .u64 0, .string ⟨#[]⟩, .int .u8 0, .int .i64 0, .int .i64 0, .int .u8 0, .int .i64 0, .int .u8 0] 99)) (w6.heap.size) 99 9 := Blk.new (w6) #[.int .u64 0, .int .u64 0, .string ⟨#[]⟩, .int .u8 0, .int .i64 0, .int .i64 0, .int .u8 0, .int .i64 0, .int .u8 0] 99 (Nat.le_trans zB hS6.size)
            have hXg : W5.heap.size ≤ w6.heap.size := hS6.size
            refine hK.out _ _ (hS6.alloc hS6.size _) (fun hSa => ?_)
            clear hK K
            (try simp only [Act.put, List.setIfInBounds_toArray, List.set_cons_zero, List.set_cons_succ])
            refine wpAnyH_ready (rs := [3]) (by kernel_rfl) (by simp) ?_
            refine (AllReadyH.cons (o := { dst := some 32, op := Go.Op.call { callee := Go.Callee.value (Go.Operand.func 18), args := #[Go.Operand.tmp 31], argTypes := #[69] }, type := 30, pos := _, after := #[{ on := 2, ground := Go.Ground.data }, { on := 1, ground := Go.Ground.chain }], guard := none }) rfl (fun K hK => ?_) AllReadyH.nil)
            go_simp
            go_wp2_with (go_at_call 18; refine (hsd _).mono ?_; rintro e w7 ⟨rfl, hB7⟩)
            refine hK.out _ _ (hSa.trans (hB7.mono hSa.size)) (fun hS7 => ?_)
            clear hK K
            (try simp only [Act.put, List.setIfInBounds_toArray, List.set_cons_zero, List.set_cons_succ])
            replace hX := hX.shp (Shp.below hB7)
            (refine wpAnyH_take (i := 19) (oi := { dst := some 48, op := Go.Op.build 99 #[(0, Go.Operand.tmp 30), (1, Go.Operand.const (Go.Value.string { data := #[83] })), (2, Go.Operand.tmp 32), (3, Go.Operand.tmp 36), (4, Go.Operand.tmp 41), (5, Go.Operand.tmp 42), (6, Go.Operand.tmp 47)], type := 99, pos := _, after := #[{ on := 1, ground := Go.Ground.data }, { on := 3, ground := Go.Ground.data }, { on := 7, ground := Go.Ground.data }, { on := 12, ground := Go.Ground.data }, { on := 13, ground := Go.Ground.data }, { on := 18, ground := Go.Ground.data }], guard := none }) (v := ?_) rfl (by kernel_rfl) (by kernel_rfl) (by kernel_rfl) (fun _ _ _ h => h) (Or.inl ⟨by rfl, ?_⟩) (by assumption) ?_; rotate_left 1; (focus (intro w hSw; (have s0 := (hSw.cell (p := ⟨NB, 0, none⟩) zN).trans y0; have s1 := (hSw.cell (p := ⟨NB, 1, none⟩) zN).trans y1; have s2 := (hSw.cell (p := ⟨NB, 2, none⟩) zN).trans y2; have s3 := (hSw.cell (p := ⟨NB, 3, none⟩) zN).trans y3; have s4 := (hSw.cell (p := ⟨NB, 4, none⟩) zN).trans y4; clear hSw); go_simp; (first | done | with_reducible rfl))); (try simp only [Act.put, List.setIfInBounds_toArray, List.set_cons_zero, List.set_cons_succ]))
            refine wpAnyH_ready (rs := [21]) (by kernel_rfl) (by simp) ?_
            refine (AllReadyH.cons (o := { dst := none, op := Go.Op.store 99 (Go.Operand.tmp 9) (Go.Operand.tmp 48), type := 0, pos := _, after := #[{ on := 20, ground := Go.Ground.data }, { on := 19, ground := Go.Ground.data }, { on := 3, ground := Go.Ground.chain }, { on := 0, ground := Go.Ground.phase }, { on := 1, ground := Go.Ground.phase }, { on := 2, ground := Go.Ground.phase }, { on := 3, ground := Go.Ground.phase }, { on := 4, ground := Go.Ground.phase }, { on := 5, ground := Go.Ground.phase }, { on := 6, ground := Go.Ground.phase }, { on := 7, ground := Go.Ground.phase }, { on := 8, ground := Go.Ground.phase }, { on := 9, ground := Go.Ground.phase }, { on := 10, ground := Go.Ground.phase }, { on := 11, ground := Go.Ground.phase }, { on := 12, ground := Go.Ground.phase }, { on := 13, ground := Go.Ground.phase }, { on := 14, ground := Go.Ground.phase }, { on := 15, ground := Go.Ground.phase }, { on := 16, ground := Go.Ground.phase }, { on := 17, ground := Go.Ground.phase }, { on := 18, ground := Go.Ground.phase }, { on := 19, ground := Go.Ground.phase }, { on := 20, ground := Go.Ground.phase }], guard := none }) rfl (fun K hK => ?_) AllReadyH.nil)
            refine step_store_mid rfl 99 (.tmp 9) (.tmp 48) rfl (w6.heap.size) 0 (#[.int .u64 7, .int .u64 t, .string ⟨#[83]⟩, .int .u8 (sdI (sl t)), .int .i64 (IntKind.i64.wrap ((li t).tmod 21)), .int .i64 (IntKind.i64.wrap (IntKind.i64.wrap ((qy t).tmod 1000) + 1)), .int .u8 2, .int .i64 (IntKind.i64.wrap (IntKind.i64.wrap ((st t).tmod 20) + 1)), .int .u8 0] : Array Value) rfl rfl hX.there size99 (one_box _ _ _ _ _ _ _) ?_
            have hS9 := below_sets hS7 hXg (#[.int .u64 7, .int .u64 t, .string ⟨#[83]⟩, .int .u8 (sdI (sl t)), .int .i64 (IntKind.i64.wrap ((li t).tmod 21)), .int .i64 (IntKind.i64.wrap (IntKind.i64.wrap ((qy t).tmod 1000) + 1)), .int .u8 2, .int .i64 (IntKind.i64.wrap (IntKind.i64.wrap ((st t).tmod 20) + 1)), .int .u8 0] : Array Value).toList 0
            have hXc := Bk.sets hX (#[.int .u64 7, .int .u64 t, .string ⟨#[83]⟩, .int .u8 (sdI (sl t)), .int .i64 (IntKind.i64.wrap ((li t).tmod 21)), .int .i64 (IntKind.i64.wrap (IntKind.i64.wrap ((qy t).tmod 1000) + 1)), .int .u8 2, .int .i64 (IntKind.i64.wrap (IntKind.i64.wrap ((st t).tmod 20) + 1)), .int .u8 0] : Array Value).toList rfl
            generalize hwF : World.setCells (w7) (w6.heap.size) 0 (#[.int .u64 7, .int .u64 t, .string ⟨#[83]⟩, .int .u8 (sdI (sl t)), .int .i64 (IntKind.i64.wrap ((li t).tmod 21)), .int .i64 (IntKind.i64.wrap (IntKind.i64.wrap ((qy t).tmod 1000) + 1)), .int .u8 2, .int .i64 (IntKind.i64.wrap (IntKind.i64.wrap ((st t).tmod 20) + 1)), .int .u8 0] : Array Value).toList = wF at hS9 hXc ⊢
            clear hwF
            refine hK.out _ _ hS9 (fun _ => ?_)
            clear hK K
            (try simp only [Act.put, List.setIfInBounds_toArray, List.set_cons_zero, List.set_cons_succ])
            refine wpAnyH_done (by kernel_rfl) ?_ _
            have hC := HC.out.1
            have hBr : Below wr.heap.size wr wF := ((by rw [HW.out.1]; exact (Below.refl _ _).alloc (Nat.le_refl _) _ : Below wr.heap.size wr W5)).trans (hS9.mono (by rw [HW.out.1]; simp))
            have z0 : wF.cell? ⟨w6.heap.size, 0, none⟩ = some (.int .u64 7) := hXc.cell 0 (by omega)
            have z1 : wF.cell? ⟨w6.heap.size, 1, none⟩ = some (.int .u64 t) := hXc.cell 1 (by omega)
            have z2 : wF.cell? ⟨w6.heap.size, 2, none⟩ = some (.string ⟨#[83]⟩) := hXc.cell 2 (by omega)
            have z3 : wF.cell? ⟨w6.heap.size, 3, none⟩ = some (.int .u8 (sdI (sl t))) := hXc.cell 3 (by omega)
            have z4 : wF.cell? ⟨w6.heap.size, 4, none⟩ = some (.int .i64 (li t % 21)) := (hXc.cell 4 (by omega)).trans (congrArg (fun x => some (Value.int .i64 x)) wl.out)
            have z5 : wF.cell? ⟨w6.heap.size, 5, none⟩ = some (.int .i64 (qy t % 1000 + 1)) := (hXc.cell 5 (by omega)).trans (congrArg (fun x => some (Value.int .i64 x)) wq.out)
            have z6 : wF.cell? ⟨w6.heap.size, 6, none⟩ = some (.int .u8 2) := hXc.cell 6 (by omega)
            have z7 : wF.cell? ⟨w6.heap.size, 7, none⟩ = some (.int .i64 (st t % 20 + 1)) := (hXc.cell 7 (by omega)).trans (congrArg (fun x => some (Value.int .i64 x)) wp.out)
            have z8 : wF.cell? ⟨w6.heap.size, 8, none⟩ = some (.int .u8 0) := hXc.cell 8 (by omega)
            have hwt := wait_any (m := t) (c := t) (hC.ph.below hBr) hC.lg (hC.map.kept (hBr.block _ hC.map.lt)) (by omega) (by omega) (by omega) (hC.levn t (Nat.le_refl _)) hC.pn hC.ec1 hC.ec3 (sdI (sl t)) 2 (st t % 20 + 1) (qy t % 1000 + 1) (li t % 21) true rfl (by omega) (by omega)
            clear hC hid hsd hS9 hXc
            go_wp2_with (go_at_call 27; refine hwt.mono ?_; rintro e w9 ⟨rfl, ob', g', q', tot', lev', hW⟩)
            go_roundw
            case rel =>
              have hW' : Wtd ob ob' t t (W.heap.size + 2) w2.heap.size (W.heap.size + 1) g g' q q' tot' lev lev' M t t (plainS en sl st li qy t).entry (sdI (plainS en sl st li qy t).sell) (plainS en sl st li qy t).sp (plainS en sl st li qy t).qty (plainS en sl st li qy t).lim wF w9 := by
                show Wtd _ _ _ _ _ _ _ _ _ _ _ _ _ _ _ _ _ (en t) _ _ _ _ _ _
                rw [HEN.out]
                exact hW
              exact ⟨t + 1, ob', g', q', tot', lev', upN M t (some (ob' t)), by omega, by simp, HC.out.1.next hBr hW'⟩
            case measure => simp [intOf]; omega
        · go_simp
          have hX : Blk ((W5.drew).alloc (.cells #[.int .u64 0, .int .u64 0, .string ⟨#[]⟩, .int .u8 0, .int .i64 0, .int .i64 0, .int .u8 0, .int .i64 0, .int .u8 0] 99)) (W5.heap.size) 99 9 := Blk.new (W5.drew) #[.int .u64 0, .int .u64 0, .string ⟨#[]⟩, .int .u8 0, .int .i64 0, .int .i64 0, .int .u8 0, .int .i64 0, .int .u8 0] 99 (Nat.le_trans zB hHeld.size)
          have hXg : W5.heap.size ≤ W5.heap.size := hHeld.size
          refine hK.out _ _ (hHeld.alloc hHeld.size _) (fun hSa => ?_)
          clear hK K
          (try simp only [Act.put, List.setIfInBounds_toArray, List.set_cons_zero, List.set_cons_succ])
          refine wpAnyH_ready (rs := [1]) (by kernel_rfl) (by simp) ?_
          refine (AllReadyH.cons (o := { dst := some 30, op := Go.Op.call { callee := Go.Callee.value (Go.Operand.func 17), args := #[Go.Operand.tmp 29], argTypes := #[3] }, type := 57, pos := _, after := #[{ on := 0, ground := Go.Ground.data }], guard := none }) rfl (fun K hK => ?_) AllReadyH.nil)
          go_simp
          go_wp2_with (go_at_call 17; refine (hid _).mono ?_; rintro e w6 ⟨rfl, hB6⟩)
          refine hK.out _ _ (hSa.trans (hB6.mono hSa.size)) (fun hS6 => ?_)
          clear hK K
          (try simp only [Act.put, List.setIfInBounds_toArray, List.set_cons_zero, List.set_cons_succ])
          replace hX := hX.shp (Shp.below hB6)
          refine wpAnyH_ready (rs := [3]) (by kernel_rfl) (by simp) ?_
          refine (AllReadyH.cons (o := { dst := some 32, op := Go.Op.call { callee := Go.Callee.value (Go.Operand.func 18), args := #[Go.Operand.tmp 31], argTypes := #[69] }, type := 30, pos := _, after := #[{ on := 2, ground := Go.Ground.data }, { on := 1, ground := Go.Ground.chain }], guard := none }) rfl (fun K hK => ?_) AllReadyH.nil)
          go_simp
          go_wp2_with (go_at_call 18; refine (hsd _).mono ?_; rintro e w7 ⟨rfl, hB7⟩)
          refine hK.out _ _ (hS6.trans (hB7.mono hS6.size)) (fun hS7 => ?_)
          clear hK K
          (try simp only [Act.put, List.setIfInBounds_toArray, List.set_cons_zero, List.set_cons_succ])
          replace hX := hX.shp (Shp.below hB7)
          (refine wpAnyH_take (i := 19) (oi := { dst := some 48, op := Go.Op.build 99 #[(0, Go.Operand.tmp 30), (1, Go.Operand.const (Go.Value.string { data := #[83] })), (2, Go.Operand.tmp 32), (3, Go.Operand.tmp 36), (4, Go.Operand.tmp 41), (5, Go.Operand.tmp 42), (6, Go.Operand.tmp 47)], type := 99, pos := _, after := #[{ on := 1, ground := Go.Ground.data }, { on := 3, ground := Go.Ground.data }, { on := 7, ground := Go.Ground.data }, { on := 12, ground := Go.Ground.data }, { on := 13, ground := Go.Ground.data }, { on := 18, ground := Go.Ground.data }], guard := none }) (v := ?_) rfl (by kernel_rfl) (by kernel_rfl) (by kernel_rfl) (fun _ _ _ h => h) (Or.inl ⟨by rfl, ?_⟩) (by assumption) ?_; rotate_left 1; (focus (intro w hSw; (have s0 := (hSw.cell (p := ⟨NB, 0, none⟩) zN).trans y0; have s1 := (hSw.cell (p := ⟨NB, 1, none⟩) zN).trans y1; have s2 := (hSw.cell (p := ⟨NB, 2, none⟩) zN).trans y2; have s3 := (hSw.cell (p := ⟨NB, 3, none⟩) zN).trans y3; have s4 := (hSw.cell (p := ⟨NB, 4, none⟩) zN).trans y4; clear hSw); go_simp; (first | done | with_reducible rfl))); (try simp only [Act.put, List.setIfInBounds_toArray, List.set_cons_zero, List.set_cons_succ]))
          refine wpAnyH_ready (rs := [21]) (by kernel_rfl) (by simp) ?_
          refine (AllReadyH.cons (o := { dst := none, op := Go.Op.store 99 (Go.Operand.tmp 9) (Go.Operand.tmp 48), type := 0, pos := _, after := #[{ on := 20, ground := Go.Ground.data }, { on := 19, ground := Go.Ground.data }, { on := 3, ground := Go.Ground.chain }, { on := 0, ground := Go.Ground.phase }, { on := 1, ground := Go.Ground.phase }, { on := 2, ground := Go.Ground.phase }, { on := 3, ground := Go.Ground.phase }, { on := 4, ground := Go.Ground.phase }, { on := 5, ground := Go.Ground.phase }, { on := 6, ground := Go.Ground.phase }, { on := 7, ground := Go.Ground.phase }, { on := 8, ground := Go.Ground.phase }, { on := 9, ground := Go.Ground.phase }, { on := 10, ground := Go.Ground.phase }, { on := 11, ground := Go.Ground.phase }, { on := 12, ground := Go.Ground.phase }, { on := 13, ground := Go.Ground.phase }, { on := 14, ground := Go.Ground.phase }, { on := 15, ground := Go.Ground.phase }, { on := 16, ground := Go.Ground.phase }, { on := 17, ground := Go.Ground.phase }, { on := 18, ground := Go.Ground.phase }, { on := 19, ground := Go.Ground.phase }, { on := 20, ground := Go.Ground.phase }], guard := none }) rfl (fun K hK => ?_) AllReadyH.nil)
          refine step_store_mid rfl 99 (.tmp 9) (.tmp 48) rfl (W5.heap.size) 0 (#[.int .u64 7, .int .u64 t, .string ⟨#[83]⟩, .int .u8 (sdI (sl t)), .int .i64 (IntKind.i64.wrap ((li t).tmod 21)), .int .i64 (IntKind.i64.wrap (IntKind.i64.wrap ((qy t).tmod 1000) + 1)), .int .u8 2, .int .i64 (IntKind.i64.wrap (IntKind.i64.wrap ((st t).tmod 20) + 1)), .int .u8 0] : Array Value) rfl rfl hX.there size99 (one_box _ _ _ _ _ _ _) ?_
          have hS9 := below_sets hS7 hXg (#[.int .u64 7, .int .u64 t, .string ⟨#[83]⟩, .int .u8 (sdI (sl t)), .int .i64 (IntKind.i64.wrap ((li t).tmod 21)), .int .i64 (IntKind.i64.wrap (IntKind.i64.wrap ((qy t).tmod 1000) + 1)), .int .u8 2, .int .i64 (IntKind.i64.wrap (IntKind.i64.wrap ((st t).tmod 20) + 1)), .int .u8 0] : Array Value).toList 0
          have hXc := Bk.sets hX (#[.int .u64 7, .int .u64 t, .string ⟨#[83]⟩, .int .u8 (sdI (sl t)), .int .i64 (IntKind.i64.wrap ((li t).tmod 21)), .int .i64 (IntKind.i64.wrap (IntKind.i64.wrap ((qy t).tmod 1000) + 1)), .int .u8 2, .int .i64 (IntKind.i64.wrap (IntKind.i64.wrap ((st t).tmod 20) + 1)), .int .u8 0] : Array Value).toList rfl
          generalize hwF : World.setCells (w7) (W5.heap.size) 0 (#[.int .u64 7, .int .u64 t, .string ⟨#[83]⟩, .int .u8 (sdI (sl t)), .int .i64 (IntKind.i64.wrap ((li t).tmod 21)), .int .i64 (IntKind.i64.wrap (IntKind.i64.wrap ((qy t).tmod 1000) + 1)), .int .u8 2, .int .i64 (IntKind.i64.wrap (IntKind.i64.wrap ((st t).tmod 20) + 1)), .int .u8 0] : Array Value).toList = wF at hS9 hXc ⊢
          clear hwF
          refine hK.out _ _ hS9 (fun _ => ?_)
          clear hK K
          (try simp only [Act.put, List.setIfInBounds_toArray, List.set_cons_zero, List.set_cons_succ])
          refine wpAnyH_done (by kernel_rfl) ?_ _
          have hC := HC.out.1
          have hBr : Below wr.heap.size wr wF := ((by rw [HW.out.1]; exact (Below.refl _ _).alloc (Nat.le_refl _) _ : Below wr.heap.size wr W5)).trans (hS9.mono (by rw [HW.out.1]; simp))
          have z0 : wF.cell? ⟨W5.heap.size, 0, none⟩ = some (.int .u64 7) := hXc.cell 0 (by omega)
          have z1 : wF.cell? ⟨W5.heap.size, 1, none⟩ = some (.int .u64 t) := hXc.cell 1 (by omega)
          have z2 : wF.cell? ⟨W5.heap.size, 2, none⟩ = some (.string ⟨#[83]⟩) := hXc.cell 2 (by omega)
          have z3 : wF.cell? ⟨W5.heap.size, 3, none⟩ = some (.int .u8 (sdI (sl t))) := hXc.cell 3 (by omega)
          have z4 : wF.cell? ⟨W5.heap.size, 4, none⟩ = some (.int .i64 (li t % 21)) := (hXc.cell 4 (by omega)).trans (congrArg (fun x => some (Value.int .i64 x)) wl.out)
          have z5 : wF.cell? ⟨W5.heap.size, 5, none⟩ = some (.int .i64 (qy t % 1000 + 1)) := (hXc.cell 5 (by omega)).trans (congrArg (fun x => some (Value.int .i64 x)) wq.out)
          have z6 : wF.cell? ⟨W5.heap.size, 6, none⟩ = some (.int .u8 2) := hXc.cell 6 (by omega)
          have z7 : wF.cell? ⟨W5.heap.size, 7, none⟩ = some (.int .i64 (st t % 20 + 1)) := (hXc.cell 7 (by omega)).trans (congrArg (fun x => some (Value.int .i64 x)) wp.out)
          have z8 : wF.cell? ⟨W5.heap.size, 8, none⟩ = some (.int .u8 0) := hXc.cell 8 (by omega)
          have hwt := wait_any (m := t) (c := t) (hC.ph.below hBr) hC.lg (hC.map.kept (hBr.block _ hC.map.lt)) (by omega) (by omega) (by omega) (hC.levn t (Nat.le_refl _)) hC.pn hC.ec1 hC.ec3 (sdI (sl t)) 2 (st t % 20 + 1) (qy t % 1000 + 1) (li t % 21) true rfl (by omega) (by omega)
          clear hC hid hsd hS9 hXc
          go_wp2_with (go_at_call 27; refine hwt.mono ?_; rintro e w9 ⟨rfl, ob', g', q', tot', lev', hW⟩)
          go_roundw
          case rel =>
            have hW' : Wtd ob ob' t t (W.heap.size + 2) w2.heap.size (W.heap.size + 1) g g' q q' tot' lev lev' M t t (plainS en sl st li qy t).entry (sdI (plainS en sl st li qy t).sell) (plainS en sl st li qy t).sp (plainS en sl st li qy t).qty (plainS en sl st li qy t).lim wF w9 := by
              show Wtd _ _ _ _ _ _ _ _ _ _ _ _ _ _ _ _ _ (en t) _ _ _ _ _ _
              rw [HEN.out]
              exact hW
            exact ⟨t + 1, ob', g', q', tot', lev', upN M t (some (ob' t)), by omega, by simp, HC.out.1.next hBr hW'⟩
          case measure => simp [intOf]; omega
      | false =>
        rw [hen] at d0
        have hid := fun w => cid_any (t : Int) (by omega) (by omega) w
        have hwr : IntKind.u64.wrap (t : Int) = t := by simp [IntKind.wrap, IntKind.signed, IntKind.bits]; omega
        simp only [hwr] at hid
        have hsd : ∀ w, Calls Yba.prog 18 #[.agg #[.bool false, .bool (sl t), .int .u8 (st t), .int .u8 (li t), .int .u16 (qy t)]] w fun e w' => e = .returned (.int .u8 (sdI (sl t))) ∧ Below w.heap.size w w' := fun w => cside_any false (sl t) (.int .u8 (st t)) (.int .u8 (li t)) (.int .u16 (qy t)) rfl rfl rfl w
        go_wp2
        obtain ⟨NB, hNB⟩ : ∃ NB, NB = wr.heap.size := ⟨_, rfl⟩
        obtain ⟨W5, hW5⟩ : ∃ W5, W5 = wr.alloc (.cells #[.bool false, .bool (sl t), .int .u8 (st t), .int .u8 (li t), .int .u16 (qy t)] 69) := ⟨_, rfl⟩
        rw [← hW5, ← hNB]
        have y0 : W5.cell? ⟨NB, 0, none⟩ = some (.bool false) := by rw [hW5]; exact World.cell?_alloc_at _ _ _ _ hNB
        have y1 : W5.cell? ⟨NB, 1, none⟩ = some (.bool (sl t)) := by rw [hW5]; exact World.cell?_alloc_at _ _ _ _ hNB
        have y2 : W5.cell? ⟨NB, 2, none⟩ = some (.int .u8 (st t)) := by rw [hW5]; exact World.cell?_alloc_at _ _ _ _ hNB
        have y3 : W5.cell? ⟨NB, 3, none⟩ = some (.int .u8 (li t)) := by rw [hW5]; exact World.cell?_alloc_at _ _ _ _ hNB
        have y4 : W5.cell? ⟨NB, 4, none⟩ = some (.int .u16 (qy t)) := by rw [hW5]; exact World.cell?_alloc_at _ _ _ _ hNB
        have zN : NB < W5.heap.size := by rw [hW5, hNB]; simp
        have r2 := HC.out.2.r2 t ht
        have r3 := HC.out.2.r3 t ht
        have r4 := HC.out.2.r4 t ht
        have HW := hide (And.intro hW5 hNB)
        have HEN := hide hen
        clear hW5 hNB d0 d1 d2 d3 d4 hen
        have wl := hide (wrap_mod (n := 21) r3 (by omega) (by omega))
        have wq := hide (wrap_mod1 (n := 1000) r4 (by omega) (by omega))
        have wp := hide (wrap_mod1 (n := 20) r2 (by omega) (by omega))
        have zB : Base.B ≤ W5.heap.size := by have := HC.out.1.ph.en.base; rw [HW.out.1]; simp; omega
        refine wp_region_held_drew (S := fun w' => Below W5.heap.size W5 w') (by kernel_rfl) (Below.refl _ _).drew (fun hHeld => ?_)
        (refine wpAnyH_take (i := 0) (oi := { dst := some 29, op := Go.Op.move (Go.Operand.tmp 6), type := 3, pos := _, after := #[], guard := none }) (v := ?_) rfl (by kernel_rfl) (by kernel_rfl) (by kernel_rfl) (fun _ _ _ h => h) (Or.inl ⟨by rfl, ?_⟩) (by assumption) ?_; rotate_left 1; (focus (intro w hSw; (have s0 := (hSw.cell (p := ⟨NB, 0, none⟩) zN).trans y0; have s1 := (hSw.cell (p := ⟨NB, 1, none⟩) zN).trans y1; have s2 := (hSw.cell (p := ⟨NB, 2, none⟩) zN).trans y2; have s3 := (hSw.cell (p := ⟨NB, 3, none⟩) zN).trans y3; have s4 := (hSw.cell (p := ⟨NB, 4, none⟩) zN).trans y4; clear hSw); go_simp; (first | done | with_reducible rfl))); (try simp only [Act.put, List.setIfInBounds_toArray, List.set_cons_zero, List.set_cons_succ]))
        (refine wpAnyH_take (i := 2) (oi := { dst := some 31, op := Go.Op.load 69 (Go.Operand.tmp 7), type := 69, pos := _, after := #[], guard := none }) (v := ?_) rfl (by kernel_rfl) (by kernel_rfl) (by kernel_rfl) (fun _ _ _ h => h) (Or.inl ⟨by rfl, ?_⟩) (by assumption) ?_; rotate_left 1; (focus (intro w hSw; (have s0 := (hSw.cell (p := ⟨NB, 0, none⟩) zN).trans y0; have s1 := (hSw.cell (p := ⟨NB, 1, none⟩) zN).trans y1; have s2 := (hSw.cell (p := ⟨NB, 2, none⟩) zN).trans y2; have s3 := (hSw.cell (p := ⟨NB, 3, none⟩) zN).trans y3; have s4 := (hSw.cell (p := ⟨NB, 4, none⟩) zN).trans y4; clear hSw); go_simp; (first | done | with_reducible rfl))); (try simp only [Act.put, List.setIfInBounds_toArray, List.set_cons_zero, List.set_cons_succ]))
        (refine wpAnyH_take (i := 4) (oi := { dst := some 33, op := Go.Op.fieldAddr 69 (Go.Operand.tmp 7) 3, type := 0, pos := _, after := #[], guard := none }) (v := ?_) rfl (by kernel_rfl) (by kernel_rfl) (by kernel_rfl) (fun _ _ _ h => h) (Or.inl ⟨by rfl, ?_⟩) (by assumption) ?_; rotate_left 1; (focus (intro w hSw; (have s0 := (hSw.cell (p := ⟨NB, 0, none⟩) zN).trans y0; have s1 := (hSw.cell (p := ⟨NB, 1, none⟩) zN).trans y1; have s2 := (hSw.cell (p := ⟨NB, 2, none⟩) zN).trans y2; have s3 := (hSw.cell (p := ⟨NB, 3, none⟩) zN).trans y3; have s4 := (hSw.cell (p := ⟨NB, 4, none⟩) zN).trans y4; clear hSw); go_simp; (first | done | with_reducible rfl))); (try simp only [Act.put, List.setIfInBounds_toArray, List.set_cons_zero, List.set_cons_succ]))
        (refine wpAnyH_take (i := 5) (oi := { dst := some 34, op := Go.Op.load 5 (Go.Operand.tmp 33), type := 5, pos := _, after := #[{ on := 4, ground := Go.Ground.data }], guard := none }) (v := ?_) rfl (by kernel_rfl) (by kernel_rfl) (by kernel_rfl) (fun _ _ _ h => h) (Or.inl ⟨by rfl, ?_⟩) (by assumption) ?_; rotate_left 1; (focus (intro w hSw; (have s0 := (hSw.cell (p := ⟨NB, 0, none⟩) zN).trans y0; have s1 := (hSw.cell (p := ⟨NB, 1, none⟩) zN).trans y1; have s2 := (hSw.cell (p := ⟨NB, 2, none⟩) zN).trans y2; have s3 := (hSw.cell (p := ⟨NB, 3, none⟩) zN).trans y3; have s4 := (hSw.cell (p := ⟨NB, 4, none⟩) zN).trans y4; clear hSw); go_simp; (first | done | with_reducible rfl))); (try simp only [Act.put, List.setIfInBounds_toArray, List.set_cons_zero, List.set_cons_succ]))
        (refine wpAnyH_take (i := 6) (oi := { dst := some 35, op := Go.Op.binOp Go.BinOp.rem 5 (Go.Operand.tmp 34) (Go.Operand.const (Go.Value.int Go.IntKind.u8 21)) 5, type := 5, pos := _, after := #[{ on := 5, ground := Go.Ground.data }], guard := none }) (v := ?_) rfl (by kernel_rfl) (by kernel_rfl) (by kernel_rfl) (fun _ _ _ h => h) (Or.inl ⟨by rfl, ?_⟩) (by assumption) ?_; rotate_left 1; (focus (intro w hSw; (have s0 := (hSw.cell (p := ⟨NB, 0, none⟩) zN).trans y0; have s1 := (hSw.cell (p := ⟨NB, 1, none⟩) zN).trans y1; have s2 := (hSw.cell (p := ⟨NB, 2, none⟩) zN).trans y2; have s3 := (hSw.cell (p := ⟨NB, 3, none⟩) zN).trans y3; have s4 := (hSw.cell (p := ⟨NB, 4, none⟩) zN).trans y4; clear hSw); go_simp; (first | done | with_reducible rfl))); (try simp only [Act.put, List.setIfInBounds_toArray, List.set_cons_zero, List.set_cons_succ]))
        (refine wpAnyH_take (i := 7) (oi := { dst := some 36, op := Go.Op.convert 5 2 (Go.Operand.tmp 35), type := 2, pos := _, after := #[{ on := 6, ground := Go.Ground.data }], guard := none }) (v := ?_) rfl (by kernel_rfl) (by kernel_rfl) (by kernel_rfl) (fun _ _ _ h => h) (Or.inl ⟨by rfl, ?_⟩) (by assumption) ?_; rotate_left 1; (focus (intro w hSw; (have s0 := (hSw.cell (p := ⟨NB, 0, none⟩) zN).trans y0; have s1 := (hSw.cell (p := ⟨NB, 1, none⟩) zN).trans y1; have s2 := (hSw.cell (p := ⟨NB, 2, none⟩) zN).trans y2; have s3 := (hSw.cell (p := ⟨NB, 3, none⟩) zN).trans y3; have s4 := (hSw.cell (p := ⟨NB, 4, none⟩) zN).trans y4; clear hSw); go_simp; (first | done | with_reducible rfl))); (try simp only [Act.put, List.setIfInBounds_toArray, List.set_cons_zero, List.set_cons_succ]))
        (refine wpAnyH_take (i := 8) (oi := { dst := some 37, op := Go.Op.fieldAddr 69 (Go.Operand.tmp 7) 4, type := 0, pos := _, after := #[], guard := none }) (v := ?_) rfl (by kernel_rfl) (by kernel_rfl) (by kernel_rfl) (fun _ _ _ h => h) (Or.inl ⟨by rfl, ?_⟩) (by assumption) ?_; rotate_left 1; (focus (intro w hSw; (have s0 := (hSw.cell (p := ⟨NB, 0, none⟩) zN).trans y0; have s1 := (hSw.cell (p := ⟨NB, 1, none⟩) zN).trans y1; have s2 := (hSw.cell (p := ⟨NB, 2, none⟩) zN).trans y2; have s3 := (hSw.cell (p := ⟨NB, 3, none⟩) zN).trans y3; have s4 := (hSw.cell (p := ⟨NB, 4, none⟩) zN).trans y4; clear hSw); go_simp; (first | done | with_reducible rfl))); (try simp only [Act.put, List.setIfInBounds_toArray, List.set_cons_zero, List.set_cons_succ]))
        (refine wpAnyH_take (i := 9) (oi := { dst := some 38, op := Go.Op.load 67 (Go.Operand.tmp 37), type := 67, pos := _, after := #[{ on := 8, ground := Go.Ground.data }], guard := none }) (v := ?_) rfl (by kernel_rfl) (by kernel_rfl) (by kernel_rfl) (fun _ _ _ h => h) (Or.inl ⟨by rfl, ?_⟩) (by assumption) ?_; rotate_left 1; (focus (intro w hSw; (have s0 := (hSw.cell (p := ⟨NB, 0, none⟩) zN).trans y0; have s1 := (hSw.cell (p := ⟨NB, 1, none⟩) zN).trans y1; have s2 := (hSw.cell (p := ⟨NB, 2, none⟩) zN).trans y2; have s3 := (hSw.cell (p := ⟨NB, 3, none⟩) zN).trans y3; have s4 := (hSw.cell (p := ⟨NB, 4, none⟩) zN).trans y4; clear hSw); go_simp; (first | done | with_reducible rfl))); (try simp only [Act.put, List.setIfInBounds_toArray, List.set_cons_zero, List.set_cons_succ]))
        (refine wpAnyH_take (i := 10) (oi := { dst := some 39, op := Go.Op.binOp Go.BinOp.rem 67 (Go.Operand.tmp 38) (Go.Operand.const (Go.Value.int Go.IntKind.u16 1000)) 67, type := 67, pos := _, after := #[{ on := 9, ground := Go.Ground.data }], guard := none }) (v := ?_) rfl (by kernel_rfl) (by kernel_rfl) (by kernel_rfl) (fun _ _ _ h => h) (Or.inl ⟨by rfl, ?_⟩) (by assumption) ?_; rotate_left 1; (focus (intro w hSw; (have s0 := (hSw.cell (p := ⟨NB, 0, none⟩) zN).trans y0; have s1 := (hSw.cell (p := ⟨NB, 1, none⟩) zN).trans y1; have s2 := (hSw.cell (p := ⟨NB, 2, none⟩) zN).trans y2; have s3 := (hSw.cell (p := ⟨NB, 3, none⟩) zN).trans y3; have s4 := (hSw.cell (p := ⟨NB, 4, none⟩) zN).trans y4; clear hSw); go_simp; (first | done | with_reducible rfl))); (try simp only [Act.put, List.setIfInBounds_toArray, List.set_cons_zero, List.set_cons_succ]))
        (refine wpAnyH_take (i := 11) (oi := { dst := some 40, op := Go.Op.convert 67 2 (Go.Operand.tmp 39), type := 2, pos := _, after := #[{ on := 10, ground := Go.Ground.data }], guard := none }) (v := ?_) rfl (by kernel_rfl) (by kernel_rfl) (by kernel_rfl) (fun _ _ _ h => h) (Or.inl ⟨by rfl, ?_⟩) (by assumption) ?_; rotate_left 1; (focus (intro w hSw; (have s0 := (hSw.cell (p := ⟨NB, 0, none⟩) zN).trans y0; have s1 := (hSw.cell (p := ⟨NB, 1, none⟩) zN).trans y1; have s2 := (hSw.cell (p := ⟨NB, 2, none⟩) zN).trans y2; have s3 := (hSw.cell (p := ⟨NB, 3, none⟩) zN).trans y3; have s4 := (hSw.cell (p := ⟨NB, 4, none⟩) zN).trans y4; clear hSw); go_simp; (first | done | with_reducible rfl))); (try simp only [Act.put, List.setIfInBounds_toArray, List.set_cons_zero, List.set_cons_succ]))
        (refine wpAnyH_take (i := 12) (oi := { dst := some 41, op := Go.Op.binOp Go.BinOp.add 2 (Go.Operand.tmp 40) (Go.Operand.const (Go.Value.int Go.IntKind.i64 1)) 2, type := 2, pos := _, after := #[{ on := 11, ground := Go.Ground.data }], guard := none }) (v := ?_) rfl (by kernel_rfl) (by kernel_rfl) (by kernel_rfl) (fun _ _ _ h => h) (Or.inl ⟨by rfl, ?_⟩) (by assumption) ?_; rotate_left 1; (focus (intro w hSw; (have s0 := (hSw.cell (p := ⟨NB, 0, none⟩) zN).trans y0; have s1 := (hSw.cell (p := ⟨NB, 1, none⟩) zN).trans y1; have s2 := (hSw.cell (p := ⟨NB, 2, none⟩) zN).trans y2; have s3 := (hSw.cell (p := ⟨NB, 3, none⟩) zN).trans y3; have s4 := (hSw.cell (p := ⟨NB, 4, none⟩) zN).trans y4; clear hSw); go_simp; (first | done | with_reducible rfl))); (try simp only [Act.put, List.setIfInBounds_toArray, List.set_cons_zero, List.set_cons_succ]))
        (refine wpAnyH_take (i := 13) (oi := { dst := some 42, op := Go.Op.move (Go.Operand.tmp 8), type := 80, pos := _, after := #[], guard := none }) (v := ?_) rfl (by kernel_rfl) (by kernel_rfl) (by kernel_rfl) (fun _ _ _ h => h) (Or.inl ⟨by rfl, ?_⟩) (by assumption) ?_; rotate_left 1; (focus (intro w hSw; (have s0 := (hSw.cell (p := ⟨NB, 0, none⟩) zN).trans y0; have s1 := (hSw.cell (p := ⟨NB, 1, none⟩) zN).trans y1; have s2 := (hSw.cell (p := ⟨NB, 2, none⟩) zN).trans y2; have s3 := (hSw.cell (p := ⟨NB, 3, none⟩) zN).trans y3; have s4 := (hSw.cell (p := ⟨NB, 4, none⟩) zN).trans y4; clear hSw); go_simp; (first | done | with_reducible rfl))); (try simp only [Act.put, List.setIfInBounds_toArray, List.set_cons_zero, List.set_cons_succ]))
        (refine wpAnyH_take (i := 14) (oi := { dst := some 43, op := Go.Op.fieldAddr 69 (Go.Operand.tmp 7) 2, type := 0, pos := _, after := #[], guard := none }) (v := ?_) rfl (by kernel_rfl) (by kernel_rfl) (by kernel_rfl) (fun _ _ _ h => h) (Or.inl ⟨by rfl, ?_⟩) (by assumption) ?_; rotate_left 1; (focus (intro w hSw; (have s0 := (hSw.cell (p := ⟨NB, 0, none⟩) zN).trans y0; have s1 := (hSw.cell (p := ⟨NB, 1, none⟩) zN).trans y1; have s2 := (hSw.cell (p := ⟨NB, 2, none⟩) zN).trans y2; have s3 := (hSw.cell (p := ⟨NB, 3, none⟩) zN).trans y3; have s4 := (hSw.cell (p := ⟨NB, 4, none⟩) zN).trans y4; clear hSw); go_simp; (first | done | with_reducible rfl))); (try simp only [Act.put, List.setIfInBounds_toArray, List.set_cons_zero, List.set_cons_succ]))
        (refine wpAnyH_take (i := 15) (oi := { dst := some 44, op := Go.Op.load 5 (Go.Operand.tmp 43), type := 5, pos := _, after := #[{ on := 14, ground := Go.Ground.data }], guard := none }) (v := ?_) rfl (by kernel_rfl) (by kernel_rfl) (by kernel_rfl) (fun _ _ _ h => h) (Or.inl ⟨by rfl, ?_⟩) (by assumption) ?_; rotate_left 1; (focus (intro w hSw; (have s0 := (hSw.cell (p := ⟨NB, 0, none⟩) zN).trans y0; have s1 := (hSw.cell (p := ⟨NB, 1, none⟩) zN).trans y1; have s2 := (hSw.cell (p := ⟨NB, 2, none⟩) zN).trans y2; have s3 := (hSw.cell (p := ⟨NB, 3, none⟩) zN).trans y3; have s4 := (hSw.cell (p := ⟨NB, 4, none⟩) zN).trans y4; clear hSw); go_simp; (first | done | with_reducible rfl))); (try simp only [Act.put, List.setIfInBounds_toArray, List.set_cons_zero, List.set_cons_succ]))
        (refine wpAnyH_take (i := 16) (oi := { dst := some 45, op := Go.Op.binOp Go.BinOp.rem 5 (Go.Operand.tmp 44) (Go.Operand.const (Go.Value.int Go.IntKind.u8 20)) 5, type := 5, pos := _, after := #[{ on := 15, ground := Go.Ground.data }], guard := none }) (v := ?_) rfl (by kernel_rfl) (by kernel_rfl) (by kernel_rfl) (fun _ _ _ h => h) (Or.inl ⟨by rfl, ?_⟩) (by assumption) ?_; rotate_left 1; (focus (intro w hSw; (have s0 := (hSw.cell (p := ⟨NB, 0, none⟩) zN).trans y0; have s1 := (hSw.cell (p := ⟨NB, 1, none⟩) zN).trans y1; have s2 := (hSw.cell (p := ⟨NB, 2, none⟩) zN).trans y2; have s3 := (hSw.cell (p := ⟨NB, 3, none⟩) zN).trans y3; have s4 := (hSw.cell (p := ⟨NB, 4, none⟩) zN).trans y4; clear hSw); go_simp; (first | done | with_reducible rfl))); (try simp only [Act.put, List.setIfInBounds_toArray, List.set_cons_zero, List.set_cons_succ]))
        (refine wpAnyH_take (i := 17) (oi := { dst := some 46, op := Go.Op.convert 5 2 (Go.Operand.tmp 45), type := 2, pos := _, after := #[{ on := 16, ground := Go.Ground.data }], guard := none }) (v := ?_) rfl (by kernel_rfl) (by kernel_rfl) (by kernel_rfl) (fun _ _ _ h => h) (Or.inl ⟨by rfl, ?_⟩) (by assumption) ?_; rotate_left 1; (focus (intro w hSw; (have s0 := (hSw.cell (p := ⟨NB, 0, none⟩) zN).trans y0; have s1 := (hSw.cell (p := ⟨NB, 1, none⟩) zN).trans y1; have s2 := (hSw.cell (p := ⟨NB, 2, none⟩) zN).trans y2; have s3 := (hSw.cell (p := ⟨NB, 3, none⟩) zN).trans y3; have s4 := (hSw.cell (p := ⟨NB, 4, none⟩) zN).trans y4; clear hSw); go_simp; (first | done | with_reducible rfl))); (try simp only [Act.put, List.setIfInBounds_toArray, List.set_cons_zero, List.set_cons_succ]))
        (refine wpAnyH_take (i := 18) (oi := { dst := some 47, op := Go.Op.binOp Go.BinOp.add 2 (Go.Operand.tmp 46) (Go.Operand.const (Go.Value.int Go.IntKind.i64 1)) 2, type := 2, pos := _, after := #[{ on := 17, ground := Go.Ground.data }], guard := none }) (v := ?_) rfl (by kernel_rfl) (by kernel_rfl) (by kernel_rfl) (fun _ _ _ h => h) (Or.inl ⟨by rfl, ?_⟩) (by assumption) ?_; rotate_left 1; (focus (intro w hSw; (have s0 := (hSw.cell (p := ⟨NB, 0, none⟩) zN).trans y0; have s1 := (hSw.cell (p := ⟨NB, 1, none⟩) zN).trans y1; have s2 := (hSw.cell (p := ⟨NB, 2, none⟩) zN).trans y2; have s3 := (hSw.cell (p := ⟨NB, 3, none⟩) zN).trans y3; have s4 := (hSw.cell (p := ⟨NB, 4, none⟩) zN).trans y4; clear hSw); go_simp; (first | done | with_reducible rfl))); (try simp only [Act.put, List.setIfInBounds_toArray, List.set_cons_zero, List.set_cons_succ]))
        refine wpAnyH_ready (rs := [1, 20]) (by kernel_rfl) (by simp) ?_
        refine (AllReadyH.cons (o := { dst := some 30, op := Go.Op.call { callee := Go.Callee.value (Go.Operand.func 17), args := #[Go.Operand.tmp 29], argTypes := #[3] }, type := 57, pos := _, after := #[{ on := 0, ground := Go.Ground.data }], guard := none }) rfl (fun K hK => ?_) (AllReadyH.cons (o := { dst := some 9, op := Go.Op.alloc 99, type := 0, pos := _, after := #[], guard := none }) rfl (fun K hK => ?_) AllReadyH.nil))
        · go_simp
          go_wp2_with (go_at_call 17; refine (hid _).mono ?_; rintro e w6 ⟨rfl, hB6⟩)
          refine hK.out _ _ (hHeld.trans (hB6.mono hHeld.size)) (fun hS6 => ?_)
          clear hK K
          (try simp only [Act.put, List.setIfInBounds_toArray, List.set_cons_zero, List.set_cons_succ])
          refine wpAnyH_ready (rs := [3, 20]) (by kernel_rfl) (by simp) ?_
          refine (AllReadyH.cons (o := { dst := some 32, op := Go.Op.call { callee := Go.Callee.value (Go.Operand.func 18), args := #[Go.Operand.tmp 31], argTypes := #[69] }, type := 30, pos := _, after := #[{ on := 2, ground := Go.Ground.data }, { on := 1, ground := Go.Ground.chain }], guard := none }) rfl (fun K hK => ?_) (AllReadyH.cons (o := { dst := some 9, op := Go.Op.alloc 99, type := 0, pos := _, after := #[], guard := none }) rfl (fun K hK => ?_) AllReadyH.nil))
          · go_simp
            go_wp2_with (go_at_call 18; refine (hsd _).mono ?_; rintro e w7 ⟨rfl, hB7⟩)
            refine hK.out _ _ (hS6.trans (hB7.mono hS6.size)) (fun hS7 => ?_)
            clear hK K
            (try simp only [Act.put, List.setIfInBounds_toArray, List.set_cons_zero, List.set_cons_succ])
            (refine wpAnyH_take (i := 19) (oi := { dst := some 48, op := Go.Op.build 99 #[(0, Go.Operand.tmp 30), (1, Go.Operand.const (Go.Value.string { data := #[83] })), (2, Go.Operand.tmp 32), (3, Go.Operand.tmp 36), (4, Go.Operand.tmp 41), (5, Go.Operand.tmp 42), (6, Go.Operand.tmp 47)], type := 99, pos := _, after := #[{ on := 1, ground := Go.Ground.data }, { on := 3, ground := Go.Ground.data }, { on := 7, ground := Go.Ground.data }, { on := 12, ground := Go.Ground.data }, { on := 13, ground := Go.Ground.data }, { on := 18, ground := Go.Ground.data }], guard := none }) (v := ?_) rfl (by kernel_rfl) (by kernel_rfl) (by kernel_rfl) (fun _ _ _ h => h) (Or.inl ⟨by rfl, ?_⟩) (by assumption) ?_; rotate_left 1; (focus (intro w hSw; (have s0 := (hSw.cell (p := ⟨NB, 0, none⟩) zN).trans y0; have s1 := (hSw.cell (p := ⟨NB, 1, none⟩) zN).trans y1; have s2 := (hSw.cell (p := ⟨NB, 2, none⟩) zN).trans y2; have s3 := (hSw.cell (p := ⟨NB, 3, none⟩) zN).trans y3; have s4 := (hSw.cell (p := ⟨NB, 4, none⟩) zN).trans y4; clear hSw); go_simp; (first | done | with_reducible rfl))); (try simp only [Act.put, List.setIfInBounds_toArray, List.set_cons_zero, List.set_cons_succ]))
            refine wpAnyH_ready (rs := [20]) (by kernel_rfl) (by simp) ?_
            refine (AllReadyH.cons (o := { dst := some 9, op := Go.Op.alloc 99, type := 0, pos := _, after := #[], guard := none }) rfl (fun K hK => ?_) AllReadyH.nil)
            go_simp
            have hX : Blk ((w7).alloc (.cells #[.int .u64 0, .int .u64 0, .string ⟨#[]⟩, .int .u8 0, .int .i64 0, .int .i64 0, .int .u8 0, .int .i64 0, .int .u8 0] 99)) (w7.heap.size) 99 9 := Blk.new (w7) #[.int .u64 0, .int .u64 0, .string ⟨#[]⟩, .int .u8 0, .int .i64 0, .int .i64 0, .int .u8 0, .int .i64 0, .int .u8 0] 99 (Nat.le_trans zB hS7.size)
            have hXg : W5.heap.size ≤ w7.heap.size := hS7.size
            refine hK.out _ _ (hS7.alloc hS7.size _) (fun hSa => ?_)
            clear hK K
            (try simp only [Act.put, List.setIfInBounds_toArray, List.set_cons_zero, List.set_cons_succ])
            refine wpAnyH_ready (rs := [21]) (by kernel_rfl) (by simp) ?_
            refine (AllReadyH.cons (o := { dst := none, op := Go.Op.store 99 (Go.Operand.tmp 9) (Go.Operand.tmp 48), type := 0, pos := _, after := #[{ on := 20, ground := Go.Ground.data }, { on := 19, ground := Go.Ground.data }, { on := 3, ground := Go.Ground.chain }, { on := 0, ground := Go.Ground.phase }, { on := 1, ground := Go.Ground.phase }, { on := 2, ground := Go.Ground.phase }, { on := 3, ground := Go.Ground.phase }, { on := 4, ground := Go.Ground.phase }, { on := 5, ground := Go.Ground.phase }, { on := 6, ground := Go.Ground.phase }, { on := 7, ground := Go.Ground.phase }, { on := 8, ground := Go.Ground.phase }, { on := 9, ground := Go.Ground.phase }, { on := 10, ground := Go.Ground.phase }, { on := 11, ground := Go.Ground.phase }, { on := 12, ground := Go.Ground.phase }, { on := 13, ground := Go.Ground.phase }, { on := 14, ground := Go.Ground.phase }, { on := 15, ground := Go.Ground.phase }, { on := 16, ground := Go.Ground.phase }, { on := 17, ground := Go.Ground.phase }, { on := 18, ground := Go.Ground.phase }, { on := 19, ground := Go.Ground.phase }, { on := 20, ground := Go.Ground.phase }], guard := none }) rfl (fun K hK => ?_) AllReadyH.nil)
            refine step_store_mid rfl 99 (.tmp 9) (.tmp 48) rfl (w7.heap.size) 0 (#[.int .u64 7, .int .u64 t, .string ⟨#[83]⟩, .int .u8 (sdI (sl t)), .int .i64 (IntKind.i64.wrap ((li t).tmod 21)), .int .i64 (IntKind.i64.wrap (IntKind.i64.wrap ((qy t).tmod 1000) + 1)), .int .u8 1, .int .i64 (IntKind.i64.wrap (IntKind.i64.wrap ((st t).tmod 20) + 1)), .int .u8 0] : Array Value) rfl rfl hX.there size99 (one_box _ _ _ _ _ _ _) ?_
            have hS9 := below_sets hSa hXg (#[.int .u64 7, .int .u64 t, .string ⟨#[83]⟩, .int .u8 (sdI (sl t)), .int .i64 (IntKind.i64.wrap ((li t).tmod 21)), .int .i64 (IntKind.i64.wrap (IntKind.i64.wrap ((qy t).tmod 1000) + 1)), .int .u8 1, .int .i64 (IntKind.i64.wrap (IntKind.i64.wrap ((st t).tmod 20) + 1)), .int .u8 0] : Array Value).toList 0
            have hXc := Bk.sets hX (#[.int .u64 7, .int .u64 t, .string ⟨#[83]⟩, .int .u8 (sdI (sl t)), .int .i64 (IntKind.i64.wrap ((li t).tmod 21)), .int .i64 (IntKind.i64.wrap (IntKind.i64.wrap ((qy t).tmod 1000) + 1)), .int .u8 1, .int .i64 (IntKind.i64.wrap (IntKind.i64.wrap ((st t).tmod 20) + 1)), .int .u8 0] : Array Value).toList rfl
            generalize hwF : World.setCells (w7.alloc (.cells #[.int .u64 0, .int .u64 0, .string ⟨#[]⟩, .int .u8 0, .int .i64 0, .int .i64 0, .int .u8 0, .int .i64 0, .int .u8 0] 99)) (w7.heap.size) 0 (#[.int .u64 7, .int .u64 t, .string ⟨#[83]⟩, .int .u8 (sdI (sl t)), .int .i64 (IntKind.i64.wrap ((li t).tmod 21)), .int .i64 (IntKind.i64.wrap (IntKind.i64.wrap ((qy t).tmod 1000) + 1)), .int .u8 1, .int .i64 (IntKind.i64.wrap (IntKind.i64.wrap ((st t).tmod 20) + 1)), .int .u8 0] : Array Value).toList = wF at hS9 hXc ⊢
            clear hwF
            refine hK.out _ _ hS9 (fun _ => ?_)
            clear hK K
            (try simp only [Act.put, List.setIfInBounds_toArray, List.set_cons_zero, List.set_cons_succ])
            refine wpAnyH_done (by kernel_rfl) ?_ _
            have hC := HC.out.1
            have hBr : Below wr.heap.size wr wF := ((by rw [HW.out.1]; exact (Below.refl _ _).alloc (Nat.le_refl _) _ : Below wr.heap.size wr W5)).trans (hS9.mono (by rw [HW.out.1]; simp))
            have z0 : wF.cell? ⟨w7.heap.size, 0, none⟩ = some (.int .u64 7) := hXc.cell 0 (by omega)
            have z1 : wF.cell? ⟨w7.heap.size, 1, none⟩ = some (.int .u64 t) := hXc.cell 1 (by omega)
            have z2 : wF.cell? ⟨w7.heap.size, 2, none⟩ = some (.string ⟨#[83]⟩) := hXc.cell 2 (by omega)
            have z3 : wF.cell? ⟨w7.heap.size, 3, none⟩ = some (.int .u8 (sdI (sl t))) := hXc.cell 3 (by omega)
            have z4 : wF.cell? ⟨w7.heap.size, 4, none⟩ = some (.int .i64 (li t % 21)) := (hXc.cell 4 (by omega)).trans (congrArg (fun x => some (Value.int .i64 x)) wl.out)
            have z5 : wF.cell? ⟨w7.heap.size, 5, none⟩ = some (.int .i64 (qy t % 1000 + 1)) := (hXc.cell 5 (by omega)).trans (congrArg (fun x => some (Value.int .i64 x)) wq.out)
            have z6 : wF.cell? ⟨w7.heap.size, 6, none⟩ = some (.int .u8 1) := hXc.cell 6 (by omega)
            have z7 : wF.cell? ⟨w7.heap.size, 7, none⟩ = some (.int .i64 (st t % 20 + 1)) := (hXc.cell 7 (by omega)).trans (congrArg (fun x => some (Value.int .i64 x)) wp.out)
            have z8 : wF.cell? ⟨w7.heap.size, 8, none⟩ = some (.int .u8 0) := hXc.cell 8 (by omega)
            have hwt := wait_any (m := t) (c := t) (hC.ph.below hBr) hC.lg (hC.map.kept (hBr.block _ hC.map.lt)) (by omega) (by omega) (by omega) (hC.levn t (Nat.le_refl _)) hC.pn hC.ec1 hC.ec3 (sdI (sl t)) 1 (st t % 20 + 1) (qy t % 1000 + 1) (li t % 21) false rfl (by omega) (by omega)
            clear hC hid hsd hS9 hXc
            go_wp2_with (go_at_call 27; refine hwt.mono ?_; rintro e w9 ⟨rfl, ob', g', q', tot', lev', hW⟩)
            go_roundw
            case rel =>
              have hW' : Wtd ob ob' t t (W.heap.size + 2) w2.heap.size (W.heap.size + 1) g g' q q' tot' lev lev' M t t (plainS en sl st li qy t).entry (sdI (plainS en sl st li qy t).sell) (plainS en sl st li qy t).sp (plainS en sl st li qy t).qty (plainS en sl st li qy t).lim wF w9 := by
                show Wtd _ _ _ _ _ _ _ _ _ _ _ _ _ _ _ _ _ (en t) _ _ _ _ _ _
                rw [HEN.out]
                exact hW
              exact ⟨t + 1, ob', g', q', tot', lev', upN M t (some (ob' t)), by omega, by simp, HC.out.1.next hBr hW'⟩
            case measure => simp [intOf]; omega
          · go_simp
            have hX : Blk ((w6).alloc (.cells #[.int .u64 0, .int .u64 0, .string ⟨#[]⟩, .int .u8 0, .int .i64 0, .int .i64 0, .int .u8 0, .int .i64 0, .int .u8 0] 99)) (w6.heap.size) 99 9 := Blk.new (w6) #[.int .u64 0, .int .u64 0, .string ⟨#[]⟩, .int .u8 0, .int .i64 0, .int .i64 0, .int .u8 0, .int .i64 0, .int .u8 0] 99 (Nat.le_trans zB hS6.size)
            have hXg : W5.heap.size ≤ w6.heap.size := hS6.size
            refine hK.out _ _ (hS6.alloc hS6.size _) (fun hSa => ?_)
            clear hK K
            (try simp only [Act.put, List.setIfInBounds_toArray, List.set_cons_zero, List.set_cons_succ])
            refine wpAnyH_ready (rs := [3]) (by kernel_rfl) (by simp) ?_
            refine (AllReadyH.cons (o := { dst := some 32, op := Go.Op.call { callee := Go.Callee.value (Go.Operand.func 18), args := #[Go.Operand.tmp 31], argTypes := #[69] }, type := 30, pos := _, after := #[{ on := 2, ground := Go.Ground.data }, { on := 1, ground := Go.Ground.chain }], guard := none }) rfl (fun K hK => ?_) AllReadyH.nil)
            go_simp
            go_wp2_with (go_at_call 18; refine (hsd _).mono ?_; rintro e w7 ⟨rfl, hB7⟩)
            refine hK.out _ _ (hSa.trans (hB7.mono hSa.size)) (fun hS7 => ?_)
            clear hK K
            (try simp only [Act.put, List.setIfInBounds_toArray, List.set_cons_zero, List.set_cons_succ])
            replace hX := hX.shp (Shp.below hB7)
            (refine wpAnyH_take (i := 19) (oi := { dst := some 48, op := Go.Op.build 99 #[(0, Go.Operand.tmp 30), (1, Go.Operand.const (Go.Value.string { data := #[83] })), (2, Go.Operand.tmp 32), (3, Go.Operand.tmp 36), (4, Go.Operand.tmp 41), (5, Go.Operand.tmp 42), (6, Go.Operand.tmp 47)], type := 99, pos := _, after := #[{ on := 1, ground := Go.Ground.data }, { on := 3, ground := Go.Ground.data }, { on := 7, ground := Go.Ground.data }, { on := 12, ground := Go.Ground.data }, { on := 13, ground := Go.Ground.data }, { on := 18, ground := Go.Ground.data }], guard := none }) (v := ?_) rfl (by kernel_rfl) (by kernel_rfl) (by kernel_rfl) (fun _ _ _ h => h) (Or.inl ⟨by rfl, ?_⟩) (by assumption) ?_; rotate_left 1; (focus (intro w hSw; (have s0 := (hSw.cell (p := ⟨NB, 0, none⟩) zN).trans y0; have s1 := (hSw.cell (p := ⟨NB, 1, none⟩) zN).trans y1; have s2 := (hSw.cell (p := ⟨NB, 2, none⟩) zN).trans y2; have s3 := (hSw.cell (p := ⟨NB, 3, none⟩) zN).trans y3; have s4 := (hSw.cell (p := ⟨NB, 4, none⟩) zN).trans y4; clear hSw); go_simp; (first | done | with_reducible rfl))); (try simp only [Act.put, List.setIfInBounds_toArray, List.set_cons_zero, List.set_cons_succ]))
            refine wpAnyH_ready (rs := [21]) (by kernel_rfl) (by simp) ?_
            refine (AllReadyH.cons (o := { dst := none, op := Go.Op.store 99 (Go.Operand.tmp 9) (Go.Operand.tmp 48), type := 0, pos := _, after := #[{ on := 20, ground := Go.Ground.data }, { on := 19, ground := Go.Ground.data }, { on := 3, ground := Go.Ground.chain }, { on := 0, ground := Go.Ground.phase }, { on := 1, ground := Go.Ground.phase }, { on := 2, ground := Go.Ground.phase }, { on := 3, ground := Go.Ground.phase }, { on := 4, ground := Go.Ground.phase }, { on := 5, ground := Go.Ground.phase }, { on := 6, ground := Go.Ground.phase }, { on := 7, ground := Go.Ground.phase }, { on := 8, ground := Go.Ground.phase }, { on := 9, ground := Go.Ground.phase }, { on := 10, ground := Go.Ground.phase }, { on := 11, ground := Go.Ground.phase }, { on := 12, ground := Go.Ground.phase }, { on := 13, ground := Go.Ground.phase }, { on := 14, ground := Go.Ground.phase }, { on := 15, ground := Go.Ground.phase }, { on := 16, ground := Go.Ground.phase }, { on := 17, ground := Go.Ground.phase }, { on := 18, ground := Go.Ground.phase }, { on := 19, ground := Go.Ground.phase }, { on := 20, ground := Go.Ground.phase }], guard := none }) rfl (fun K hK => ?_) AllReadyH.nil)
            refine step_store_mid rfl 99 (.tmp 9) (.tmp 48) rfl (w6.heap.size) 0 (#[.int .u64 7, .int .u64 t, .string ⟨#[83]⟩, .int .u8 (sdI (sl t)), .int .i64 (IntKind.i64.wrap ((li t).tmod 21)), .int .i64 (IntKind.i64.wrap (IntKind.i64.wrap ((qy t).tmod 1000) + 1)), .int .u8 1, .int .i64 (IntKind.i64.wrap (IntKind.i64.wrap ((st t).tmod 20) + 1)), .int .u8 0] : Array Value) rfl rfl hX.there size99 (one_box _ _ _ _ _ _ _) ?_
            have hS9 := below_sets hS7 hXg (#[.int .u64 7, .int .u64 t, .string ⟨#[83]⟩, .int .u8 (sdI (sl t)), .int .i64 (IntKind.i64.wrap ((li t).tmod 21)), .int .i64 (IntKind.i64.wrap (IntKind.i64.wrap ((qy t).tmod 1000) + 1)), .int .u8 1, .int .i64 (IntKind.i64.wrap (IntKind.i64.wrap ((st t).tmod 20) + 1)), .int .u8 0] : Array Value).toList 0
            have hXc := Bk.sets hX (#[.int .u64 7, .int .u64 t, .string ⟨#[83]⟩, .int .u8 (sdI (sl t)), .int .i64 (IntKind.i64.wrap ((li t).tmod 21)), .int .i64 (IntKind.i64.wrap (IntKind.i64.wrap ((qy t).tmod 1000) + 1)), .int .u8 1, .int .i64 (IntKind.i64.wrap (IntKind.i64.wrap ((st t).tmod 20) + 1)), .int .u8 0] : Array Value).toList rfl
            generalize hwF : World.setCells (w7) (w6.heap.size) 0 (#[.int .u64 7, .int .u64 t, .string ⟨#[83]⟩, .int .u8 (sdI (sl t)), .int .i64 (IntKind.i64.wrap ((li t).tmod 21)), .int .i64 (IntKind.i64.wrap (IntKind.i64.wrap ((qy t).tmod 1000) + 1)), .int .u8 1, .int .i64 (IntKind.i64.wrap (IntKind.i64.wrap ((st t).tmod 20) + 1)), .int .u8 0] : Array Value).toList = wF at hS9 hXc ⊢
            clear hwF
            refine hK.out _ _ hS9 (fun _ => ?_)
            clear hK K
            (try simp only [Act.put, List.setIfInBounds_toArray, List.set_cons_zero, List.set_cons_succ])
            refine wpAnyH_done (by kernel_rfl) ?_ _
            have hC := HC.out.1
            have hBr : Below wr.heap.size wr wF := ((by rw [HW.out.1]; exact (Below.refl _ _).alloc (Nat.le_refl _) _ : Below wr.heap.size wr W5)).trans (hS9.mono (by rw [HW.out.1]; simp))
            have z0 : wF.cell? ⟨w6.heap.size, 0, none⟩ = some (.int .u64 7) := hXc.cell 0 (by omega)
            have z1 : wF.cell? ⟨w6.heap.size, 1, none⟩ = some (.int .u64 t) := hXc.cell 1 (by omega)
            have z2 : wF.cell? ⟨w6.heap.size, 2, none⟩ = some (.string ⟨#[83]⟩) := hXc.cell 2 (by omega)
            have z3 : wF.cell? ⟨w6.heap.size, 3, none⟩ = some (.int .u8 (sdI (sl t))) := hXc.cell 3 (by omega)
            have z4 : wF.cell? ⟨w6.heap.size, 4, none⟩ = some (.int .i64 (li t % 21)) := (hXc.cell 4 (by omega)).trans (congrArg (fun x => some (Value.int .i64 x)) wl.out)
            have z5 : wF.cell? ⟨w6.heap.size, 5, none⟩ = some (.int .i64 (qy t % 1000 + 1)) := (hXc.cell 5 (by omega)).trans (congrArg (fun x => some (Value.int .i64 x)) wq.out)
            have z6 : wF.cell? ⟨w6.heap.size, 6, none⟩ = some (.int .u8 1) := hXc.cell 6 (by omega)
            have z7 : wF.cell? ⟨w6.heap.size, 7, none⟩ = some (.int .i64 (st t % 20 + 1)) := (hXc.cell 7 (by omega)).trans (congrArg (fun x => some (Value.int .i64 x)) wp.out)
            have z8 : wF.cell? ⟨w6.heap.size, 8, none⟩ = some (.int .u8 0) := hXc.cell 8 (by omega)
            have hwt := wait_any (m := t) (c := t) (hC.ph.below hBr) hC.lg (hC.map.kept (hBr.block _ hC.map.lt)) (by omega) (by omega) (by omega) (hC.levn t (Nat.le_refl _)) hC.pn hC.ec1 hC.ec3 (sdI (sl t)) 1 (st t % 20 + 1) (qy t % 1000 + 1) (li t % 21) false rfl (by omega) (by omega)
            clear hC hid hsd hS9 hXc
            go_wp2_with (go_at_call 27; refine hwt.mono ?_; rintro e w9 ⟨rfl, ob', g', q', tot', lev', hW⟩)
            go_roundw
            case rel =>
              have hW' : Wtd ob ob' t t (W.heap.size + 2) w2.heap.size (W.heap.size + 1) g g' q q' tot' lev lev' M t t (plainS en sl st li qy t).entry (sdI (plainS en sl st li qy t).sell) (plainS en sl st li qy t).sp (plainS en sl st li qy t).qty (plainS en sl st li qy t).lim wF w9 := by
                show Wtd _ _ _ _ _ _ _ _ _ _ _ _ _ _ _ _ _ (en t) _ _ _ _ _ _
                rw [HEN.out]
                exact hW
              exact ⟨t + 1, ob', g', q', tot', lev', upN M t (some (ob' t)), by omega, by simp, HC.out.1.next hBr hW'⟩
            case measure => simp [intOf]; omega
        · go_simp
          have hX : Blk ((W5.drew).alloc (.cells #[.int .u64 0, .int .u64 0, .string ⟨#[]⟩, .int .u8 0, .int .i64 0, .int .i64 0, .int .u8 0, .int .i64 0, .int .u8 0] 99)) (W5.heap.size) 99 9 := Blk.new (W5.drew) #[.int .u64 0, .int .u64 0, .string ⟨#[]⟩, .int .u8 0, .int .i64 0, .int .i64 0, .int .u8 0, .int .i64 0, .int .u8 0] 99 (Nat.le_trans zB hHeld.size)
          have hXg : W5.heap.size ≤ W5.heap.size := hHeld.size
          refine hK.out _ _ (hHeld.alloc hHeld.size _) (fun hSa => ?_)
          clear hK K
          (try simp only [Act.put, List.setIfInBounds_toArray, List.set_cons_zero, List.set_cons_succ])
          refine wpAnyH_ready (rs := [1]) (by kernel_rfl) (by simp) ?_
          refine (AllReadyH.cons (o := { dst := some 30, op := Go.Op.call { callee := Go.Callee.value (Go.Operand.func 17), args := #[Go.Operand.tmp 29], argTypes := #[3] }, type := 57, pos := _, after := #[{ on := 0, ground := Go.Ground.data }], guard := none }) rfl (fun K hK => ?_) AllReadyH.nil)
          go_simp
          go_wp2_with (go_at_call 17; refine (hid _).mono ?_; rintro e w6 ⟨rfl, hB6⟩)
          refine hK.out _ _ (hSa.trans (hB6.mono hSa.size)) (fun hS6 => ?_)
          clear hK K
          (try simp only [Act.put, List.setIfInBounds_toArray, List.set_cons_zero, List.set_cons_succ])
          replace hX := hX.shp (Shp.below hB6)
          refine wpAnyH_ready (rs := [3]) (by kernel_rfl) (by simp) ?_
          refine (AllReadyH.cons (o := { dst := some 32, op := Go.Op.call { callee := Go.Callee.value (Go.Operand.func 18), args := #[Go.Operand.tmp 31], argTypes := #[69] }, type := 30, pos := _, after := #[{ on := 2, ground := Go.Ground.data }, { on := 1, ground := Go.Ground.chain }], guard := none }) rfl (fun K hK => ?_) AllReadyH.nil)
          go_simp
          go_wp2_with (go_at_call 18; refine (hsd _).mono ?_; rintro e w7 ⟨rfl, hB7⟩)
          refine hK.out _ _ (hS6.trans (hB7.mono hS6.size)) (fun hS7 => ?_)
          clear hK K
          (try simp only [Act.put, List.setIfInBounds_toArray, List.set_cons_zero, List.set_cons_succ])
          replace hX := hX.shp (Shp.below hB7)
          (refine wpAnyH_take (i := 19) (oi := { dst := some 48, op := Go.Op.build 99 #[(0, Go.Operand.tmp 30), (1, Go.Operand.const (Go.Value.string { data := #[83] })), (2, Go.Operand.tmp 32), (3, Go.Operand.tmp 36), (4, Go.Operand.tmp 41), (5, Go.Operand.tmp 42), (6, Go.Operand.tmp 47)], type := 99, pos := _, after := #[{ on := 1, ground := Go.Ground.data }, { on := 3, ground := Go.Ground.data }, { on := 7, ground := Go.Ground.data }, { on := 12, ground := Go.Ground.data }, { on := 13, ground := Go.Ground.data }, { on := 18, ground := Go.Ground.data }], guard := none }) (v := ?_) rfl (by kernel_rfl) (by kernel_rfl) (by kernel_rfl) (fun _ _ _ h => h) (Or.inl ⟨by rfl, ?_⟩) (by assumption) ?_; rotate_left 1; (focus (intro w hSw; (have s0 := (hSw.cell (p := ⟨NB, 0, none⟩) zN).trans y0; have s1 := (hSw.cell (p := ⟨NB, 1, none⟩) zN).trans y1; have s2 := (hSw.cell (p := ⟨NB, 2, none⟩) zN).trans y2; have s3 := (hSw.cell (p := ⟨NB, 3, none⟩) zN).trans y3; have s4 := (hSw.cell (p := ⟨NB, 4, none⟩) zN).trans y4; clear hSw); go_simp; (first | done | with_reducible rfl))); (try simp only [Act.put, List.setIfInBounds_toArray, List.set_cons_zero, List.set_cons_succ]))
          refine wpAnyH_ready (rs := [21]) (by kernel_rfl) (by simp) ?_
          refine (AllReadyH.cons (o := { dst := none, op := Go.Op.store 99 (Go.Operand.tmp 9) (Go.Operand.tmp 48), type := 0, pos := _, after := #[{ on := 20, ground := Go.Ground.data }, { on := 19, ground := Go.Ground.data }, { on := 3, ground := Go.Ground.chain }, { on := 0, ground := Go.Ground.phase }, { on := 1, ground := Go.Ground.phase }, { on := 2, ground := Go.Ground.phase }, { on := 3, ground := Go.Ground.phase }, { on := 4, ground := Go.Ground.phase }, { on := 5, ground := Go.Ground.phase }, { on := 6, ground := Go.Ground.phase }, { on := 7, ground := Go.Ground.phase }, { on := 8, ground := Go.Ground.phase }, { on := 9, ground := Go.Ground.phase }, { on := 10, ground := Go.Ground.phase }, { on := 11, ground := Go.Ground.phase }, { on := 12, ground := Go.Ground.phase }, { on := 13, ground := Go.Ground.phase }, { on := 14, ground := Go.Ground.phase }, { on := 15, ground := Go.Ground.phase }, { on := 16, ground := Go.Ground.phase }, { on := 17, ground := Go.Ground.phase }, { on := 18, ground := Go.Ground.phase }, { on := 19, ground := Go.Ground.phase }, { on := 20, ground := Go.Ground.phase }], guard := none }) rfl (fun K hK => ?_) AllReadyH.nil)
          refine step_store_mid rfl 99 (.tmp 9) (.tmp 48) rfl (W5.heap.size) 0 (#[.int .u64 7, .int .u64 t, .string ⟨#[83]⟩, .int .u8 (sdI (sl t)), .int .i64 (IntKind.i64.wrap ((li t).tmod 21)), .int .i64 (IntKind.i64.wrap (IntKind.i64.wrap ((qy t).tmod 1000) + 1)), .int .u8 1, .int .i64 (IntKind.i64.wrap (IntKind.i64.wrap ((st t).tmod 20) + 1)), .int .u8 0] : Array Value) rfl rfl hX.there size99 (one_box _ _ _ _ _ _ _) ?_
          have hS9 := below_sets hS7 hXg (#[.int .u64 7, .int .u64 t, .string ⟨#[83]⟩, .int .u8 (sdI (sl t)), .int .i64 (IntKind.i64.wrap ((li t).tmod 21)), .int .i64 (IntKind.i64.wrap (IntKind.i64.wrap ((qy t).tmod 1000) + 1)), .int .u8 1, .int .i64 (IntKind.i64.wrap (IntKind.i64.wrap ((st t).tmod 20) + 1)), .int .u8 0] : Array Value).toList 0
          have hXc := Bk.sets hX (#[.int .u64 7, .int .u64 t, .string ⟨#[83]⟩, .int .u8 (sdI (sl t)), .int .i64 (IntKind.i64.wrap ((li t).tmod 21)), .int .i64 (IntKind.i64.wrap (IntKind.i64.wrap ((qy t).tmod 1000) + 1)), .int .u8 1, .int .i64 (IntKind.i64.wrap (IntKind.i64.wrap ((st t).tmod 20) + 1)), .int .u8 0] : Array Value).toList rfl
          generalize hwF : World.setCells (w7) (W5.heap.size) 0 (#[.int .u64 7, .int .u64 t, .string ⟨#[83]⟩, .int .u8 (sdI (sl t)), .int .i64 (IntKind.i64.wrap ((li t).tmod 21)), .int .i64 (IntKind.i64.wrap (IntKind.i64.wrap ((qy t).tmod 1000) + 1)), .int .u8 1, .int .i64 (IntKind.i64.wrap (IntKind.i64.wrap ((st t).tmod 20) + 1)), .int .u8 0] : Array Value).toList = wF at hS9 hXc ⊢
          clear hwF
          refine hK.out _ _ hS9 (fun _ => ?_)
          clear hK K
          (try simp only [Act.put, List.setIfInBounds_toArray, List.set_cons_zero, List.set_cons_succ])
          refine wpAnyH_done (by kernel_rfl) ?_ _
          have hC := HC.out.1
          have hBr : Below wr.heap.size wr wF := ((by rw [HW.out.1]; exact (Below.refl _ _).alloc (Nat.le_refl _) _ : Below wr.heap.size wr W5)).trans (hS9.mono (by rw [HW.out.1]; simp))
          have z0 : wF.cell? ⟨W5.heap.size, 0, none⟩ = some (.int .u64 7) := hXc.cell 0 (by omega)
          have z1 : wF.cell? ⟨W5.heap.size, 1, none⟩ = some (.int .u64 t) := hXc.cell 1 (by omega)
          have z2 : wF.cell? ⟨W5.heap.size, 2, none⟩ = some (.string ⟨#[83]⟩) := hXc.cell 2 (by omega)
          have z3 : wF.cell? ⟨W5.heap.size, 3, none⟩ = some (.int .u8 (sdI (sl t))) := hXc.cell 3 (by omega)
          have z4 : wF.cell? ⟨W5.heap.size, 4, none⟩ = some (.int .i64 (li t % 21)) := (hXc.cell 4 (by omega)).trans (congrArg (fun x => some (Value.int .i64 x)) wl.out)
          have z5 : wF.cell? ⟨W5.heap.size, 5, none⟩ = some (.int .i64 (qy t % 1000 + 1)) := (hXc.cell 5 (by omega)).trans (congrArg (fun x => some (Value.int .i64 x)) wq.out)
          have z6 : wF.cell? ⟨W5.heap.size, 6, none⟩ = some (.int .u8 1) := hXc.cell 6 (by omega)
          have z7 : wF.cell? ⟨W5.heap.size, 7, none⟩ = some (.int .i64 (st t % 20 + 1)) := (hXc.cell 7 (by omega)).trans (congrArg (fun x => some (Value.int .i64 x)) wp.out)
          have z8 : wF.cell? ⟨W5.heap.size, 8, none⟩ = some (.int .u8 0) := hXc.cell 8 (by omega)
          have hwt := wait_any (m := t) (c := t) (hC.ph.below hBr) hC.lg (hC.map.kept (hBr.block _ hC.map.lt)) (by omega) (by omega) (by omega) (hC.levn t (Nat.le_refl _)) hC.pn hC.ec1 hC.ec3 (sdI (sl t)) 1 (st t % 20 + 1) (qy t % 1000 + 1) (li t % 21) false rfl (by omega) (by omega)
          clear hC hid hsd hS9 hXc
          go_wp2_with (go_at_call 27; refine hwt.mono ?_; rintro e w9 ⟨rfl, ob', g', q', tot', lev', hW⟩)
          go_roundw
          case rel =>
            have hW' : Wtd ob ob' t t (W.heap.size + 2) w2.heap.size (W.heap.size + 1) g g' q q' tot' lev lev' M t t (plainS en sl st li qy t).entry (sdI (plainS en sl st li qy t).sell) (plainS en sl st li qy t).sp (plainS en sl st li qy t).qty (plainS en sl st li qy t).lim wF w9 := by
              show Wtd _ _ _ _ _ _ _ _ _ _ _ _ _ _ _ _ _ (en t) _ _ _ _ _ _
              rw [HEN.out]
              exact hW
            exact ⟨t + 1, ob', g', q', tot', lev', upN M t (some (ob' t)), by omega, by simp, HC.out.1.next hBr hW'⟩
          case measure => simp [intOf]; omega
    · obtain rfl : t = n := by omega
      go_wp2
      go_ret2
      exact ⟨_, _, _, ob, g, q, tot, lev, M, rfl, C⟩
end Go.Proofs.Ybulkjrk
