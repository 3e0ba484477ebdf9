/-
  OWN WORK: wait.
-/
import Derived.Test.YbulkjrkW19
namespace Go.Proofs.Ybulkjrk
open Go.RowKit
set_option linter.unusedSimpArgs false
set_option linter.unusedVariables false
set_option linter.unusedSectionVars false
set_option maxRecDepth 100000
variable [Base]
section
variable {ob : Nat → Nat} {m c eb bb mb cnt cm : Nat} {g : Gp} {W W' : World} {q : Nat → List Nat} {tot : Nat → Int} {lev : Nat → Option Nat} {M : Nat → Option Nat}
def kS (entry : Bool) : Nat := if entry then 3 else 2
def stI (entry : Bool) : Int := if entry then 2 else 1
def waits (bb i : Nat) (sv st sp qty lim sq : Int) : List Value := [.int .u64 7, .int .u64 i, .int .u8 sv, .int .u8 st, .int .i64 sp, .int .i64 qty, .int .i64 lim, .int .u64 sq, .pointer (some ⟨bb, 0, none⟩), .pointer none, .pointer none, .pointer none]
/-- What 'wait' leaves: one order more, on its side of waiting stops. -/
structure Wtd (ob ob' : Nat → Nat) (m c eb bb mb : Nat) (g g' : Gp) (q q' : Nat → List Nat) (tot' : Nat → Int) (lev lev' : Nat → Option Nat) (M : Nat → Option Nat) (cnt cm : Nat) (entry : Bool) (sv sp qty lim : Int) (W W' : World) : Prop where
  ob : ∀ i, i < m → ob' i = ob i
  ph : Ph ob' (m + 1) eb bb g' W'
  lg : Lg (m + 1) (c + 1) ob' g' q' tot' lev'
  map : MapIs mb (upN M m (some (ob' m))) (if (M m).isSome then cnt else cnt + 1) (cm + 1) W'
  on : ∀ j, j < 4 → ∀ i p, On g' q' j i p ↔ (On g q j i p ∨ (j = kS entry ∧ i = m ∧ p = sp))
  ocm : ∀ j, j < 9 → g'.oc m j = (waits bb m sv (stI entry) sp qty lim ((m : Int) + 1)).getD j undef
  oco : ∀ i, i ≠ m → ∀ j, j < 9 → g'.oc i j = g.oc i j
  ec3 : g'.ec 3 = .int .u64 ((m : Int) + 1)
  ec : ∀ j, j ≠ 3 → j ≠ 6 → g'.ec j = g.ec j
  pn : g'.pn = g.pn
  px : g'.px = g.px
  lev2 : ∀ i, i ≠ m → lev' i = lev i
  fr : Fr (fun b => Tagged addTags W b ∨ b = mb) W W'
theorem step_store_mid {P : Program} {w : World} {ops : Array Oper} {o : Oper} {a : Act} {K : Act → World → Prop} {Q : Exit → Act → World → Prop} {E : Prop} (hgd : o.guard = none) (ty : TypeId) (x y : Operand) (ho : o.op = .store ty x y)
    (b off : Nat) (cells : Array Value) (hx : a.eval x = .pointer (some ⟨b, off, none⟩)) (hy : a.eval y = .agg cells)
    (ht : w.there b off cells.size) (hi : (P.info? ty).map (·.size) = some cells.size) (h1 : cells.all (·.oneCell') = true)
    (h : K (a.put o.dst undef) (w.setCells b off cells.toList)) : if Region.wanted o (yielded ops a.tmps) = true then Oper.wp P o a w K Q else E := by
  have hw : Region.wanted o (yielded ops a.tmps) = true := by simp [Region.wanted, hgd]
  rw [if_pos hw]
  exact wp_store_mid ty x y ho b off cells hx hy ht hi h1 h
theorem one_waits (bb i : Nat) (sv st sp qty lim sq : Int) : (waits bb i sv st sp qty lim sq).toArray.all (·.oneCell') = true := by simp [waits, Value.oneCell']
set_option maxHeartbeats 1000000 in
theorem wait_any (h : Ph ob m eb bb g W) (L : Lg m c ob g q tot lev) (hM : MapIs mb M cnt cm W) (hc : c ≤ 2999) (hcm : cm ≤ 4000) (hm : m < 1024) (hlev : lev m = none) (hpn : g.pn = 0) (he1 : g.ec 1 = .map (some mb)) (he3 : g.ec 3 = .int .u64 m) (sv st sp qty lim : Int) (entry : Bool) (hst : st = stI entry) (b0 : 0 < qty) (b1 : qty ≤ 1000) :
    Calls Yba.prog 27 #[.pointer (some ⟨eb, 0, none⟩), .pointer (some ⟨bb, 0, none⟩), .agg #[.int .u64 7, .int .u64 m, .string ⟨#[83]⟩, .int .u8 sv, .int .i64 lim, .int .i64 qty, .int .u8 st, .int .i64 sp, .int .u8 0]] W fun e w' => e = .returned (.tuple #[]) ∧ ∃ ob' g' q' tot' lev', Wtd ob ob' m c eb bb mb g g' q q' tot' lev lev' M cnt cm entry sv sp qty lim W w' := by
  have HST := hide hst
  clear hst
  have c3 := h.en.cell 3 (by omega)
  have f3 := h.en.frozen 3
  rw [he3] at c3
  have zE := h.en.lt
  have Pa := (h.setE (j := 3) (by omega) (by omega) (by omega) (.int .u64 ((m : Int) + 1))).alloc (.cells #[.int .u64 7, .int .u64 m, .string ⟨#[83]⟩, .int .u8 sv, .int .i64 lim, .int .i64 qty, .int .u8 st, .int .i64 sp, .int .u8 0] 99)
  have hBxa : Bk W.heap.size 99 9 (fun k => #[.int .u64 7, .int .u64 m, .string ⟨#[83]⟩, .int .u8 sv, .int .i64 lim, .int .i64 qty, .int .u8 st, .int .i64 sp, .int .u8 0].getD k undef) ((W.setCell ⟨eb, 3, none⟩ (.int .u64 ((m : Int) + 1))).alloc (.cells #[.int .u64 7, .int .u64 m, .string ⟨#[83]⟩, .int .u8 sv, .int .i64 lim, .int .i64 qty, .int .u8 st, .int .i64 sp, .int .u8 0] 99)) := by
    have := Bk.new (W.setCell ⟨eb, 3, none⟩ (.int .u64 ((m : Int) + 1))) #[.int .u64 7, .int .u64 m, .string ⟨#[83]⟩, .int .u8 sv, .int .i64 lim, .int .i64 qty, .int .u8 st, .int .i64 sp, .int .u8 0] 99 (by have := h.en.base; simp; omega)
    simpa using this
  obtain ⟨a5, cap5, hr5⟩ := rowForm h.por
  rw [hpn] at hr5
  have c5 := Pa.en.cell 5 (by omega)
  have e5 : (upd g.ec 3 (.int .u64 ((m : Int) + 1))) 5 = .slice a5 0 cap5 := (upd_other _ _ (by decide)).trans hr5
  replace c5 : ((W.setCell ⟨eb, 3, none⟩ (.int .u64 ((m : Int) + 1))).alloc (.cells #[.int .u64 7, .int .u64 m, .string ⟨#[83]⟩, .int .u8 sv, .int .i64 lim, .int .i64 qty, .int .u8 st, .int .i64 sp, .int .u8 0] 99)).cell? ⟨eb, 5, none⟩ = some (.slice a5 0 cap5) := c5.trans (congrArg some e5)
  have hnew := order_new c5
  have Pb := Pa.grow
  have hBxb := hBxa.alloc (.cells ozero 82)
  have hsz : ((W.setCell ⟨eb, 3, none⟩ (.int .u64 ((m : Int) + 1))).alloc (.cells #[.int .u64 7, .int .u64 m, .string ⟨#[83]⟩, .int .u8 sv, .int .i64 lim, .int .i64 qty, .int .u8 st, .int .i64 sp, .int .u8 0] 99)).heap.size = W.heap.size + 1 := by simp
  rw [hsz] at Pb hnew
  obtain ⟨W3, hW3⟩ : ∃ W3, W3 = ((W.setCell ⟨eb, 3, none⟩ (.int .u64 ((m : Int) + 1))).alloc (.cells #[.int .u64 7, .int .u64 m, .string ⟨#[83]⟩, .int .u8 sv, .int .i64 lim, .int .i64 qty, .int .u8 st, .int .i64 sp, .int .u8 0] 99)).alloc (.cells ozero 82) := ⟨_, rfl⟩
  rw [← hW3] at Pb hBxb
  have F3 : Fr (Tagged addTags W) W W3 := by rw [hW3]; exact (((Fr.refl _ W).setCell (b := eb) (fun _ => h.en.blk.tagged (by decide)) 3 _).alloc _).alloc _
  have HF3 := hide (And.intro F3 (hM.kept (F3.block mb hM.lt (hM.notTagged _))))
  clear F3
  have HA := hide (And.intro h (And.intro L (And.intro hM Pa)))
  clear h L hM Pa hBxa
  go_enter Yba.func27, Yba.ntmps27
  go_wp2_with (go_at_call 37; refine hnew.mono ?_; rintro e w3 ⟨rfl, rfl⟩)
  rw [← hW3]
  clear hW3 hnew c5 c3 f3
  obtain ⟨ob', hob'⟩ : ∃ ob', ob' = upN ob m (W.heap.size + 1) := ⟨_, rfl⟩
  rw [← hob'] at Pb
  have hom : ob' m = W.heap.size + 1 := by rw [hob', upN_same]
  have hO := Pb.ord m (by omega)
  rw [hom] at hO
  have x0 := hO.cell 0 (by omega)
  have xf0 := hO.frozen 0
  have x1 := hO.cell 1 (by omega)
  have xf1 := hO.frozen 1
  have x2 := hO.cell 2 (by omega)
  have xf2 := hO.frozen 2
  have x3 := hO.cell 3 (by omega)
  have xf3 := hO.frozen 3
  have x4 := hO.cell 4 (by omega)
  have xf4 := hO.frozen 4
  have x5 := hO.cell 5 (by omega)
  have xf5 := hO.frozen 5
  have x6 := hO.cell 6 (by omega)
  have xf6 := hO.frozen 6
  have x7 := hO.cell 7 (by omega)
  have xf7 := hO.frozen 7
  have x8 := hO.cell 8 (by omega)
  have xf8 := hO.frozen 8
  have x9 := hO.cell 9 (by omega)
  have xf9 := hO.frozen 9
  have x10 := hO.cell 10 (by omega)
  have xf10 := hO.frozen 10
  have x11 := hO.cell 11 (by omega)
  have xf11 := hO.frozen 11
  have b100 : W3.cell? ⟨W.heap.size, 0, none⟩ = some (.int .u64 7) := hBxb.cell 0 (by simp)
  have b101 : W3.cell? ⟨W.heap.size, 1, none⟩ = some (.int .u64 m) := hBxb.cell 1 (by simp)
  have b103 : W3.cell? ⟨W.heap.size, 3, none⟩ = some (.int .u8 sv) := hBxb.cell 3 (by simp)
  have b104 : W3.cell? ⟨W.heap.size, 4, none⟩ = some (.int .i64 lim) := hBxb.cell 4 (by simp)
  have b105 : W3.cell? ⟨W.heap.size, 5, none⟩ = some (.int .i64 qty) := hBxb.cell 5 (by simp)
  have b106 : W3.cell? ⟨W.heap.size, 6, none⟩ = some (.int .u8 st) := hBxb.cell 6 (by simp)
  have b107 : W3.cell? ⟨W.heap.size, 7, none⟩ = some (.int .i64 sp) := hBxb.cell 7 (by simp)
  have b3 : W3.cell? ⟨eb, 3, none⟩ = some (.int .u64 ((m : Int) + 1)) := by rw [Pb.en.cell 3 (by omega)]; exact congrArg some (upd_same g.ec 3 _)
  have ne1 : W.heap.size + 1 ≠ eb := hO.blk.ne Pb.en.blk (by decide)
  have ne1' := Ne.symm ne1
  have HP := hide (And.intro Pb (And.intro hO hBxb))
  clear Pb hO hBxb
  have hth : W3.drew.there (W.heap.size + 1) 0 12 := HP.out.2.1.blk.there
  have k100 : (W3.drew.setCells (W.heap.size + 1) 0 (waits bb m sv st sp qty lim ((m : Int) + 1))).cell? ⟨W.heap.size, 0, none⟩ = some (.int .u64 7) := (World.cell?_setCells_out _ _ _ _ _ (fun e => by simp at e)).trans b100
  have k101 : (W3.drew.setCells (W.heap.size + 1) 0 (waits bb m sv st sp qty lim ((m : Int) + 1))).cell? ⟨W.heap.size, 1, none⟩ = some (.int .u64 m) := (World.cell?_setCells_out _ _ _ _ _ (fun e => by simp at e)).trans b101
  have k103 : (W3.drew.setCells (W.heap.size + 1) 0 (waits bb m sv st sp qty lim ((m : Int) + 1))).cell? ⟨W.heap.size, 3, none⟩ = some (.int .u8 sv) := (World.cell?_setCells_out _ _ _ _ _ (fun e => by simp at e)).trans b103
  have k104 : (W3.drew.setCells (W.heap.size + 1) 0 (waits bb m sv st sp qty lim ((m : Int) + 1))).cell? ⟨W.heap.size, 4, none⟩ = some (.int .i64 lim) := (World.cell?_setCells_out _ _ _ _ _ (fun e => by simp at e)).trans b104
  have k105 : (W3.drew.setCells (W.heap.size + 1) 0 (waits bb m sv st sp qty lim ((m : Int) + 1))).cell? ⟨W.heap.size, 5, none⟩ = some (.int .i64 qty) := (World.cell?_setCells_out _ _ _ _ _ (fun e => by simp at e)).trans b105
  have k106 : (W3.drew.setCells (W.heap.size + 1) 0 (waits bb m sv st sp qty lim ((m : Int) + 1))).cell? ⟨W.heap.size, 6, none⟩ = some (.int .u8 st) := (World.cell?_setCells_out _ _ _ _ _ (fun e => by simp at e)).trans b106
  have k107 : (W3.drew.setCells (W.heap.size + 1) 0 (waits bb m sv st sp qty lim ((m : Int) + 1))).cell? ⟨W.heap.size, 7, none⟩ = some (.int .i64 sp) := (World.cell?_setCells_out _ _ _ _ _ (fun e => by simp at e)).trans b107
  have k3 : (W3.drew.setCells (W.heap.size + 1) 0 (waits bb m sv st sp qty lim ((m : Int) + 1))).cell? ⟨eb, 3, none⟩ = some (.int .u64 ((m : Int) + 1)) := (World.cell?_setCells_out _ _ _ _ _ (fun e => absurd e ne1')).trans b3
  clear x0 xf0 x1 xf1 x2 xf2 x3 xf3 x4 xf4 x5 xf5 x6 xf6 x7 xf7 x8 xf8 x9 xf9 x10 xf10 x11 xf11
  refine wp_region_held_drew (S := fun w' => w'.cell? ⟨W.heap.size, 0, none⟩ = some (.int .u64 7) ∧ w'.cell? ⟨W.heap.size, 1, none⟩ = some (.int .u64 m) ∧ w'.cell? ⟨W.heap.size, 3, none⟩ = some (.int .u8 sv) ∧ w'.cell? ⟨W.heap.size, 4, none⟩ = some (.int .i64 lim) ∧ w'.cell? ⟨W.heap.size, 5, none⟩ = some (.int .i64 qty) ∧ w'.cell? ⟨W.heap.size, 6, none⟩ = some (.int .u8 st) ∧ w'.cell? ⟨W.heap.size, 7, none⟩ = some (.int .i64 sp) ∧ w'.cell? ⟨eb, 3, none⟩ = some (.int .u64 ((m : Int) + 1))) (by kernel_rfl) ⟨b100, b101, b103, b104, b105, b106, b107, b3⟩ (fun hHeld => ?_)
  (refine wpAnyH_take (i := 0) (oi := { dst := some 19, op := Op.move (Operand.tmp 6), type := 34, pos := _, after := #[], guard := none }) (v := ?_) rfl (by kernel_rfl) (by kernel_rfl) (by kernel_rfl) (fun _ _ _ h => h) (Or.inl ⟨by rfl, ?_⟩) (by assumption) ?_; rotate_left 1; (focus (intro w hSw; obtain ⟨s0, s1, s2, s3, s4, s5, s6, s7⟩ := hSw; go_simp; (first | done | with_reducible rfl))); try simp only [Act.put, List.setIfInBounds_toArray, List.set_cons_zero, List.set_cons_succ])
  (refine wpAnyH_take (i := 1) (oi := { dst := some 20, op := Op.fieldAddr 99 (Operand.tmp 5) 0, type := 0, pos := _, after := #[], guard := none }) (v := ?_) rfl (by kernel_rfl) (by kernel_rfl) (by kernel_rfl) (fun _ _ _ h => h) (Or.inl ⟨by rfl, ?_⟩) (by assumption) ?_; rotate_left 1; (focus (intro w hSw; obtain ⟨s0, s1, s2, s3, s4, s5, s6, s7⟩ := hSw; go_simp; (first | done | with_reducible rfl))); try simp only [Act.put, List.setIfInBounds_toArray, List.set_cons_zero, List.set_cons_succ])
  (refine wpAnyH_take (i := 2) (oi := { dst := some 21, op := Op.load 57 (Operand.tmp 20), type := 57, pos := _, after := #[{ on := 1, ground := Ground.data }], guard := none }) (v := ?_) rfl (by kernel_rfl) (by kernel_rfl) (by kernel_rfl) (fun _ _ _ h => h) (Or.inl ⟨by rfl, ?_⟩) (by assumption) ?_; rotate_left 1; (focus (intro w hSw; obtain ⟨s0, s1, s2, s3, s4, s5, s6, s7⟩ := hSw; go_simp; (first | done | with_reducible rfl))); try simp only [Act.put, List.setIfInBounds_toArray, List.set_cons_zero, List.set_cons_succ])
  (refine wpAnyH_take (i := 3) (oi := { dst := some 22, op := Op.fieldAddr 99 (Operand.tmp 5) 2, type := 0, pos := _, after := #[], guard := none }) (v := ?_) rfl (by kernel_rfl) (by kernel_rfl) (by kernel_rfl) (fun _ _ _ h => h) (Or.inl ⟨by rfl, ?_⟩) (by assumption) ?_; rotate_left 1; (focus (intro w hSw; obtain ⟨s0, s1, s2, s3, s4, s5, s6, s7⟩ := hSw; go_simp; (first | done | with_reducible rfl))); try simp only [Act.put, List.setIfInBounds_toArray, List.set_cons_zero, List.set_cons_succ])
  (refine wpAnyH_take (i := 4) (oi := { dst := some 23, op := Op.load 30 (Operand.tmp 22), type := 30, pos := _, after := #[{ on := 3, ground := Ground.data }], guard := none }) (v := ?_) rfl (by kernel_rfl) (by kernel_rfl) (by kernel_rfl) (fun _ _ _ h => h) (Or.inl ⟨by rfl, ?_⟩) (by assumption) ?_; rotate_left 1; (focus (intro w hSw; obtain ⟨s0, s1, s2, s3, s4, s5, s6, s7⟩ := hSw; go_simp; (first | done | with_reducible rfl))); try simp only [Act.put, List.setIfInBounds_toArray, List.set_cons_zero, List.set_cons_succ])
  (refine wpAnyH_take (i := 5) (oi := { dst := some 24, op := Op.fieldAddr 99 (Operand.tmp 5) 5, type := 0, pos := _, after := #[], guard := none }) (v := ?_) rfl (by kernel_rfl) (by kernel_rfl) (by kernel_rfl) (fun _ _ _ h => h) (Or.inl ⟨by rfl, ?_⟩) (by assumption) ?_; rotate_left 1; (focus (intro w hSw; obtain ⟨s0, s1, s2, s3, s4, s5, s6, s7⟩ := hSw; go_simp; (first | done | with_reducible rfl))); try simp only [Act.put, List.setIfInBounds_toArray, List.set_cons_zero, List.set_cons_succ])
  (refine wpAnyH_take (i := 6) (oi := { dst := some 25, op := Op.load 80 (Operand.tmp 24), type := 80, pos := _, after := #[{ on := 5, ground := Ground.data }], guard := none }) (v := ?_) rfl (by kernel_rfl) (by kernel_rfl) (by kernel_rfl) (fun _ _ _ h => h) (Or.inl ⟨by rfl, ?_⟩) (by assumption) ?_; rotate_left 1; (focus (intro w hSw; obtain ⟨s0, s1, s2, s3, s4, s5, s6, s7⟩ := hSw; go_simp; (first | done | with_reducible rfl))); try simp only [Act.put, List.setIfInBounds_toArray, List.set_cons_zero, List.set_cons_succ])
  (refine wpAnyH_take (i := 7) (oi := { dst := some 26, op := Op.fieldAddr 99 (Operand.tmp 5) 6, type := 0, pos := _, after := #[], guard := none }) (v := ?_) rfl (by kernel_rfl) (by kernel_rfl) (by kernel_rfl) (fun _ _ _ h => h) (Or.inl ⟨by rfl, ?_⟩) (by assumption) ?_; rotate_left 1; (focus (intro w hSw; obtain ⟨s0, s1, s2, s3, s4, s5, s6, s7⟩ := hSw; go_simp; (first | done | with_reducible rfl))); try simp only [Act.put, List.setIfInBounds_toArray, List.set_cons_zero, List.set_cons_succ])
  (refine wpAnyH_take (i := 8) (oi := { dst := some 27, op := Op.load 2 (Operand.tmp 26), type := 2, pos := _, after := #[{ on := 7, ground := Ground.data }], guard := none }) (v := ?_) rfl (by kernel_rfl) (by kernel_rfl) (by kernel_rfl) (fun _ _ _ h => h) (Or.inl ⟨by rfl, ?_⟩) (by assumption) ?_; rotate_left 1; (focus (intro w hSw; obtain ⟨s0, s1, s2, s3, s4, s5, s6, s7⟩ := hSw; go_simp; (first | done | with_reducible rfl))); try simp only [Act.put, List.setIfInBounds_toArray, List.set_cons_zero, List.set_cons_succ])
  (refine wpAnyH_take (i := 9) (oi := { dst := some 28, op := Op.fieldAddr 99 (Operand.tmp 5) 4, type := 0, pos := _, after := #[], guard := none }) (v := ?_) rfl (by kernel_rfl) (by kernel_rfl) (by kernel_rfl) (fun _ _ _ h => h) (Or.inl ⟨by rfl, ?_⟩) (by assumption) ?_; rotate_left 1; (focus (intro w hSw; obtain ⟨s0, s1, s2, s3, s4, s5, s6, s7⟩ := hSw; go_simp; (first | done | with_reducible rfl))); try simp only [Act.put, List.setIfInBounds_toArray, List.set_cons_zero, List.set_cons_succ])
  (refine wpAnyH_take (i := 10) (oi := { dst := some 29, op := Op.load 2 (Operand.tmp 28), type := 2, pos := _, after := #[{ on := 9, ground := Ground.data }], guard := none }) (v := ?_) rfl (by kernel_rfl) (by kernel_rfl) (by kernel_rfl) (fun _ _ _ h => h) (Or.inl ⟨by rfl, ?_⟩) (by assumption) ?_; rotate_left 1; (focus (intro w hSw; obtain ⟨s0, s1, s2, s3, s4, s5, s6, s7⟩ := hSw; go_simp; (first | done | with_reducible rfl))); try simp only [Act.put, List.setIfInBounds_toArray, List.set_cons_zero, List.set_cons_succ])
  (refine wpAnyH_take (i := 11) (oi := { dst := some 30, op := Op.fieldAddr 99 (Operand.tmp 5) 3, type := 0, pos := _, after := #[], guard := none }) (v := ?_) rfl (by kernel_rfl) (by kernel_rfl) (by kernel_rfl) (fun _ _ _ h => h) (Or.inl ⟨by rfl, ?_⟩) (by assumption) ?_; rotate_left 1; (focus (intro w hSw; obtain ⟨s0, s1, s2, s3, s4, s5, s6, s7⟩ := hSw; go_simp; (first | done | with_reducible rfl))); try simp only [Act.put, List.setIfInBounds_toArray, List.set_cons_zero, List.set_cons_succ])
  (refine wpAnyH_take (i := 12) (oi := { dst := some 31, op := Op.load 2 (Operand.tmp 30), type := 2, pos := _, after := #[{ on := 11, ground := Ground.data }], guard := none }) (v := ?_) rfl (by kernel_rfl) (by kernel_rfl) (by kernel_rfl) (fun _ _ _ h => h) (Or.inl ⟨by rfl, ?_⟩) (by assumption) ?_; rotate_left 1; (focus (intro w hSw; obtain ⟨s0, s1, s2, s3, s4, s5, s6, s7⟩ := hSw; go_simp; (first | done | with_reducible rfl))); try simp only [Act.put, List.setIfInBounds_toArray, List.set_cons_zero, List.set_cons_succ])
  (refine wpAnyH_take (i := 13) (oi := { dst := some 32, op := Op.move (Operand.tmp 0), type := 62, pos := _, after := #[], guard := none }) (v := ?_) rfl (by kernel_rfl) (by kernel_rfl) (by kernel_rfl) (fun _ _ _ h => h) (Or.inl ⟨by rfl, ?_⟩) (by assumption) ?_; rotate_left 1; (focus (intro w hSw; obtain ⟨s0, s1, s2, s3, s4, s5, s6, s7⟩ := hSw; go_simp; (first | done | with_reducible rfl))); try simp only [Act.put, List.setIfInBounds_toArray, List.set_cons_zero, List.set_cons_succ])
  (refine wpAnyH_take (i := 14) (oi := { dst := some 33, op := Op.nilCheck (Operand.tmp 32), type := 0, pos := _, after := #[{ on := 13, ground := Ground.data }], guard := none }) (v := ?_) rfl (by kernel_rfl) (by kernel_rfl) (by kernel_rfl) (fun _ _ _ h => h) (Or.inl ⟨by rfl, ?_⟩) (by assumption) ?_; rotate_left 1; (focus (intro w hSw; obtain ⟨s0, s1, s2, s3, s4, s5, s6, s7⟩ := hSw; go_simp; (first | done | with_reducible rfl))); try simp only [Act.put, List.setIfInBounds_toArray, List.set_cons_zero, List.set_cons_succ])
  (refine wpAnyH_take (i := 15) (oi := { dst := some 34, op := Op.fieldAddr 79 (Operand.tmp 33) 3, type := 0, pos := _, after := #[{ on := 14, ground := Ground.data }], guard := none }) (v := ?_) rfl (by kernel_rfl) (by kernel_rfl) (by kernel_rfl) (fun _ _ _ h => h) (Or.inl ⟨by rfl, ?_⟩) (by assumption) ?_; rotate_left 1; (focus (intro w hSw; obtain ⟨s0, s1, s2, s3, s4, s5, s6, s7⟩ := hSw; go_simp; (first | done | with_reducible rfl))); try simp only [Act.put, List.setIfInBounds_toArray, List.set_cons_zero, List.set_cons_succ])
  (refine wpAnyH_take (i := 16) (oi := { dst := some 35, op := Op.load 55 (Operand.tmp 34), type := 55, pos := _, after := #[{ on := 15, ground := Ground.data }], guard := none }) (v := ?_) rfl (by kernel_rfl) (by kernel_rfl) (by kernel_rfl) (fun _ _ _ h => h) (Or.inl ⟨by rfl, ?_⟩) (by assumption) ?_; rotate_left 1; (focus (intro w hSw; obtain ⟨s0, s1, s2, s3, s4, s5, s6, s7⟩ := hSw; go_simp; (first | done | with_reducible rfl))); try simp only [Act.put, List.setIfInBounds_toArray, List.set_cons_zero, List.set_cons_succ])
  (refine wpAnyH_take (i := 17) (oi := { dst := some 36, op := Op.move (Operand.tmp 1), type := 45, pos := _, after := #[], guard := none }) (v := ?_) rfl (by kernel_rfl) (by kernel_rfl) (by kernel_rfl) (fun _ _ _ h => h) (Or.inl ⟨by rfl, ?_⟩) (by assumption) ?_; rotate_left 1; (focus (intro w hSw; obtain ⟨s0, s1, s2, s3, s4, s5, s6, s7⟩ := hSw; go_simp; (first | done | with_reducible rfl))); try simp only [Act.put, List.setIfInBounds_toArray, List.set_cons_zero, List.set_cons_succ])
  (refine wpAnyH_take (i := 18) (oi := { dst := some 37, op := Op.build 82 #[(0, Operand.tmp 21), (1, Operand.tmp 23), (2, Operand.tmp 25), (3, Operand.tmp 27), (4, Operand.tmp 29), (5, Operand.tmp 31), (6, Operand.tmp 35), (7, Operand.tmp 36)], type := 82, pos := _, after := #[{ on := 2, ground := Ground.data }, { on := 4, ground := Ground.data }, { on := 6, ground := Ground.data }, { on := 8, ground := Ground.data }, { on := 10, ground := Ground.data }, { on := 12, ground := Ground.data }, { on := 16, ground := Ground.data }, { on := 17, ground := Ground.data }], guard := none }) (v := ?_) rfl (by kernel_rfl) (by kernel_rfl) (by kernel_rfl) (fun _ _ _ h => h) (Or.inl ⟨by rfl, ?_⟩) (by assumption) ?_; rotate_left 1; (focus (intro w hSw; obtain ⟨s0, s1, s2, s3, s4, s5, s6, s7⟩ := hSw; go_simp; (first | done | with_reducible rfl))); try simp only [Act.put, List.setIfInBounds_toArray, List.set_cons_zero, List.set_cons_succ])
  (refine wpAnyH_take (i := 19) (oi := { dst := some 38, op := Op.nilCheck (Operand.tmp 19), type := 0, pos := _, after := #[{ on := 0, ground := Ground.data }, { on := 0, ground := Ground.phase }, { on := 1, ground := Ground.phase }, { on := 2, ground := Ground.phase }, { on := 3, ground := Ground.phase }, { on := 4, ground := Ground.phase }, { on := 5, ground := Ground.phase }, { on := 6, ground := Ground.phase }, { on := 7, ground := Ground.phase }, { on := 8, ground := Ground.phase }, { on := 9, ground := Ground.phase }, { on := 10, ground := Ground.phase }, { on := 11, ground := Ground.phase }, { on := 12, ground := Ground.phase }, { on := 13, ground := Ground.phase }, { on := 14, ground := Ground.phase }, { on := 15, ground := Ground.phase }, { on := 16, ground := Ground.phase }, { on := 17, ground := Ground.phase }, { on := 18, ground := Ground.phase }], guard := none }) (v := ?_) rfl (by kernel_rfl) (by kernel_rfl) (by kernel_rfl) (fun _ _ _ h => h) (Or.inl ⟨by rfl, ?_⟩) (by assumption) ?_; rotate_left 1; (focus (intro w hSw; obtain ⟨s0, s1, s2, s3, s4, s5, s6, s7⟩ := hSw; go_simp; (first | done | with_reducible rfl))); try simp only [Act.put, List.setIfInBounds_toArray, List.set_cons_zero, List.set_cons_succ])
  (refine wpAnyH_ready (rs := [20]) (by kernel_rfl) (by simp) ?_; refine AllReadyH.cons (o := { dst := none, op := Op.store 82 (Operand.tmp 38) (Operand.tmp 37), type := 0, pos := _, after := #[{ on := 19, ground := Ground.data }, { on := 18, ground := Ground.data }, { on := 0, ground := Ground.phase }, { on := 1, ground := Ground.phase }, { on := 2, ground := Ground.phase }, { on := 3, ground := Ground.phase }, { on := 4, ground := Ground.phase }, { on := 5, ground := Ground.phase }, { on := 6, ground := Ground.phase }, { on := 7, ground := Ground.phase }, { on := 8, ground := Ground.phase }, { on := 9, ground := Ground.phase }, { on := 10, ground := Ground.phase }, { on := 11, ground := Ground.phase }, { on := 12, ground := Ground.phase }, { on := 13, ground := Ground.phase }, { on := 14, ground := Ground.phase }, { on := 15, ground := Ground.phase }, { on := 16, ground := Ground.phase }, { on := 17, ground := Ground.phase }, { on := 18, ground := Ground.phase }], guard := none }) rfl (fun K hK => ?_) AllReadyH.nil)
  refine step_store_mid rfl 82 (.tmp 38) (.tmp 37) rfl (W.heap.size + 1) 0 (waits bb m sv st sp qty lim ((m : Int) + 1)).toArray rfl rfl hth size82 (one_waits _ _ _ _ _ _ _ _) ?_
  refine hK.out _ _ ⟨k100, k101, k103, k104, k105, k106, k107, k3⟩ (fun h6 => ?_)
  clear hK K
  try simp only [Act.put, List.setIfInBounds_toArray, List.set_cons_zero, List.set_cons_succ]
  refine wpAnyH_done (by kernel_rfl) ?_ _
  obtain ⟨Pb, hO, hBxb⟩ := HP.out
  have PF := Pb.drew.setsO (i := m) (by omega) (waits bb m sv st sp qty lim ((m : Int) + 1)) rfl
  rw [hom] at PF
  have HPF := hide (And.intro Pb hBxb)
  clear hHeld h6 k100 k101 k103 k104 k105 k106 k107 k3 b100 b101 b103 b104 b105 b106 b107 b3 hth HP Pb hO hBxb
  generalize hW4 : W3.drew.setCells (W.heap.size + 1) 0 (waits bb m sv st sp qty lim ((m : Int) + 1)) = W4 at PF ⊢
  clear hW4
  obtain ⟨P4, F4⟩ := PF
  have oc4 : ∀ k, upN (upN g.oc m ozf) m (fun k => (waits bb m sv st sp qty lim ((m : Int) + 1)).getD k undef) m k = (waits bb m sv st sp qty lim ((m : Int) + 1)).getD k undef := fun k => by rw [upN_same]
  have cx3 : W4.cell? ⟨W.heap.size + 1, 3, none⟩ = some (.int .u8 (if entry then 2 else 1)) := by
    have := (P4.ord m (by omega)).cell 3 (by omega)
    rw [hom] at this
    rw [this]
    refine congrArg some ((oc4 3).trans ?_)
    show Value.int .u8 st = _
    rw [HST.out]; rfl
  have cx4 : W4.cell? ⟨W.heap.size + 1, 4, none⟩ = some (.int .i64 sp) := by
    have := (P4.ord m (by omega)).cell 4 (by omega)
    rw [hom] at this
    rw [this]
    exact congrArg some (oc4 4)
  have hso := sideOf_any (bb := bb) entry cx3
  have hkS : kS entry < 4 := by cases entry <;> decide
  have hks : 1 + 4 * (if entry = true then 3 else 2) = 1 + 4 * kS entry := rfl
  rw [hks] at hso
  have HP4 := hide (And.intro P4 F4)
  clear P4 F4 cx3
  go_wp2_with (go_at_call 38; refine hso.mono ?_; rintro e w5 ⟨rfl, rfl⟩)
  obtain ⟨P4, F4⟩ := HP4.out
  obtain ⟨h, L, hM, Pa⟩ := HA.out
  have hobl : ∀ i, i < m → ob' i = ob i := fun i hi => by rw [hob', upN_other _ _ (by omega)]
  have L4 : Lg (m + 1) c ob' { g with ec := upd g.ec 3 (.int .u64 ((m : Int) + 1)), oc := upN (upN g.oc m ozf) m (fun k => (waits bb m sv st sp qty lim ((m : Int) + 1)).getD k undef) } q tot lev := ⟨fun k hk l hl => (L.lv k hk l hl).congr (by omega) (Nat.le_refl _) rfl rfl rfl (fun _ _ => rfl) (fun i hi => by
    have := ((L.lv k hk l hl).mem i hi).1
    show upN (upN g.oc m ozf) m _ i 11 = _
    rw [upN_other _ _ (by omega), upN_other _ _ (by omega)]) hobl, L.len⟩
  have hs := search_ph P4.drew (k := kS entry) hkS sp
  have hadd : ∀ w6 pl, Below w5.drew.heap.size w5.drew w6 → Place (g.σ (kS entry)) (g.ll (kS entry)) sp pl → Calls Yba.prog 39 #[.pointer (some ⟨bb, 1 + 4 * kS entry, none⟩), pt (ob' m), pl, .pointer (some ⟨eb, 5, none⟩)] w6 _ := fun w6 pl hB6 hpl => add_any (g := { g with ec := upd g.ec 3 (.int .u64 ((m : Int) + 1)), oc := upN (upN g.oc m ozf) m (fun k => (waits bb m sv st sp qty lim ((m : Int) + 1)).getD k undef) }) (P4.drew.below hB6) L4 (by omega) (k := kS entry) hkS (i := m) (by omega) hlev (oc4 11) (qty := qty) (price := sp) (oc4 5) (oc4 4) (by omega) b1 hpl
  simp only [pt, hom] at hadd
  have zx : W.heap.size + 1 < w5.drew.heap.size := by have := (P4.ord m (by omega)).lt; rw [hom] at this; exact this
  have Hst := hide (And.intro P4 (And.intro F4 (And.intro h (And.intro L (And.intro hM (And.intro L4 (And.intro hobl hob')))))))
  clear P4 F4 h L hM Pa L4 HP4 HA hobl hob' hso
  go_region_held3 (fun w' => w'.cell? ⟨W.heap.size + 1, 4, none⟩ = some (.int .i64 sp)) (first | exact cx4 | exact cx5 | exact cx6) (first
    | (go_at_call 39; refine (hadd _ _ hB6 hpl).mono ?_; rintro e w7 ⟨rfl, g7, q7, tot7, lev7, P7, L7, A7, F7⟩; have cx6 : w7.cell? ⟨W.heap.size + 1, 4, none⟩ = some (.int .i64 sp) := by (have := (P7.ord m (by omega)).cell 4 (by omega); rw [hom] at this; rw [this, A7.oc m 4 (by omega)]; exact congrArg some (oc4 4)))
    | (go_at_call 19; refine hs.mono ?_; rintro e w6 ⟨hB6, pl, rfl, hpl⟩; have cx5 := (hB6.cell (p := ⟨W.heap.size + 1, 4, none⟩) zx).trans cx4))
  obtain ⟨P4, F4, h, L, hM, L4, hobl, hob'⟩ := Hst.out
  obtain ⟨F3, hM3⟩ := HF3.out
  obtain ⟨Pb, hBxb⟩ := HPF.out
  have hxN : W.heap.size ≠ W.heap.size + 1 := by omega
  have hBx5 := hBxb.drew.fr F4 (by simp [rowTag]) hxN
  have hBx6 := hBx5.drew.below hB6
  have hBx7 := hBx6.fr F7 (by simp [rowTag]) (hBx6.blk.notTagged (by decide))
  have hM3d := hM3.kept (W' := W3.drew) rfl
  have hM5 := hM3d.kept (F4.block mb hM3d.lt (fun e => by
    have := hM3.notBlk (Pb.ord m (by omega)).blk
    rw [hom] at this
    exact this e.symm))
  have hM5d := hM5.kept (W' := w5.drew) rfl
  have hM6 := hM5d.kept (hB6.block mb hM5d.lt)
  have hM7 := hM6.kept (F7.block mb hM6.lt (hM6.notTagged _))
  have ec1 : g7.ec 1 = .map (some mb) := (A7.ec 1 (by omega)).trans ((upd_other g.ec (k := 3) (j := 1) (.int .u64 ((m : Int) + 1)) (by decide)).trans he1)
  have e1 : w7.cell? ⟨eb, 1, none⟩ = some (.map (some mb)) := by rw [P7.en.cell 1 (by omega), ec1]
  have z0 : w7.cell? ⟨W.heap.size, 0, none⟩ = some (.int .u64 7) := hBx7.cell 0 (by simp)
  have z1 : w7.cell? ⟨W.heap.size, 1, none⟩ = some (.int .u64 m) := hBx7.cell 1 (by simp)
  obtain ⟨w8, hrun, hM8, ht8⟩ := (hM7.kept (W' := w7.drew) rfl).put (by omega) (i := m) (by omega) (ob' m)
  have F8 := turned_fr ht8
  have hem : eb ≠ mb := hM7.notBlk P7.en.blk
  have hnm : W.heap.size ≠ mb := hM7.notBlk hBx7.blk
  have e1' : w8.cell? ⟨eb, 1, none⟩ = some (.map (some mb)) := (F8.cell (b := eb) P7.en.lt hem 1).trans e1
  have z0' : w8.cell? ⟨W.heap.size, 0, none⟩ = some (.int .u64 7) := (F8.cell (b := W.heap.size) hBx7.lt hnm 0).trans z0
  have z1' : w8.cell? ⟨W.heap.size, 1, none⟩ = some (.int .u64 m) := (F8.cell (b := W.heap.size) hBx7.lt hnm 1).trans z1
  simp only [kv, pt, hom] at hrun
  have HF := hide (And.intro P7 (And.intro L7 (And.intro A7 (And.intro F7 (And.intro hM8 (And.intro F8 (And.intro hM7 (And.intro hB6 oc4))))))))
  clear P4 F4 h L hM L4 hobl hob' F3 hM3 Pb hBxb hBx5 hBx6 hBx7 hM3d hM5 hM5d hM6 hM7 P7 L7 A7 F7 hM8 F8 ht8 hadd hs oc4 hB6 hpl cx4 cx5 cx6
  go_wp2
  go_region_held3 (fun w' => w'.cell? ⟨eb, 1, none⟩ = some (.map (some mb)) ∧ w'.cell? ⟨W.heap.size, 0, none⟩ = some (.int .u64 7) ∧ w'.cell? ⟨W.heap.size, 1, none⟩ = some (.int .u64 m)) (first | exact ⟨e1, z0, z1⟩ | exact ⟨e1', z0', z1'⟩) (fail)
  go_end0
  refine ⟨rfl, ob', g7, q7, tot7, lev7, ?_⟩
  obtain ⟨P4, F4, h, L, hM, L4, hobl, hob'⟩ := Hst.out
  obtain ⟨F3, hM3⟩ := HF3.out
  obtain ⟨Pb, hBxb⟩ := HPF.out
  obtain ⟨P7, L7, A7, F7, hM8, F8, hM7, hB6, oc4⟩ := HF.out
  have P8 : Ph ob' (m + 1) eb bb g7 w8 := P7.drew.fr F8 hem (hM7.notBlk P7.bk) (fun b hb => hM7.notBlk hb) (fun j hj => hM7.notBlk (P7.ord j hj).blk) (fun b hb e => hM7.notRow P7.flr (by rw [hb, e])) (fun b hb e => hM7.notRow P7.por (by rw [hb, e]))
  have Fa : Fr (fun b => Tagged addTags W b ∨ b = mb) W W3 := F3.mono (fun b _ e => .inl e)
  have Fb := Fa.drew.join F4 (fun b hb e => absurd hb (by omega))
  have Fc := Fb.drew.join (B := fun _ => False) (Fr.below hB6) (fun b hb e => e.elim)
  have Fd := Fc.join F7 (fun b hb e => (Tagged.back Fc hb e).elim id .inl)
  have Fe := Fd.drew.join F8 (fun b hb e => .inr e)
  refine ⟨hobl, P8, L7, hM8, A7.on, fun j hj => ?_, fun i hi j hj => ?_, ?_, fun j h3 h6 => ?_, A7.pn, A7.px, A7.lev2, Fe⟩
  · rw [A7.oc m j hj]
    refine (oc4 j).trans ?_
    rw [HST.out]
  · rw [A7.oc i j hj]
    show upN (upN g.oc m ozf) m _ i j = _
    rw [upN_other _ _ hi, upN_other _ _ hi]
  · exact (A7.ec 3 (by omega)).trans (upd_same g.ec 3 _)
  · rw [A7.ec j h6]
    exact upd_other _ _ h3
end
end Go.Proofs.Ybulkjrk
