/-
  OWN WORK: the side and its levels in the heap; the walks of height, setHeight, replace.
-/
import Derived.Test.YbulkjrkT4
import Derived.LaidEqlPtr
namespace Go.Proofs.Ybulkjrk
open Go.RowKit
set_option linter.unusedSimpArgs false
set_option linter.unusedVariables false

def ptr (o : Option Nat) : Value := .pointer (o.map fun b => ⟨b, 0, none⟩)
/-- A level's ten cells. -/
def lv (σ : Sd) (ex : Nat → Nat → Value) (b : Nat) : Nat → Value
  | 0 => .int .i64 (σ.price b)
  | 4 => ptr (σ.nx b false)
  | 5 => ptr (σ.nx b true)
  | 6 => ptr (σ.par b)
  | 7 => ptr (σ.ch b false)
  | 8 => ptr (σ.ch b true)
  | 9 => .int .i8 (σ.h b)
  | o => ex b o
/-- A side's four cells. -/
def sv (σ : Sd) (s0 : Value) : Nat → Value
  | 1 => ptr σ.root
  | 2 => ptr (σ.ends false)
  | 3 => ptr (σ.ends true)
  | _ => s0

/-- A plain block of cells. -/
def Isc (W : World) (b : Nat) : Prop := ∃ cs, W.heap[b]? = some (.cells cs 37 (0, 0))
theorem Isc.setCell {W : World} {b : Nat} (h : Isc W b) (a : Addr) (v : Value) : Isc (W.setCell a v) b := by
  obtain ⟨cs, h⟩ := h
  by_cases e : b = a.block
  · subst e
    obtain ⟨hlt, hk'⟩ := Array.getElem?_eq_some_iff.1 h
    unfold Isc
    show ∃ cs, (W.heap.modify a.block _)[a.block]? = some (.cells cs 37 (0, 0))
    rw [Array.getElem?_eq_getElem (by rw [Array.size_modify]; exact hlt), Array.getElem_modify_self, hk']
    exact ⟨_, rfl⟩
  · exact ⟨cs, (Below.heap_setCell W a v b e).trans h⟩
theorem wrap8 {n : Int} (h0 : -128 ≤ n) (h1 : n ≤ 127) : IntKind.i8.wrap n = n := by
  simp [IntKind.wrap, IntKind.bits, IntKind.signed]
  split <;> omega
theorem info37 : (Yba.prog.info? 37).map (fun i => i.size) = some 10 := by kernel_rfl
theorem eql_none_some (w : World) (a : Addr) : (binOp .eql 29 (.pointer none) (.pointer (some a))).run Yba.prog w = .ok (.bool false) w := by
  have h : ∀ d : Nat, (Op.equalIn (d + 1) 29 (.pointer none) (.pointer (some a))).run Yba.prog w = .ok false w := fun d => by
    simp [Op.equalIn, run_underlying Yba.underlying29]
  simp only [binOp]
  simp [Op.equal, Op.maxDepth, h 9999]
theorem eql_same (w : World) (a : Addr) : (binOp .eql 29 (.pointer (some a)) (.pointer (some a))).run Yba.prog w = .ok (.bool true) w := by
  obtain ⟨j, hj, _⟩ := Option.map_eq_some_iff.1 info37
  exact run_eql_ptr_same w a Yba.underlying29 hj
theorem eql_other (w : World) {a b : Nat} (hne : a ≠ b) (ha : Isc w a) (hb : Isc w b) : (binOp .eql 29 (.pointer (some ⟨a, 0, none⟩)) (.pointer (some ⟨b, 0, none⟩))).run Yba.prog w = .ok (.bool false) w := by
  obtain ⟨j, hj, hs⟩ := Option.map_eq_some_iff.1 info37
  obtain ⟨_, ha⟩ := ha
  obtain ⟨_, hb⟩ := hb
  exact run_eql_ptr_other w Yba.underlying29 hj (by omega) (by intro e; cases e; exact hne rfl) ha hb
theorem neq_none_some (w : World) (a : Addr) : (binOp .neq 29 (.pointer none) (.pointer (some a))).run Yba.prog w = .ok (.bool true) w := by
  have h := eql_none_some w a
  simp only [binOp] at h ⊢
  cases hh : (Op.equal 29 (.pointer none) (.pointer (some a))).run Yba.prog w <;> simp_all
theorem neq_same (w : World) (a : Addr) : (binOp .neq 29 (.pointer (some a)) (.pointer (some a))).run Yba.prog w = .ok (.bool false) w := by
  have h := eql_same w a
  simp only [binOp] at h ⊢
  cases hh : (Op.equal 29 (.pointer (some a)) (.pointer (some a))).run Yba.prog w <;> simp_all
theorem neq_other (w : World) {a b : Nat} (hne : a ≠ b) (ha : Isc w a) (hb : Isc w b) : (binOp .neq 29 (.pointer (some ⟨a, 0, none⟩)) (.pointer (some ⟨b, 0, none⟩))).run Yba.prog w = .ok (.bool true) w := by
  have h := eql_other w hne ha hb
  simp only [binOp] at h ⊢
  cases hh : (Op.equal 29 (.pointer (some ⟨a, 0, none⟩)) (.pointer (some ⟨b, 0, none⟩))).run Yba.prog w <;> simp_all

/-- The side S and its levels D as the heap has them. -/
structure Rep (S : Nat) (D : Nat → Prop) (ex : Nat → Nat → Value) (s0 : Value) (W : World) (σ : Sd) : Prop where
  lt : ∀ b, D b → b < W.heap.size
  ne : ∀ b, D b → b ≠ S
  slt : S < W.heap.size
  cell : ∀ b, D b → ∀ o, o < 10 → W.cell? ⟨b, o, none⟩ = some (lv σ ex b o)
  fz : ∀ b, D b → ∀ o, W.frozen? ⟨b, o, none⟩ = false
  side : ∀ o, o < 4 → W.cell? ⟨S, o, none⟩ = some (sv σ s0 o)
  sfz : ∀ o, W.frozen? ⟨S, o, none⟩ = false
  blk : ∀ b, D b → Isc W b

/-- Nothing but the side and its levels has turned. -/
structure Kp (S : Nat) (D : Nat → Prop) (W W' : World) : Prop where
  os : W'.os = W.os
  tape : W'.tape = W.tape
  output : W'.output = W.output
  size : W.heap.size ≤ W'.heap.size
  block : ∀ b, b < W.heap.size → b ≠ S → ¬ D b → W'.heap[b]? = W.heap[b]?
theorem Kp.refl (S : Nat) (D : Nat → Prop) (W : World) : Kp S D W W := ⟨rfl, rfl, rfl, Nat.le_refl _, fun _ _ _ _ => rfl⟩
theorem Kp.trans {S : Nat} {D : Nat → Prop} {A B C : World} (h : Kp S D A B) (k : Kp S D B C) : Kp S D A C :=
  ⟨k.os.trans h.os, k.tape.trans h.tape, k.output.trans h.output, Nat.le_trans h.size k.size, fun b hb h1 h2 => (k.block b (Nat.lt_of_lt_of_le hb h.size) h1 h2).trans (h.block b hb h1 h2)⟩
theorem Kp.set {S : Nat} {D : Nat → Prop} {A B : World} (h : Kp S D A B) {b : Nat} (hb : b = S ∨ D b) (o : Nat) (v : Value) : Kp S D A (B.setCell ⟨b, o, none⟩ v) :=
  ⟨h.os, h.tape, h.output, by simpa using h.size, fun k hk h1 h2 => (Below.heap_setCell B ⟨b, o, none⟩ v k (fun e => by
    have e : k = b := e
    subst e
    rcases hb with hb | hb
    · exact h1 hb
    · exact h2 hb)).trans (h.block k hk h1 h2)⟩
theorem Kp.drewN {S : Nat} {D : Nat → Prop} {A B : World} (h : Kp S D A B) (n : Nat) : Kp S D A (B.drewN n) := ⟨h.os, h.tape, h.output, h.size, h.block⟩
theorem Kp.drew {S : Nat} {D : Nat → Prop} {A B : World} (h : Kp S D A B) : Kp S D A B.drew := ⟨h.os, h.tape, h.output, h.size, h.block⟩
theorem Kp.below {S : Nat} {D : Nat → Prop} {A B : World} (h : Kp S D A B) {n : Nat} (hn : n ≤ A.heap.size) (hS : n ≤ S) (hD : ∀ b, D b → n ≤ b) : Below n A B :=
  ⟨h.os, h.tape, h.output, h.size, fun k hk => h.block k (by omega) (by omega) (fun hd => by have := hD k hd; omega)⟩

section
variable {S : Nat} {D : Nat → Prop} {ex : Nat → Nat → Value} {s0 : Value} {W : World} {σ : Sd}
theorem Rep.drewN (h : Rep S D ex s0 W σ) (n : Nat) : Rep S D ex s0 (W.drewN n) σ := ⟨h.lt, h.ne, h.slt, h.cell, h.fz, h.side, h.sfz, h.blk⟩
theorem Rep.drew (h : Rep S D ex s0 W σ) : Rep S D ex s0 W.drew σ := ⟨h.lt, h.ne, h.slt, h.cell, h.fz, h.side, h.sfz, h.blk⟩
/-- A store into a level. -/
theorem Rep.put (h : Rep S D ex s0 W σ) {σ' : Sd} {x o : Nat} {v : Value} (hx : D x) (ho : o < 10) (hlv : ∀ b, D b → ∀ k, k < 10 → lv σ' ex b k = if b = x ∧ k = o then v else lv σ ex b k) (hsv : ∀ k, k < 4 → sv σ' s0 k = sv σ s0 k) : Rep S D ex s0 (W.setCell ⟨x, o, none⟩ v) σ' := by
  refine ⟨fun b hb => by simpa using h.lt b hb, h.ne, by simpa using h.slt, fun b hb k hk => ?_, fun b hb k => by rw [World.frozen?_setCell]; exact h.fz b hb k, fun k hk => ?_, fun k => by rw [World.frozen?_setCell]; exact h.sfz k, fun b hb => (h.blk b hb).setCell _ _⟩
  · rw [hlv b hb k hk]
    by_cases e : b = x ∧ k = o
    · obtain ⟨rfl, rfl⟩ := e
      rw [if_pos ⟨rfl, rfl⟩]
      exact World.cell?_setCell_same _ _ _ (h.cell b hb k hk)
    · rw [if_neg e, World.cell?_setCell_other _ _ _ _ (by intro e'; cases e'; exact e ⟨rfl, rfl⟩)]
      exact h.cell b hb k hk
  · rw [hsv k hk, World.cell?_setCell_other _ _ _ _ (by intro e'; cases e'; exact h.ne _ hx rfl)]
    exact h.side k hk
/-- A store into the side. -/
theorem Rep.putS (h : Rep S D ex s0 W σ) {σ' : Sd} {o : Nat} {v : Value} (ho : o < 4) (hlv : ∀ b, D b → ∀ k, k < 10 → lv σ' ex b k = lv σ ex b k) (hsv : ∀ k, k < 4 → sv σ' s0 k = if k = o then v else sv σ s0 k) : Rep S D ex s0 (W.setCell ⟨S, o, none⟩ v) σ' := by
  refine ⟨fun b hb => by simpa using h.lt b hb, h.ne, by simpa using h.slt, fun b hb k hk => ?_, fun b hb k => by rw [World.frozen?_setCell]; exact h.fz b hb k, fun k hk => ?_, fun k => by rw [World.frozen?_setCell]; exact h.sfz k, fun b hb => (h.blk b hb).setCell _ _⟩
  · rw [hlv b hb k hk, World.cell?_setCell_other _ _ _ _ (by intro e'; cases e'; exact h.ne _ hb rfl)]
    exact h.cell b hb k hk
  · rw [hsv k hk]
    by_cases e : k = o
    · subst e; rw [if_pos rfl]; exact World.cell?_setCell_same _ _ _ (h.side k hk)
    · rw [if_neg e, World.cell?_setCell_other _ _ _ _ (by intro e'; cases e'; exact e rfl)]
      exact h.side k hk
theorem ten {k : Nat} (hk : k < 10) : k = 0 ∨ k = 1 ∨ k = 2 ∨ k = 3 ∨ k = 4 ∨ k = 5 ∨ k = 6 ∨ k = 7 ∨ k = 8 ∨ k = 9 := by omega
theorem Rep.setPar (h : Rep S D ex s0 W σ) {x : Nat} (hx : D x) (p : Option Nat) : Rep S D ex s0 (W.setCell ⟨x, 6, none⟩ (ptr p)) (setPar σ x p) := by
  refine h.put hx (by omega) (fun b hb k hk => ?_) (fun k hk => rfl)
  rcases ten hk with rfl | rfl | rfl | rfl | rfl | rfl | rfl | rfl | rfl | rfl <;> simp only [lv, Ybulkjrk.setPar, up] <;> by_cases e : b = x <;> simp [e]
theorem Rep.setCh (h : Rep S D ex s0 W σ) {x : Nat} (hx : D x) (d : Bool) (p : Option Nat) : Rep S D ex s0 (W.setCell ⟨x, (if d then 8 else 7), none⟩ (ptr p)) (setCh σ x d p) := by
  refine h.put hx (by split <;> omega) (fun b hb k hk => ?_) (fun k hk => rfl)
  cases d <;> rcases ten hk with rfl | rfl | rfl | rfl | rfl | rfl | rfl | rfl | rfl | rfl <;> simp only [lv, Ybulkjrk.setCh, up2] <;> by_cases e : b = x <;> simp [e]
theorem Rep.setNx (h : Rep S D ex s0 W σ) {x : Nat} (hx : D x) (d : Bool) (p : Option Nat) : Rep S D ex s0 (W.setCell ⟨x, (if d then 5 else 4), none⟩ (ptr p)) (setNx σ x d p) := by
  refine h.put hx (by split <;> omega) (fun b hb k hk => ?_) (fun k hk => rfl)
  cases d <;> rcases ten hk with rfl | rfl | rfl | rfl | rfl | rfl | rfl | rfl | rfl | rfl <;> simp only [lv, Ybulkjrk.setNx, up2] <;> by_cases e : b = x <;> simp [e]
theorem Rep.setH (h : Rep S D ex s0 W σ) {x : Nat} (hx : D x) (y : Int) : Rep S D ex s0 (W.setCell ⟨x, 9, none⟩ (.int .i8 y)) (setH σ x y) := by
  refine h.put hx (by omega) (fun b hb k hk => ?_) (fun k hk => rfl)
  rcases ten hk with rfl | rfl | rfl | rfl | rfl | rfl | rfl | rfl | rfl | rfl <;> simp only [lv, Ybulkjrk.setH, up] <;> by_cases e : b = x <;> simp [e]
theorem Rep.setRoot (h : Rep S D ex s0 W σ) (p : Option Nat) : Rep S D ex s0 (W.setCell ⟨S, 1, none⟩ (ptr p)) (setRoot σ p) := by
  refine h.putS (by omega) (fun b hb k hk => ?_) (fun k hk => ?_)
  · rcases ten hk with rfl | rfl | rfl | rfl | rfl | rfl | rfl | rfl | rfl | rfl <;> rfl
  · rcases (by omega : k = 0 ∨ k = 1 ∨ k = 2 ∨ k = 3) with rfl | rfl | rfl | rfl <;> rfl
theorem Rep.setEnd (h : Rep S D ex s0 W σ) (d : Bool) (p : Option Nat) : Rep S D ex s0 (W.setCell ⟨S, (if d then 3 else 2), none⟩ (ptr p)) (setEnd σ d p) := by
  refine h.putS (by split <;> omega) (fun b hb k hk => ?_) (fun k hk => ?_)
  · rcases ten hk with rfl | rfl | rfl | rfl | rfl | rfl | rfl | rfl | rfl | rfl <;> rfl
  · cases d <;> rcases (by omega : k = 0 ∨ k = 1 ∨ k = 2 ∨ k = 3) with rfl | rfl | rfl | rfl <;> rfl

theorem height_any (o : Option Nat) (h : Rep S D ex s0 W σ) (ho : ∀ b, o = some b → D b) : Calls Yba.prog 48 #[ptr o] W fun e w' => e = .returned (.int .i8 (hgt σ o)) ∧ w' = W := by
  cases o with
  | none =>
    show Calls Yba.prog 48 #[.pointer none] W _
    go_enter Yba.func48, Yba.ntmps48
    go_wp2
    go_ret
    exact ⟨rfl, rfl⟩
  | some b =>
    have c := h.cell b (ho b rfl) 9 (by omega)
    simp only [lv] at c
    show Calls Yba.prog 48 #[.pointer (some ⟨b, 0, none⟩)] W _
    go_enter Yba.func48, Yba.ntmps48
    go_wp2
    go_ret
    exact ⟨rfl, rfl⟩

set_option maxRecDepth 100000 in
theorem replace_any (o : Nat) (n : Option Nat) (h : Rep S D ex s0 W σ) (ho : D o) (hn : ∀ b, n = some b → D b) (hp : ∀ b, σ.par o = some b → D b) (hcl' : ∀ p, σ.par o = some p → ∀ l, σ.ch p false = some l → D l) :
    Calls Yba.prog 22 #[.pointer (some ⟨S, 0, none⟩), .pointer (some ⟨o, 0, none⟩), ptr n] W fun e w' => e = .returned (.tuple #[]) ∧ Rep S D ex s0 w' (repl σ o n) ∧ Kp S D W w' := by
  have c6 := h.cell o ho 6 (by omega)
  simp only [lv] at c6
  have cr := h.side 1 (by omega)
  have fr := h.sfz 1
  unfold repl
  cases hpo : σ.par o with
  | none =>
    rw [hpo] at c6
    simp only [ptr, Option.map_none] at c6
    cases n with
    | none =>
      show Calls Yba.prog 22 #[.pointer (some ⟨S, 0, none⟩), .pointer (some ⟨o, 0, none⟩), .pointer none] W _
      go_enter Yba.func22, Yba.ntmps22
      go_wp2
      go_end0
      exact ⟨rfl, h.setRoot none, (Kp.refl S D W).set (.inl rfl) 1 _⟩
    | some b =>
      have zo := h.ne b (hn b rfl)
      have cb := h.cell b (hn b rfl) 6 (by omega)
      have fb := h.fz b (hn b rfl) 6
      show Calls Yba.prog 22 #[.pointer (some ⟨S, 0, none⟩), .pointer (some ⟨o, 0, none⟩), .pointer (some ⟨b, 0, none⟩)] W _
      go_enter Yba.func22, Yba.ntmps22
      go_wp2
      go_end0
      exact ⟨rfl, (h.setPar (hn b rfl) none).setRoot (some b), ((Kp.refl S D W).set (.inr (hn b rfl)) 6 _).set (.inl rfl) 1 _⟩
  | some p =>
    rw [hpo] at c6 hp
    simp only [ptr, Option.map_some] at c6
    have c7 := h.cell p (hp p rfl) 7 (by omega)
    have c8 := h.cell p (hp p rfl) 8 (by omega)
    have f7 := h.fz p (hp p rfl) 7
    have f8 := h.fz p (hp p rfl) 8
    simp only [lv] at c7
    dsimp only
    have hcl := hcl' p hpo
    cases hl : σ.ch p false with
    | none =>
      rw [hl] at c7
      simp only [ptr, Option.map_none] at c7
      rw [if_neg (by simp)]
      have q0 := fun w => eql_none_some w ⟨o, 0, none⟩
      cases n with
      | none =>
        show Calls Yba.prog 22 #[.pointer (some ⟨S, 0, none⟩), .pointer (some ⟨o, 0, none⟩), .pointer none] W _
        go_enter Yba.func22, Yba.ntmps22
        go_wp2
        go_end0
        exact ⟨rfl, h.setCh (hp p rfl) true none, (Kp.refl S D W).set (.inr (hp p rfl)) 8 _⟩
      | some b =>
        have cb := h.cell b (hn b rfl) 6 (by omega)
        have fb := h.fz b (hn b rfl) 6
        show Calls Yba.prog 22 #[.pointer (some ⟨S, 0, none⟩), .pointer (some ⟨o, 0, none⟩), .pointer (some ⟨b, 0, none⟩)] W _
        go_enter Yba.func22, Yba.ntmps22
        go_wp2
        go_end0
        exact ⟨rfl, (h.setPar (hn b rfl) (some p)).setCh (hp p rfl) true (some b), ((Kp.refl S D W).set (.inr (hn b rfl)) 6 _).set (.inr (hp p rfl)) 8 _⟩
    | some l =>
      rw [hl] at c7
      simp only [ptr, Option.map_some] at c7
      by_cases hlo : l = o
      · subst hlo
        rw [if_pos rfl]
        have q0 := fun w => eql_same w ⟨l, 0, none⟩
        cases n with
        | none =>
          show Calls Yba.prog 22 #[.pointer (some ⟨S, 0, none⟩), .pointer (some ⟨l, 0, none⟩), .pointer none] W _
          go_enter Yba.func22, Yba.ntmps22
          go_wp2
          go_end0
          exact ⟨rfl, h.setCh (hp p rfl) false none, (Kp.refl S D W).set (.inr (hp p rfl)) 7 _⟩
        | some b =>
          have cb := h.cell b (hn b rfl) 6 (by omega)
          have fb := h.fz b (hn b rfl) 6
          show Calls Yba.prog 22 #[.pointer (some ⟨S, 0, none⟩), .pointer (some ⟨l, 0, none⟩), .pointer (some ⟨b, 0, none⟩)] W _
          go_enter Yba.func22, Yba.ntmps22
          go_wp2
          go_end0
          exact ⟨rfl, (h.setPar (hn b rfl) (some p)).setCh (hp p rfl) false (some b), ((Kp.refl S D W).set (.inr (hn b rfl)) 6 _).set (.inr (hp p rfl)) 7 _⟩
      · rw [if_neg (by simp [hlo])]
        cases n with
        | none =>
          have q0 := eql_other W hlo (h.blk l (hcl l hl)) (h.blk o ho)
          show Calls Yba.prog 22 #[.pointer (some ⟨S, 0, none⟩), .pointer (some ⟨o, 0, none⟩), .pointer none] W _
          go_enter Yba.func22, Yba.ntmps22
          go_wp2
          go_end0
          exact ⟨rfl, h.setCh (hp p rfl) true none, (Kp.refl S D W).set (.inr (hp p rfl)) 8 _⟩
        | some b =>
          have cb := h.cell b (hn b rfl) 6 (by omega)
          have fb := h.fz b (hn b rfl) 6
          have q0 := eql_other (W.setCell ⟨b, 6, none⟩ (.pointer (some ⟨p, 0, none⟩))) hlo ((h.blk l (hcl l hl)).setCell _ _) ((h.blk o ho).setCell _ _)
          show Calls Yba.prog 22 #[.pointer (some ⟨S, 0, none⟩), .pointer (some ⟨o, 0, none⟩), .pointer (some ⟨b, 0, none⟩)] W _
          go_enter Yba.func22, Yba.ntmps22
          go_wp2
          go_end0
          exact ⟨rfl, (h.setPar (hn b rfl) (some p)).setCh (hp p rfl) true (some b), ((Kp.refl S D W).set (.inr (hn b rfl)) 6 _).set (.inr (hp p rfl)) 8 _⟩

set_option maxRecDepth 100000 in
/-- A level's children stand among the levels, and are not itself. -/
theorem setHeight_any (x : Nat) (h : Rep S D ex s0 W σ) (hx : D x) (hc : ∀ d b, σ.ch x d = some b → D b ∧ b ≠ x) (hh : ∀ b, D b → 0 ≤ σ.h b ∧ σ.h b ≤ 100) :
    Calls Yba.prog 49 #[.pointer (some ⟨x, 0, none⟩)] W fun e w' => e = .returned (.tuple #[]) ∧ Rep S D ex s0 w' (fixH σ x) ∧ Kp S D W w' := by
  have c7 := h.cell x hx 7 (by omega)
  have c8 := h.cell x hx 8 (by omega)
  have c9 := h.cell x hx 9 (by omega)
  have f9 := h.fz x hx 9
  simp only [lv] at c7 c8 c9
  have bd : ∀ o, (∀ b, o = some b → D b) → 0 ≤ hgt σ o ∧ hgt σ o ≤ 100 := fun o ho => by
    cases o with
    | none => exact ⟨by simp [hgt], by simp [hgt]⟩
    | some y => exact hh y (ho y rfl)
  have ba := bd (σ.ch x false) (fun b e => (hc _ b e).1)
  have bb := bd (σ.ch x true) (fun b e => (hc _ b e).1)
  have hR : ∀ w', (w'.heap = W.heap ∧ w'.os = W.os ∧ w'.tape = W.tape ∧ w'.output = W.output) → Rep S D ex s0 w' σ := fun w' e => by
    have e1 : ∀ p, w'.cell? p = W.cell? p := fun p => World.cell?_of_block (by rw [e.1])
    have e2 : ∀ p, w'.frozen? p = W.frozen? p := fun p => World.frozen?_of_block (by rw [e.1])
    exact ⟨fun b hb => by rw [e.1]; exact h.lt b hb, h.ne, by rw [e.1]; exact h.slt, fun b hb o ho => (e1 _).trans (h.cell b hb o ho), fun b hb o => (e2 _).trans (h.fz b hb o), fun o ho => (e1 _).trans (h.side o ho), fun o => (e2 _).trans (h.sfz o), fun b hb => by have := h.blk b hb; unfold Isc at this ⊢; rw [e.1]; exact this⟩
  go_enter Yba.func49, Yba.ntmps49
  refine wp_region_held_drew (S := fun w' => w'.cell? ⟨x, 7, none⟩ = some (ptr (σ.ch x false)) ∧ w'.cell? ⟨x, 8, none⟩ = some (ptr (σ.ch x true))) (by kernel_rfl) ⟨c7, c8⟩ (fun hHeld => ?_)
  (refine wpAnyH_take (i := 0) (oi := { dst := some 2, op := Op.move (Operand.tmp 0), type := 29, pos := _, after := #[], guard := none }) (v := ?_) rfl (by kernel_rfl) (by kernel_rfl) (by kernel_rfl) (fun _ _ _ h => h) (Or.inl ⟨by rfl, ?_⟩) (by assumption) ?_; rotate_left 1; (focus (intro w hSw; obtain ⟨hs7, hs8⟩ := hSw; go_simp; (first | done | with_reducible rfl))); try simp only [Act.put, List.setIfInBounds_toArray, List.set_cons_zero, List.set_cons_succ])
  (refine wpAnyH_take (i := 1) (oi := { dst := some 3, op := Op.move (Operand.tmp 0), type := 29, pos := _, after := #[], guard := none }) (v := ?_) rfl (by kernel_rfl) (by kernel_rfl) (by kernel_rfl) (fun _ _ _ h => h) (Or.inl ⟨by rfl, ?_⟩) (by assumption) ?_; rotate_left 1; (focus (intro w hSw; obtain ⟨hs7, hs8⟩ := hSw; go_simp; (first | done | with_reducible rfl))); try simp only [Act.put, List.setIfInBounds_toArray, List.set_cons_zero, List.set_cons_succ])
  (refine wpAnyH_take (i := 2) (oi := { dst := some 4, op := Op.nilCheck (Operand.tmp 3), type := 0, pos := _, after := #[{ on := 1, ground := Ground.data }], guard := none }) (v := ?_) rfl (by kernel_rfl) (by kernel_rfl) (by kernel_rfl) (fun _ _ _ h => h) (Or.inl ⟨by rfl, ?_⟩) (by assumption) ?_; rotate_left 1; (focus (intro w hSw; obtain ⟨hs7, hs8⟩ := hSw; go_simp; (first | done | with_reducible rfl))); try simp only [Act.put, List.setIfInBounds_toArray, List.set_cons_zero, List.set_cons_succ])
  (refine wpAnyH_take (i := 3) (oi := { dst := some 5, op := Op.fieldAddr 37 (Operand.tmp 4) 6, type := 0, pos := _, after := #[{ on := 2, ground := Ground.data }], guard := none }) (v := ?_) rfl (by kernel_rfl) (by kernel_rfl) (by kernel_rfl) (fun _ _ _ h => h) (Or.inl ⟨by rfl, ?_⟩) (by assumption) ?_; rotate_left 1; (focus (intro w hSw; obtain ⟨hs7, hs8⟩ := hSw; go_simp; (first | done | with_reducible rfl))); try simp only [Act.put, List.setIfInBounds_toArray, List.set_cons_zero, List.set_cons_succ])
  (refine wpAnyH_take (i := 4) (oi := { dst := some 6, op := Op.indexAddr 31 (Operand.tmp 5) (Operand.const (Value.int IntKind.i64 0)), type := 0, pos := _, after := #[{ on := 3, ground := Ground.data }], guard := none }) (v := ?_) rfl (by kernel_rfl) (by kernel_rfl) (by kernel_rfl) (fun _ _ _ h => h) (Or.inl ⟨by rfl, ?_⟩) (by assumption) ?_; rotate_left 1; (focus (intro w hSw; obtain ⟨hs7, hs8⟩ := hSw; go_simp; (first | done | with_reducible rfl))); try simp only [Act.put, List.setIfInBounds_toArray, List.set_cons_zero, List.set_cons_succ])
  (refine wpAnyH_take (i := 5) (oi := { dst := some 7, op := Op.load 29 (Operand.tmp 6), type := 29, pos := _, after := #[{ on := 4, ground := Ground.data }], guard := none }) (v := ?_) rfl (by kernel_rfl) (by kernel_rfl) (by kernel_rfl) (fun _ _ _ h => h) (Or.inl ⟨by rfl, ?_⟩) (by assumption) ?_; rotate_left 1; (focus (intro w hSw; obtain ⟨hs7, hs8⟩ := hSw; go_simp; (first | done | with_reducible rfl))); try simp only [Act.put, List.setIfInBounds_toArray, List.set_cons_zero, List.set_cons_succ])
  (refine wpAnyH_take (i := 7) (oi := { dst := some 9, op := Op.move (Operand.tmp 0), type := 29, pos := _, after := #[], guard := none }) (v := ?_) rfl (by kernel_rfl) (by kernel_rfl) (by kernel_rfl) (fun _ _ _ h => h) (Or.inl ⟨by rfl, ?_⟩) (by assumption) ?_; rotate_left 1; (focus (intro w hSw; obtain ⟨hs7, hs8⟩ := hSw; go_simp; (first | done | with_reducible rfl))); try simp only [Act.put, List.setIfInBounds_toArray, List.set_cons_zero, List.set_cons_succ])
  (refine wpAnyH_take (i := 8) (oi := { dst := some 10, op := Op.nilCheck (Operand.tmp 9), type := 0, pos := _, after := #[{ on := 7, ground := Ground.data }], guard := none }) (v := ?_) rfl (by kernel_rfl) (by kernel_rfl) (by kernel_rfl) (fun _ _ _ h => h) (Or.inl ⟨by rfl, ?_⟩) (by assumption) ?_; rotate_left 1; (focus (intro w hSw; obtain ⟨hs7, hs8⟩ := hSw; go_simp; (first | done | with_reducible rfl))); try simp only [Act.put, List.setIfInBounds_toArray, List.set_cons_zero, List.set_cons_succ])
  (refine wpAnyH_take (i := 9) (oi := { dst := some 11, op := Op.fieldAddr 37 (Operand.tmp 10) 6, type := 0, pos := _, after := #[{ on := 8, ground := Ground.data }], guard := none }) (v := ?_) rfl (by kernel_rfl) (by kernel_rfl) (by kernel_rfl) (fun _ _ _ h => h) (Or.inl ⟨by rfl, ?_⟩) (by assumption) ?_; rotate_left 1; (focus (intro w hSw; obtain ⟨hs7, hs8⟩ := hSw; go_simp; (first | done | with_reducible rfl))); try simp only [Act.put, List.setIfInBounds_toArray, List.set_cons_zero, List.set_cons_succ])
  (refine wpAnyH_take (i := 10) (oi := { dst := some 12, op := Op.indexAddr 31 (Operand.tmp 11) (Operand.const (Value.int IntKind.i64 1)), type := 0, pos := _, after := #[{ on := 9, ground := Ground.data }], guard := none }) (v := ?_) rfl (by kernel_rfl) (by kernel_rfl) (by kernel_rfl) (fun _ _ _ h => h) (Or.inl ⟨by rfl, ?_⟩) (by assumption) ?_; rotate_left 1; (focus (intro w hSw; obtain ⟨hs7, hs8⟩ := hSw; go_simp; (first | done | with_reducible rfl))); try simp only [Act.put, List.setIfInBounds_toArray, List.set_cons_zero, List.set_cons_succ])
  (refine wpAnyH_take (i := 11) (oi := { dst := some 13, op := Op.load 29 (Operand.tmp 12), type := 29, pos := _, after := #[{ on := 10, ground := Ground.data }], guard := none }) (v := ?_) rfl (by kernel_rfl) (by kernel_rfl) (by kernel_rfl) (fun _ _ _ h => h) (Or.inl ⟨by rfl, ?_⟩) (by assumption) ?_; rotate_left 1; (focus (intro w hSw; obtain ⟨hs7, hs8⟩ := hSw; go_simp; (first | done | with_reducible rfl))); try simp only [Act.put, List.setIfInBounds_toArray, List.set_cons_zero, List.set_cons_succ])
  (refine wpAnyH_ready (rs := [6]) (by kernel_rfl) (by simp) ?_; refine AllReadyH.cons (o := { dst := some 8, op := Op.call { callee := Callee.value (Operand.func 48), args := #[Operand.tmp 7], argTypes := #[29] }, type := 35, pos := _, after := #[{ on := 5, ground := Ground.data }], guard := none }) rfl (fun K hK => ?_) AllReadyH.nil)
  go_simp
  refine (height_any (σ.ch x false) h.drew (fun b e => (hc _ b e).1)).mono ?_
  rintro e w1 ⟨rfl, rfl⟩
  refine hK.out _ _ ⟨c7, c8⟩ (fun h2 => ?_)
  clear hK K
  try simp only [Act.put, List.setIfInBounds_toArray, List.set_cons_zero, List.set_cons_succ]
  (refine wpAnyH_ready (rs := [12]) (by kernel_rfl) (by simp) ?_; refine AllReadyH.cons (o := { dst := some 14, op := Op.call { callee := Callee.value (Operand.func 48), args := #[Operand.tmp 13], argTypes := #[29] }, type := 35, pos := _, after := #[{ on := 11, ground := Ground.data }, { on := 6, ground := Ground.chain }], guard := none }) rfl (fun K hK => ?_) AllReadyH.nil)
  go_simp
  refine (height_any (σ.ch x true) h.drew (fun b e => (hc _ b e).1)).mono ?_
  rintro e w1 ⟨rfl, rfl⟩
  refine hK.out _ _ ⟨c7, c8⟩ (fun h3 => ?_)
  clear hK K
  try simp only [Act.put, List.setIfInBounds_toArray, List.set_cons_zero, List.set_cons_succ]
  (refine wpAnyH_take (i := 13) (oi := { dst := some 15, op := Op.call { callee := Callee.builtin Builtin.max, args := #[Operand.tmp 8, Operand.tmp 14], argTypes := #[35, 35] }, type := 35, pos := _, after := #[{ on := 6, ground := Ground.data }, { on := 12, ground := Ground.data }], guard := none }) (v := ?_) rfl (by kernel_rfl) (by kernel_rfl) (by kernel_rfl) (fun _ _ _ h => h) (Or.inl ⟨by rfl, ?_⟩) (by assumption) ?_; rotate_left 1; (focus (intro w hSw; obtain ⟨hs7, hs8⟩ := hSw; go_simp; (first | done | with_reducible rfl))); try simp only [Act.put, List.setIfInBounds_toArray, List.set_cons_zero, List.set_cons_succ])
  (refine wpAnyH_take (i := 14) (oi := { dst := some 16, op := Op.binOp BinOp.add 35 (Operand.const (Value.int IntKind.i8 1)) (Operand.tmp 15) 35, type := 35, pos := _, after := #[{ on := 13, ground := Ground.data }], guard := none }) (v := ?_) rfl (by kernel_rfl) (by kernel_rfl) (by kernel_rfl) (fun _ _ _ h => h) (Or.inl ⟨by rfl, ?_⟩) (by assumption) ?_; rotate_left 1; (focus (intro w hSw; obtain ⟨hs7, hs8⟩ := hSw; go_simp; (first | done | with_reducible rfl))); try simp only [Act.put, List.setIfInBounds_toArray, List.set_cons_zero, List.set_cons_succ])
  (refine wpAnyH_take (i := 15) (oi := { dst := some 17, op := Op.nilCheck (Operand.tmp 2), type := 0, pos := _, after := #[{ on := 0, ground := Ground.data }, { on := 0, ground := Ground.phase }, { on := 1, ground := Ground.phase }, { on := 2, ground := Ground.phase }, { on := 3, ground := Ground.phase }, { on := 4, ground := Ground.phase }, { on := 5, ground := Ground.phase }, { on := 6, ground := Ground.phase }, { on := 7, ground := Ground.phase }, { on := 8, ground := Ground.phase }, { on := 9, ground := Ground.phase }, { on := 10, ground := Ground.phase }, { on := 11, ground := Ground.phase }, { on := 12, ground := Ground.phase }, { on := 13, ground := Ground.phase }, { on := 14, ground := Ground.phase }], guard := none }) (v := ?_) rfl (by kernel_rfl) (by kernel_rfl) (by kernel_rfl) (fun _ _ _ h => h) (Or.inl ⟨by rfl, ?_⟩) (by assumption) ?_; rotate_left 1; (focus (intro w hSw; obtain ⟨hs7, hs8⟩ := hSw; go_simp; (first | done | with_reducible rfl))); try simp only [Act.put, List.setIfInBounds_toArray, List.set_cons_zero, List.set_cons_succ])
  (refine wpAnyH_take (i := 16) (oi := { dst := some 18, op := Op.fieldAddr 37 (Operand.tmp 17) 7, type := 0, pos := _, after := #[{ on := 15, ground := Ground.data }, { on := 0, ground := Ground.phase }, { on := 1, ground := Ground.phase }, { on := 2, ground := Ground.phase }, { on := 3, ground := Ground.phase }, { on := 4, ground := Ground.phase }, { on := 5, ground := Ground.phase }, { on := 6, ground := Ground.phase }, { on := 7, ground := Ground.phase }, { on := 8, ground := Ground.phase }, { on := 9, ground := Ground.phase }, { on := 10, ground := Ground.phase }, { on := 11, ground := Ground.phase }, { on := 12, ground := Ground.phase }, { on := 13, ground := Ground.phase }, { on := 14, ground := Ground.phase }], guard := none }) (v := ?_) rfl (by kernel_rfl) (by kernel_rfl) (by kernel_rfl) (fun _ _ _ h => h) (Or.inl ⟨by rfl, ?_⟩) (by assumption) ?_; rotate_left 1; (focus (intro w hSw; obtain ⟨hs7, hs8⟩ := hSw; go_simp; (first | done | with_reducible rfl))); try simp only [Act.put, List.setIfInBounds_toArray, List.set_cons_zero, List.set_cons_succ])
  (refine wpAnyH_ready (rs := [17]) (by kernel_rfl) (by simp) ?_; refine AllReadyH.cons (o := { dst := none, op := Op.store 35 (Operand.tmp 18) (Operand.tmp 16), type := 0, pos := _, after := #[{ on := 16, ground := Ground.data }, { on := 14, ground := Ground.data }, { on := 12, ground := Ground.chain }, { on := 0, ground := Ground.phase }, { on := 1, ground := Ground.phase }, { on := 2, ground := Ground.phase }, { on := 3, ground := Ground.phase }, { on := 4, ground := Ground.phase }, { on := 5, ground := Ground.phase }, { on := 6, ground := Ground.phase }, { on := 7, ground := Ground.phase }, { on := 8, ground := Ground.phase }, { on := 9, ground := Ground.phase }, { on := 10, ground := Ground.phase }, { on := 11, ground := Ground.phase }, { on := 12, ground := Ground.phase }, { on := 13, ground := Ground.phase }, { on := 14, ground := Ground.phase }], guard := none }) rfl (fun K hK => ?_) AllReadyH.nil)
  go_simp
  have hmx : (if hgt σ (σ.ch x false) < hgt σ (σ.ch x true) then hgt σ (σ.ch x true) else hgt σ (σ.ch x false)) = max (hgt σ (σ.ch x false)) (hgt σ (σ.ch x true)) := by split <;> omega
  have hwr : IntKind.i8.wrap (1 + max (hgt σ (σ.ch x false)) (hgt σ (σ.ch x true))) = 1 + max (hgt σ (σ.ch x false)) (hgt σ (σ.ch x true)) := wrap8 (by omega) (by omega)
  rw [hmx, hwr]
  refine hK.out _ _ ⟨(World.cell?_setCell_other _ _ _ _ (by simp)).trans c7, (World.cell?_setCell_other _ _ _ _ (by simp)).trans c8⟩ (fun h4 => ?_)
  clear hK K
  try simp only [Act.put, List.setIfInBounds_toArray, List.set_cons_zero, List.set_cons_succ]
  refine wpAnyH_done (by kernel_rfl) ?_ _
  go_wp2
  go_end0
  exact ⟨rfl, (h.setH hx _).drew, ((Kp.refl S D W).set (.inr hx) 9 _).drew⟩
end

end Go.Proofs.Ybulkjrk
