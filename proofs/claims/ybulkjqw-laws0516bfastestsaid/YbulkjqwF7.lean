import Derived.Test.YbulkjqwF6
namespace Go.Proofs.Ybulkjqw
open Go.RowKit Go.Shelf
set_option linter.unusedSimpArgs false
set_option linter.unusedVariables false
attribute [local go_sem] Oper.semAt_some

/-- The code of the loop of workflow.node over the nodes with room. -/
def cAt : List Bool → Code → Code
  | [], c => c
  | true :: r, .seq _ y => cAt r y
  | false :: r, .seq x _ => cAt r x
  | _ :: r, .block _ x => cAt r x
  | _ :: r, .loop x => cAt r x
  | true :: r, .rangeFunc _ _ _ y => cAt r y
  | false :: r, .rangeFunc _ _ x _ => cAt r x
  | _ :: _, c => c


/-- The pick of workflow.node: found, the node, its slices, its vCPUs. -/
def pk (v s : Nat → Int) (l : List Nat) : Bool × Int × Int × Int :=
  l.foldl (fun acc k => if acc.1 = false ∨ acc.2.2.1 < s k ∨ (s k = acc.2.2.1 ∧ (acc.2.2.2 < v k ∨ (v k = acc.2.2.2 ∧ (k : Int) < acc.2.1))) then (true, (k : Int), s k, v k) else acc) (false, 0, 0, 0)

theorem pk_snoc (v s : Nat → Int) (pre : List Nat) (k : Nat) : pk v s (pre ++ [k]) = if (pk v s pre).1 = false ∨ (pk v s pre).2.2.1 < s k ∨ (s k = (pk v s pre).2.2.1 ∧ ((pk v s pre).2.2.2 < v k ∨ (v k = (pk v s pre).2.2.2 ∧ (k : Int) < (pk v s pre).2.1))) then (true, (k : Int), s k, v k) else pk v s pre := by
  unfold pk
  rw [List.foldl_append]
  rfl

def row4 (a b : Int) : Nat → Int := fun i => if i = 2 then a else if i = 3 then b else 0

theorem lex_row (a b c d : Int) : lexTo (row4 a b) (row4 c d) 4 = if a < c then -1 else if c < a then 1 else cmpI b d := by
  have h2 : lexTo (row4 a b) (row4 c d) 2 = 0 := by
    rw [lexTo, lexTo, lexTo]
    simp [row4, cmpI]
  have h3 : lexTo (row4 a b) (row4 c d) 3 = cmpI a c := by
    rw [lexTo, h2, if_pos rfl]
    rfl
  rw [lexTo, h3]
  show (if cmpI a c = 0 then cmpI b d else cmpI a c) = _
  unfold cmpI
  by_cases h5 : a < c
  · simp [h5]
  · by_cases h6 : c < a
    · simp [h5, h6]
    · simp [h5, h6]

theorem better_iff (a b c d best k : Int) : 0 < (if lexTo (row4 a b) (row4 c d) 4 = 0 then cmpI best k else lexTo (row4 a b) (row4 c d) 4) ↔ (c < a ∨ (a = c ∧ (d < b ∨ (b = d ∧ k < best)))) := by
  rw [lex_row]
  unfold cmpI
  by_cases h5 : a < c
  · simp only [h5, if_true]; simp; omega
  · by_cases h6 : c < a
    · simp only [h5, h6, if_true, if_false]; simp
    · simp only [h5, h6, if_false]
      by_cases h7 : b < d
      · simp only [h7, if_true]; simp; omega
      · by_cases h8 : d < b
        · simp only [h7, h8, if_true, if_false]; simp; omega
        · simp only [h7, h8, if_false, if_true]
          by_cases h9 : best < k
          · simp only [h9, if_true]; simp; omega
          · by_cases h10 : k < best
            · simp only [h9, h10, if_true, if_false]; simp; omega
            · simp only [h9, h10, if_false]; simp

/-- What the loop keeps between two rounds. -/
structure LI (n₀ R : Nat) (bq : Nat) (w W0 W : World) (p : Bool × Int × Int × Int) : Prop where
  best : W.cell? ⟨n₀ + 1, 0, none⟩ = some (.int .i64 p.2.1)
  ok : W.cell? ⟨n₀ + 2, 0, none⟩ = some (.bool p.1)
  qb : W.cell? ⟨n₀ + 3, 0, none⟩ = some (.pointer (some ⟨bq, 0, none⟩))
  r0 : W.cell? ⟨R, 0, none⟩ = some (.int .i64 0)
  r1 : W.cell? ⟨R, 1, none⟩ = some (.int .i64 0)
  r2 : W.cell? ⟨R, 2, none⟩ = some (.int .i64 p.2.2.1)
  r3 : W.cell? ⟨R, 3, none⟩ = some (.int .i64 p.2.2.2)
  fbest : W.frozen? ⟨n₀ + 1, 0, none⟩ = false
  fok : W.frozen? ⟨n₀ + 2, 0, none⟩ = false
  f0 : W.frozen? ⟨R, 0, none⟩ = false
  f1 : W.frozen? ⟨R, 1, none⟩ = false
  f2 : W.frozen? ⟨R, 2, none⟩ = false
  f3 : W.frozen? ⟨R, 3, none⟩ = false
  size : W0.heap.size ≤ W.heap.size
  below : Below n₀ w W

theorem LI.own {n₀ R bq : Nat} {w W0 : World} (v s : Nat → Int) (hw : n₀ ≤ W0.heap.size) : OwnFrom W0.heap.size (fun (pre : List Nat) W => LI n₀ R bq w W0 W (pk v s pre)) := by
  intro pre X Y row h hg hr
  have hr2 : ∀ r, row = some r → ∃ o : Obj, X.heap[r]? = some o ∧ o.isCells = false := fun r e => (hr r e).2
  exact ⟨cell_kept h.best hg hr2, cell_kept h.ok hg hr2, cell_kept h.qb hg hr2, cell_kept h.r0 hg hr2, cell_kept h.r1 hg hr2, cell_kept h.r2 hg hr2, cell_kept h.r3 hg hr2,
    (frozen_kept h.best hg hr2).trans h.fbest, (frozen_kept h.ok hg hr2).trans h.fok, (frozen_kept h.r0 hg hr2).trans h.f0, (frozen_kept h.r1 hg hr2).trans h.f1, (frozen_kept h.r2 hg hr2).trans h.f2, (frozen_kept h.r3 hg hr2).trans h.f3,
    Nat.le_trans h.size hg.size, h.below.grown hg (Nat.le_trans hw h.size) (fun k e => Nat.le_trans hw (hr k e).1)⟩

theorem LI.over {n₀ R bq : Nat} {w W0 W W' : World} {p : Bool × Int × Int × Int} (h : LI n₀ R bq w W0 W p) (hw : n₀ + 3 < R) (hR : R < W.heap.size) (hb : Below W.heap.size W W') : LI n₀ R bq w W0 W' p := by
  have c := (bcell hb).1
  have f := (bcell hb).2
  exact ⟨(c _ _ (by omega)).trans h.best, (c _ _ (by omega)).trans h.ok, (c _ _ (by omega)).trans h.qb, (c _ _ hR).trans h.r0, (c _ _ hR).trans h.r1, (c _ _ hR).trans h.r2, (c _ _ hR).trans h.r3,
    (f _ _ (by omega)).trans h.fbest, (f _ _ (by omega)).trans h.fok, (f _ _ hR).trans h.f0, (f _ _ hR).trans h.f1, (f _ _ hR).trans h.f2, (f _ _ hR).trans h.f3, Nat.le_trans h.size hb.size, h.below.trans (hb.mono (by omega))⟩

theorem or2_is (r : Int) (b : Nat) (x y : Int) (hr : Hid (r = if x = 0 then y else x)) (w : World) (h0 : w.cell? ⟨b, 0, none⟩ = some (.int .i64 x)) (h1 : w.cell? ⟨b, 1, none⟩ = some (.int .i64 y)) :
    Calls Yba.prog 24 #[.slice (some ⟨b, 0, none⟩) 2 2] w fun e w' => e = .returned (.int .i64 r) ∧ w = w' := by
  refine (or2 b x y w h0 h1).mono ?_
  rintro e w' ⟨rfl, rfl⟩
  exact ⟨by rw [hr.out], rfl⟩

/-- What lay when the region began lies as it lay. -/
def FR (W1 w' : World) : Prop := (∀ b o, b < W1.heap.size → w'.cell? ⟨b, o, none⟩ = W1.cell? ⟨b, o, none⟩) ∧ W1.heap.size ≤ w'.heap.size ∧ Below W1.heap.size W1 w'
theorem FR.start (W : World) : FR W W.drew := ⟨fun _ _ _ => rfl, Nat.le_refl _, ⟨rfl, rfl, rfl, Nat.le_refl _, fun _ _ => rfl⟩⟩
theorem FR.of {W w' : World} (h : Below W.heap.size W w') : FR W w' := ⟨(bcell h).1, h.size, h⟩
theorem FR.next {W w' w'' : World} (h : FR W w') (hb : Below w'.heap.size w' w'') : FR W w'' := FR.of (h.2.2.trans (hb.mono h.2.1))

/-- One store of the pick. -/
theorem put_cell {W : World} {b o : Nat} {u v : Value} (h : W.cell? ⟨b, o, none⟩ = some u) : (W.setCell ⟨b, o, none⟩ v).cell? ⟨b, o, none⟩ = some v := World.cell?_setCell_same _ _ _ h
theorem put_other {W : World} {b o b' o' : Nat} {v : Value} (h : b ≠ b' ∨ o ≠ o') : (W.setCell ⟨b, o, none⟩ v).cell? ⟨b', o', none⟩ = W.cell? ⟨b', o', none⟩ :=
  World.cell?_setCell_other _ _ _ _ (by intro e; cases e; rcases h with h | h <;> exact h rfl)

/-- The world behind the stores of the pick. -/
def picked (n₀ R : Nat) (W : World) (x a b : Int) : World :=
  (((((W.setCell ⟨n₀ + 1, 0, none⟩ (.int .i64 x)).setCell ⟨R, 0, none⟩ (.int .i64 0)).setCell ⟨R, 1, none⟩ (.int .i64 0)).setCell ⟨R, 2, none⟩ (.int .i64 a)).setCell ⟨R, 3, none⟩ (.int .i64 b)).setCell ⟨n₀ + 2, 0, none⟩ (.bool true)

theorem picked_below {n₀ R : Nat} (W : World) (x a b : Int) (hR : n₀ + 3 < R) : Below n₀ W (picked n₀ R W x a b) :=
  ((((((Below.refl n₀ W).setCell (p := ⟨n₀ + 1, 0, none⟩) (by simp) _).setCell (p := ⟨R, 0, none⟩) (by simp; omega) _).setCell (p := ⟨R, 1, none⟩) (by simp; omega) _).setCell (p := ⟨R, 2, none⟩) (by simp; omega) _).setCell (p := ⟨R, 3, none⟩) (by simp; omega) _).setCell (p := ⟨n₀ + 2, 0, none⟩) (by simp) _

theorem picked_keeps {n₀ R : Nat} (W : World) (x a b : Int) : KeepsOthers W (picked n₀ R W x a b) :=
  (((((KeepsOthers.setCell _ _ _).trans (KeepsOthers.setCell _ _ _)).trans (KeepsOthers.setCell _ _ _)).trans (KeepsOthers.setCell _ _ _)).trans (KeepsOthers.setCell _ _ _)).trans (KeepsOthers.setCell _ _ _)

theorem picked_far {n₀ R : Nat} (W : World) (x a b : Int) (k : Nat) (h1 : k ≠ n₀ + 1) (h2 : k ≠ n₀ + 2) (h3 : k ≠ R) : (picked n₀ R W x a b).heap[k]? = W.heap[k]? := by
  unfold picked
  rw [Below.heap_setCell _ _ _ _ (by simpa using h2), Below.heap_setCell _ _ _ _ (by simpa using h3), Below.heap_setCell _ _ _ _ (by simpa using h3), Below.heap_setCell _ _ _ _ (by simpa using h3), Below.heap_setCell _ _ _ _ (by simpa using h3), Below.heap_setCell _ _ _ _ (by simpa using h1)]

theorem LI.picked {n₀ R bq : Nat} {w W0 W : World} {p : Bool × Int × Int × Int} (h : LI n₀ R bq w W0 W p) (hR : n₀ + 3 < R) (x a b : Int) : LI n₀ R bq w W0 (picked n₀ R W x a b) (true, x, a, b) := by
  refine ⟨?_, ?_, ?_, ?_, ?_, ?_, ?_, ?_, ?_, ?_, ?_, ?_, ?_, Nat.le_trans h.size (picked_below W x a b hR).size, h.below.trans (picked_below W x a b hR)⟩
  · unfold Ybulkjqw.picked
    rw [put_other (by omega), put_other (by omega), put_other (by omega), put_other (by omega), put_other (by omega)]
    exact put_cell h.best
  · unfold Ybulkjqw.picked
    refine put_cell (u := .bool p.1) ?_
    rw [put_other (by omega), put_other (by omega), put_other (by omega), put_other (by omega), put_other (by omega)]
    exact h.ok
  · unfold Ybulkjqw.picked
    rw [put_other (by omega), put_other (by omega), put_other (by omega), put_other (by omega), put_other (by omega), put_other (by omega)]
    exact h.qb
  · unfold Ybulkjqw.picked
    rw [put_other (by omega), put_other (by omega), put_other (by omega), put_other (by omega)]
    refine put_cell (u := .int .i64 0) ?_
    rw [put_other (by omega)]
    exact h.r0
  · unfold Ybulkjqw.picked
    rw [put_other (by omega), put_other (by omega), put_other (by omega)]
    refine put_cell (u := .int .i64 0) ?_
    rw [put_other (by omega), put_other (by omega)]
    exact h.r1
  · unfold Ybulkjqw.picked
    rw [put_other (by omega), put_other (by omega)]
    refine put_cell (u := .int .i64 p.2.2.1) ?_
    rw [put_other (by omega), put_other (by omega), put_other (by omega)]
    exact h.r2
  · unfold Ybulkjqw.picked
    rw [put_other (by omega)]
    refine put_cell (u := .int .i64 p.2.2.2) ?_
    rw [put_other (by omega), put_other (by omega), put_other (by omega), put_other (by omega)]
    exact h.r3
  · simp [Ybulkjqw.picked, h.fbest]
  · simp [Ybulkjqw.picked, h.fok]
  · simp [Ybulkjqw.picked, h.f0]
  · simp [Ybulkjqw.picked, h.f1]
  · simp [Ybulkjqw.picked, h.f2]
  · simp [Ybulkjqw.picked, h.f3]

theorem LI.drew {n₀ R bq : Nat} {w W0 W : World} {p : Bool × Int × Int × Int} (h : LI n₀ R bq w W0 W p) : LI n₀ R bq w W0 W.drew p :=
  ⟨h.best, h.ok, h.qb, h.r0, h.r1, h.r2, h.r3, h.fbest, h.fok, h.f0, h.f1, h.f2, h.f3, h.size, h.below.trans ⟨rfl, rfl, rfl, Nat.le_refl _, fun _ _ => rfl⟩⟩

theorem keepsFrom_of_below {B : Nat} {W W' : World} (h : Below W.heap.size W W') : KeepsFrom B W W' := ⟨h.size, fun k o _ hk _ => (h.block k (Array.getElem?_eq_some_iff.1 hk).1).trans hk⟩

theorem picked_ends {n₀ R bq Bc B : Nat} {w W0 W W3 : World} {p : Bool × Int × Int × Int} (h : LI n₀ R bq w W0 W3 p) (hR : n₀ + 3 < R) (hBc : R < Bc) (hB : Below W.heap.size W W3) (hBcW : Bc < W.heap.size) (x a b : Int) :
    KeepsFrom B W (picked n₀ R W3 x a b).drew ∧ Kpc n₀ Bc W (picked n₀ R W3 x a b).drew ∧ LI n₀ R bq w W0 (picked n₀ R W3 x a b).drew (true, x, a, b) := by
  refine ⟨(keepsFrom_of_below hB).trans (((picked_keeps (n₀ := n₀) (R := R) W3 x a b).trans (KeepsOthers.drew _)).from _), ⟨((hB.mono (by omega)).trans (picked_below W3 x a b hR)).drew, ?_⟩, (h.picked hR x a b).drew⟩
  have hdr : ∀ Y : World, Y.drew.heap = Y.heap := fun _ => rfl
  rw [hdr, picked_far W3 x a b Bc (by omega) (by omega) (by omega)]
  exact hB.block Bc hBcW

theorem ownPost_goes {B : Nat} {Kp : World → World → Prop} {I : List Nat → World → Prop} {Ix : Code → List Nat → World → Prop} {xs : List Nat} {W W' : World} {a : Act} (h : KeepsFrom B W W' ∧ Kp W W' ∧ I xs W') : ownPostG B Kp I Ix xs W .normal a W' := h

set_option maxRecDepth 100000 in
set_option maxHeartbeats 1000000 in
theorem loop_any (u0 u1 u2 u3 u4 u5 u6 u7 u11 u12 u13 u14 u15 u16 u17 u18 u19 u20 u22 u23 u24 u25 u26 u27 u28 u29 u30 u31 u32 u33 u34 u35 u36 u37 u38 u39 u40 u41 u42 u43 u44 u45 u46 u47 u48 u49 u50 u51 u52 u53 u54 u55 u56 u57 u58 u59 u60 u61 u62 u63 u64 u65 u66 u67 u68 u69 u70 u71 u72 u73 u74 u75 u76 u77 u78 u79 u80 u81 u82 u83 u84 u85 u86 u87 u88 u89 u90 u91 u92 u93 u94 u95 u96 u97 u98 u99 u100 u101 u102 u103 u104 u105 u106 u107 u108 u109 u110 u111 u112 u113 u114 u115 u116 u117 u118 u119 u120 u121 u122 u123 u124 u125 u126 u127 u128 u129 u130 u131 u132 u133 u134 u135 u136 u138 u139 u140 u141 u142 u143 u144 u145 u146 u147 u148 u149 u150 u151 u152 u153 u154 u155 u156 u157 u158 u159 u160 u161 u162 u163 u164 u165 u166 u167 u168 u169 u170 u171 u172 : Value) (n₀ R Be Bc be bsn ba bf bn bp bq bj br : Nat) (bc bd : Nat → Nat) (N m hd : Nat) (req : Nat → Int) (v s : Nat → Int) (B cv cs L : Int) (hN : N ≤ 256) (w W0 : World)
    (E : ∀ W', Below n₀ w W' → Emu W' be bsn ba bf bn bp bq bj br bc bd N m hd req v s) (hn0 : n₀ ≤ w.heap.size)
    (hR : n₀ + 3 < R) (hBe : R < Be) (hBc : R < Bc) (hBe0 : Be < W0.heap.size) (hBc0 : Bc < W0.heap.size) (hI0 : LI n₀ R bq w W0 W0 (pk v s []))
    (hce : W0.cell? ⟨Be, 0, none⟩ = some (.pointer (some ⟨be, 0, none⟩)))
    (hc0 : W0.cell? ⟨Bc, 0, none⟩ = some (.int .i64 B)) (hc1 : W0.cell? ⟨Bc, 1, none⟩ = some (.int .i64 cv)) (hc2 : W0.cell? ⟨Bc, 2, none⟩ = some (.int .i64 cs)) (hc3 : W0.cell? ⟨Bc, 3, none⟩ = some (.int .i64 L))
    (Q : Exit → Act → World → Prop)
    (hdone : ∀ D W, W0.heap.size ≤ D → LI n₀ R bq w W0 W (pk v s (roomy cv cs v s N)) → W.heap[D]? = some (.deferred (some [])) → Q .normal { tmps := #[u0, u1, u2, u3, u4, u5, u6, u7, .pointer (some ⟨n₀ + 1, 0, none⟩), .pointer (some ⟨n₀ + 2, 0, none⟩), .pointer (some ⟨n₀ + 3, 0, none⟩), u11, u12, u13, u14, u15, u16, u17, u18, u19, u20, .pointer (some ⟨R, 0, none⟩), u22, u23, u24, u25, u26, u27, u28, u29, u30, u31, u32, u33, u34, u35, u36, u37, u38, u39, u40, u41, u42, u43, u44, u45, u46, u47, u48, u49, u50, u51, u52, u53, u54, u55, u56, u57, u58, u59, u60, u61, u62, u63, u64, u65, u66, u67, u68, u69, u70, u71, u72, u73, u74, u75, u76, u77, u78, u79, u80, u81, u82, u83, u84, u85, u86, u87, u88, u89, u90, u91, u92, u93, u94, u95, u96, u97, u98, u99, u100, u101, u102, u103, u104, u105, u106, u107, u108, u109, u110, u111, u112, u113, u114, u115, u116, u117, u118, u119, u120, u121, u122, u123, u124, u125, u126, u127, u128, u129, u130, u131, u132, u133, u134, u135, u136, .func (.func 27) #[] #[.pointer (some ⟨Be, 0, none⟩), .pointer (some ⟨Bc, 0, none⟩)], u138, u139, u140, u141, u142, u143, u144, u145, u146, u147, u148, u149, u150, u151, u152, u153, u154, u155, u156, u157, u158, u159, u160, u161, u162, u163, u164, u165, u166, u167, u168, u169, u170, u171, u172], defers := [{ target := .collected D, args := #[] }] } W) :
    (Code.rangeFunc (Operand.tmp 137) #[138, 139] (cAt [true, true, true, true, true, true, true, true, false, true, true, false] (Yba.f18.body.getD .skip)) (cAt [true, true, true, true, true, true, true, true, false, true, true, true] (Yba.f18.body.getD .skip))).wpIn Fence.wide 4 Yba.prog Q { tmps := #[u0, u1, u2, u3, u4, u5, u6, u7, .pointer (some ⟨n₀ + 1, 0, none⟩), .pointer (some ⟨n₀ + 2, 0, none⟩), .pointer (some ⟨n₀ + 3, 0, none⟩), u11, u12, u13, u14, u15, u16, u17, u18, u19, u20, .pointer (some ⟨R, 0, none⟩), u22, u23, u24, u25, u26, u27, u28, u29, u30, u31, u32, u33, u34, u35, u36, u37, u38, u39, u40, u41, u42, u43, u44, u45, u46, u47, u48, u49, u50, u51, u52, u53, u54, u55, u56, u57, u58, u59, u60, u61, u62, u63, u64, u65, u66, u67, u68, u69, u70, u71, u72, u73, u74, u75, u76, u77, u78, u79, u80, u81, u82, u83, u84, u85, u86, u87, u88, u89, u90, u91, u92, u93, u94, u95, u96, u97, u98, u99, u100, u101, u102, u103, u104, u105, u106, u107, u108, u109, u110, u111, u112, u113, u114, u115, u116, u117, u118, u119, u120, u121, u122, u123, u124, u125, u126, u127, u128, u129, u130, u131, u132, u133, u134, u135, u136, .func (.func 27) #[] #[.pointer (some ⟨Be, 0, none⟩), .pointer (some ⟨Bc, 0, none⟩)], u138, u139, u140, u141, u142, u143, u144, u145, u146, u147, u148, u149, u150, u151, u152, u153, u154, u155, u156, u157, u158, u159, u160, u161, u162, u163, u164, u165, u166, u167, u168, u169, u170, u171, u172], defers := [] } W0 := by
  have hmx : Yba.prog.follows .mixedOrders = true := by kernel_rfl
  have hsz : n₀ ≤ W0.heap.size := by omega
  refine wpIn_rangeFunc_ownH (w0 := W0) (Kp := Kpc n₀ Bc) (S := fun xs => xs = roomy cv cs v s N) (Sp := fun _ => True) (N := N) (encs := fun k : Nat => #[.agg #[.int .i64 (v k), .int .i64 (s k), .string ⟨#[0]⟩], .int .i64 k]) rfl (by omega) (gf := 27) (lb := #[.pointer (some ⟨Be, 0, none⟩), .pointer (some ⟨Bc, 0, none⟩)]) rfl trivial (enters_of Yba.func27 (by kernel_rfl) rfl)
    ?seq (fun h k => h.trans k) ?hkb (Below.refl _ _) (fun _ => rfl)
    (fun pre W => LI n₀ R bq w W0 W (pk v s pre))
    (fun _ _ _ => False)
    (LI.own v s hsz)
    (fun _ _ _ _ _ hs _ _ => hs)
    hI0
    (fun k a' W => ∃ Bx, W0.heap.size ≤ Bx ∧ (W.cell? ⟨Bx, 0, none⟩ = some (.int .i64 (v k)) ∧ W.cell? ⟨Bx, 1, none⟩ = some (.int .i64 (s k)) ∧ W.cell? ⟨Bx, 2, none⟩ = some (.string ⟨#[0]⟩)) ∧ a' = { tmps := #[u0, u1, u2, u3, u4, u5, u6, u7, .pointer (some ⟨n₀ + 1, 0, none⟩), .pointer (some ⟨n₀ + 2, 0, none⟩), .pointer (some ⟨n₀ + 3, 0, none⟩), u11, u12, u13, u14, u15, u16, u17, u18, u19, u20, .pointer (some ⟨R, 0, none⟩), .pointer (some ⟨Bx, 0, none⟩), .int .i64 k, u24, u25, u26, u27, u28, u29, u30, u31, u32, u33, u34, u35, u36, u37, u38, u39, u40, u41, u42, u43, u44, u45, u46, u47, u48, u49, u50, u51, u52, u53, u54, u55, u56, u57, u58, u59, u60, u61, u62, u63, u64, u65, u66, u67, u68, u69, u70, u71, u72, u73, u74, u75, u76, u77, u78, u79, u80, u81, u82, u83, u84, u85, u86, u87, u88, u89, u90, u91, u92, u93, u94, u95, u96, u97, u98, u99, u100, u101, u102, u103, u104, u105, u106, u107, u108, u109, u110, u111, u112, u113, u114, u115, u116, u117, u118, u119, u120, u121, u122, u123, u124, u125, u126, u127, u128, u129, u130, u131, u132, u133, u134, u135, u136, .func (.func 27) #[] #[.pointer (some ⟨Be, 0, none⟩), .pointer (some ⟨Bc, 0, none⟩)], .agg #[.int .i64 (v k), .int .i64 (s k), .string ⟨#[0]⟩], .int .i64 k, u140, u141, u142, u143, u144, u145, u146, u147, u148, u149, u150, u151, u152, u153, u154, u155, u156, u157, u158, u159, u160, u161, u162, u163, u164, u165, u166, u167, u168, u169, u170, u171, u172], defers := [] })
    (fun x a' _ X Y row hs hg hr => by
      obtain ⟨Bx, h1, ⟨h2, h3, h4⟩, h5⟩ := hs
      exact ⟨Bx, h1, ⟨cell_kept h2 hg (fun r e => (hr r e).2), cell_kept h3 hg (fun r e => (hr r e).2), cell_kept h4 hg (fun r e => (hr r e).2)⟩, h5⟩)
    ?assign ?body ?done ?stop
  case seq =>
    intro l J Jx W hW hJ hJx hY h0
    have c := (bcell hW).1
    refine (iter_in (4 - 1) (by omega) l n₀ Be Bc be bsn ba bf bn bp bq bj br bc bd N m hd req v s B cv cs L hN J Jx W hJ (Nat.le_trans hsz hW.size) (by omega) (Nat.lt_of_lt_of_le hBc0 hW.size) hY
      (fun W' hb => E W' (hI0.below.trans ((hW.mono hsz).trans hb))) ((c _ _ hBe0).trans hce) ((c _ _ hBc0).trans hc0) ((c _ _ hBc0).trans hc1) ((c _ _ hBc0).trans hc2) ((c _ _ hBc0).trans hc3) h0)
  case hkb =>
    intro W l o o' hl ho h1 h2
    refine ⟨belowK_b (w := W0) hsz W l o o' hl ho h1 h2, ?_⟩
    exact (grownBy_putObj' W l o').block Bc (by have := (Array.getElem?_eq_some_iff.1 ho).1; omega) (fun e => by cases e; omega)
  case done =>
    rintro D xs W hD rfl hI hK
    exact hdone D W hD hI hK
  case stop =>
    rintro D c pre W _ _ h _
    exact h.elim
  case assign =>
    rintro l pre x W K hi hK
    dsimp only [cAt, Yba.f18, Option.getD]
    gi_wp2
    have hRW : R < W.heap.size := Nat.lt_of_lt_of_le (by omega) hi.size
    have hBW : Below W.heap.size W (W.alloc (.cells #[.int .i64 (v x), .int .i64 (s x), .string ⟨#[0]⟩] 58)) := (Below.refl _ _).alloc (Nat.le_refl _) _
    exact hK _ _ (keepsFrom_of_below hBW) (Kpc.of_below hBW (by omega) (Nat.lt_of_lt_of_le hBc0 hi.size)) (hi.over hR hRW hBW) ⟨W.heap.size, hi.size, ⟨by simp [World.cell?_alloc_at], by simp [World.cell?_alloc_at], by simp [World.cell?_alloc_at]⟩, rfl⟩
  case body =>
    rintro l pre x a' W hl ⟨r, hr⟩ hi ⟨Bx, hBx, ⟨x0, x1, x2⟩, rfl⟩ hlt
    have hRW : R < W.heap.size := Nat.lt_of_lt_of_le (by omega) hi.size
    have hBxW : Bx < W.heap.size := World.block_lt_of_cell? W ⟨Bx, 0, none⟩ x0
    have HP := hide (pk_snoc v s pre x)
    have hB1 : Below W.heap.size W (W.alloc (.cells #[.int .i64 0, .int .i64 0, .int .i64 (s x), .int .i64 (v x)] 128)) := (Below.refl _ _).alloc (Nat.le_refl _) _
    have hi1 := hi.over hR hRW hB1
    have x01 := ((bcell hB1).1 _ 0 hBxW).trans x0
    have x11 := ((bcell hB1).1 _ 1 hBxW).trans x1
    have x21 := ((bcell hB1).1 _ 2 hBxW).trans x2
    have t0 : (W.alloc (.cells #[.int .i64 0, .int .i64 0, .int .i64 (s x), .int .i64 (v x)] 128)).cell? ⟨W.heap.size, 0, none⟩ = some (.int .i64 0) := by simp [World.cell?_alloc_at]
    have t1 : (W.alloc (.cells #[.int .i64 0, .int .i64 0, .int .i64 (s x), .int .i64 (v x)] 128)).cell? ⟨W.heap.size, 1, none⟩ = some (.int .i64 0) := by simp [World.cell?_alloc_at]
    have t2 : (W.alloc (.cells #[.int .i64 0, .int .i64 0, .int .i64 (s x), .int .i64 (v x)] 128)).cell? ⟨W.heap.size, 2, none⟩ = some (.int .i64 (s x)) := by simp [World.cell?_alloc_at]
    have t3 : (W.alloc (.cells #[.int .i64 0, .int .i64 0, .int .i64 (s x), .int .i64 (v x)] 128)).cell? ⟨W.heap.size, 3, none⟩ = some (.int .i64 (v x)) := by simp [World.cell?_alloc_at]
    have zT : W.heap.size < (W.alloc (.cells #[.int .i64 0, .int .i64 0, .int .i64 (s x), .int .i64 (v x)] 128)).heap.size := by simp
    dsimp only [cAt, Yba.f18, Option.getD]
    gi_wp2
    generalize W.alloc (.cells #[.int .i64 0, .int .i64 0, .int .i64 (s x), .int .i64 (v x)] 128) = W1 at *
    have hBx1 : Bx < W1.heap.size := by omega
    have hq1 : n₀ + 3 < W1.heap.size := by omega
    have E1 := E W1 hi1.below
    have q2 := E1.q2
    have zq := E1.zbq
    have qb := hi1.qb
    refine region_round (FR W1) hmx (by kernel_rfl) (by rintro ⟨_, _, h⟩; exact h) (FR.start _) ?_
    intro hHeld
    (refine wpAnyH_take (i := 0) (oi := { dst := some 145, op := Op.load 58 (Operand.tmp 22), type := 58, pos := _, after := #[], guard := none }) (v := ?_) rfl (by kernel_rfl) (by kernel_rfl) (by kernel_rfl) (fun _ _ _ h => h) (Or.inl ⟨by rfl, ?_⟩) (by assumption) ?_; rotate_left 1; (focus (intro w hSw; have hSw1 := hSw.1; go_simp; (first | done | with_reducible rfl))); try simp only [Act.put, List.setIfInBounds_toArray, List.set_cons_zero, List.set_cons_succ])
    (refine wpAnyH_take (i := 1) (oi := { dst := some 146, op := Op.load 121 (Operand.tmp 10), type := 121, pos := _, after := #[], guard := none }) (v := ?_) rfl (by kernel_rfl) (by kernel_rfl) (by kernel_rfl) (fun _ _ _ h => h) (Or.inl ⟨by rfl, ?_⟩) (by assumption) ?_; rotate_left 1; (focus (intro w hSw; have hSw1 := hSw.1; go_simp; (first | done | with_reducible rfl))); try simp only [Act.put, List.setIfInBounds_toArray, List.set_cons_zero, List.set_cons_succ])
    (refine wpAnyH_take (i := 2) (oi := { dst := some 147, op := Op.nilCheck (Operand.tmp 146), type := 0, pos := _, after := #[{ on := 1, ground := Ground.data }], guard := none }) (v := ?_) rfl (by kernel_rfl) (by kernel_rfl) (by kernel_rfl) (fun _ _ _ h => h) (Or.inl ⟨by rfl, ?_⟩) (by assumption) ?_; rotate_left 1; (focus (intro w hSw; have hSw1 := hSw.1; go_simp; (first | done | with_reducible rfl))); try simp only [Act.put, List.setIfInBounds_toArray, List.set_cons_zero, List.set_cons_succ])
    (refine wpAnyH_take (i := 3) (oi := { dst := some 148, op := Op.fieldAddr 82 (Operand.tmp 147) 2, type := 0, pos := _, after := #[{ on := 2, ground := Ground.data }], guard := none }) (v := ?_) rfl (by kernel_rfl) (by kernel_rfl) (by kernel_rfl) (fun _ _ _ h => h) (Or.inl ⟨by rfl, ?_⟩) (by assumption) ?_; rotate_left 1; (focus (intro w hSw; have hSw1 := hSw.1; go_simp; (first | done | with_reducible rfl))); try simp only [Act.put, List.setIfInBounds_toArray, List.set_cons_zero, List.set_cons_succ])
    (refine wpAnyH_take (i := 4) (oi := { dst := some 149, op := Op.load 3 (Operand.tmp 148), type := 3, pos := _, after := #[{ on := 3, ground := Ground.data }], guard := none }) (v := ?_) rfl (by kernel_rfl) (by kernel_rfl) (by kernel_rfl) (fun _ _ _ h => h) (Or.inl ⟨by rfl, ?_⟩) (by assumption) ?_; rotate_left 1; (focus (intro w hSw; have hSw1 := hSw.1; go_simp; (first | done | with_reducible rfl))); try simp only [Act.put, List.setIfInBounds_toArray, List.set_cons_zero, List.set_cons_succ])
    (refine wpAnyH_ready (rs := [5]) (by kernel_rfl) (by simp) ?_; refine AllReadyH.cons (o := { dst := some 150, op := Op.call { callee := Callee.value (Operand.func 22), args := #[Operand.tmp 145, Operand.tmp 149], argTypes := #[58, 3] }, type := 4, pos := _, after := #[{ on := 0, ground := Ground.data }, { on := 4, ground := Ground.data }], guard := none }) rfl (fun K hK => ?_) AllReadyH.nil)
    go_simp
    refine Calls.mono (warmOf_zero _ _ _) ?_
    rintro e W2 ⟨rfl, hk9⟩
    refine hK.out _ _ (hHeld.next hk9) (fun hHeld2 => ?_)
    clear hK K
    try simp only [Act.put, List.setIfInBounds_toArray, List.set_cons_zero, List.set_cons_succ]
    refine wpAnyH_done (by kernel_rfl) ?_ _
    have hB2 := hHeld2.2.2
    clear hHeld hHeld2 hk9 qb q2 zq E1
    have hR1 : R < W1.heap.size := by omega
    have hi2 := hi1.over hR hR1 hB2
    have s0 := ((bcell hB2).1 _ 0 zT).trans t0
    have s1 := ((bcell hB2).1 _ 1 zT).trans t1
    have s2 := ((bcell hB2).1 _ 2 zT).trans t2
    have s3 := ((bcell hB2).1 _ 3 zT).trans t3
    have hB12 : Below W.heap.size W W2 := hB1.trans (hB2.mono hB1.size)
    have zT2 : W.heap.size < W2.heap.size := Nat.lt_of_lt_of_le zT hB2.size
    clear t0 t1 t2 t3 x0 x1 x2 x01 x11 x21 hi1 hB1 hB2 zT hBx1 hq1 hR1
    have gbest := hi2.best
    have gok := hi2.ok
    have fbest := hi2.fbest
    have fok := hi2.fok
    have r0 := hi2.r0
    have r1 := hi2.r1
    have r2 := hi2.r2
    have r3 := hi2.r3
    have f0 := hi2.f0
    have f1 := hi2.f1
    have f2 := hi2.f2
    have f3 := hi2.f3
    have zb2 : n₀ + 1 < W2.heap.size := by omega
    have zo2 : n₀ + 2 < W2.heap.size := by omega
    have zr2 : R < W2.heap.size := by omega
    gi_wp2
    obtain ⟨p, hp⟩ : ∃ p, p = pk v s pre := ⟨_, rfl⟩
    rw [← hp] at HP hi2 gbest gok r2 r3
    clear hp
    obtain ⟨ok, best, bs, bv⟩ := p
    dsimp only at gbest gok r2 r3
    cases ok with
    | false =>
      refine region_round (FR W2) hmx (by kernel_rfl) (by rintro ⟨_, _, h⟩; exact h) (FR.start _) ?_
      intro hHeld
      (refine wpAnyH_take (i := 0) (oi := { dst := some 156, op := Op.load 4 (Operand.tmp 9), type := 4, pos := _, after := #[], guard := none }) (v := ?_) rfl (by kernel_rfl) (by kernel_rfl) (by kernel_rfl) (fun _ _ _ h => h) (Or.inl ⟨by rfl, ?_⟩) (by assumption) ?_; rotate_left 1; (focus (intro w hSw; have hSw1 := hSw.1; go_simp; (first | done | with_reducible rfl))); try simp only [Act.put, List.setIfInBounds_toArray, List.set_cons_zero, List.set_cons_succ])
      (refine wpAnyH_take (i := 1) (oi := { dst := some 157, op := Op.unOp UnOp.not 4 (Operand.tmp 156), type := 4, pos := _, after := #[{ on := 0, ground := Ground.data }], guard := none }) (v := ?_) rfl (by kernel_rfl) (by kernel_rfl) (by kernel_rfl) (fun _ _ _ h => h) (Or.inl ⟨by rfl, ?_⟩) (by assumption) ?_; rotate_left 1; (focus (intro w hSw; have hSw1 := hSw.1; go_simp; (first | done | with_reducible rfl))); try simp only [Act.put, List.setIfInBounds_toArray, List.set_cons_zero, List.set_cons_succ])
      (refine wpAnyH_take (i := 2) (oi := { dst := some 158, op := Op.move (Operand.tmp 157), type := 4, pos := _, after := #[{ on := 1, ground := Ground.data }], guard := none }) (v := ?_) rfl (by kernel_rfl) (by kernel_rfl) (by kernel_rfl) (fun _ _ _ h => h) (Or.inl ⟨by rfl, ?_⟩) (by assumption) ?_; rotate_left 1; (focus (intro w hSw; have hSw1 := hSw.1; go_simp; (first | done | with_reducible rfl))); try simp only [Act.put, List.setIfInBounds_toArray, List.set_cons_zero, List.set_cons_succ])
      (refine wpAnyH_take (i := 3) (oi := { dst := some 159, op := Op.slice 128 (Operand.tmp 24) none none none, type := 46, pos := _, after := #[{ on := 2, ground := Ground.guard }], guard := some (2, false) }) (v := undef) rfl (by kernel_rfl) (by kernel_rfl) (by kernel_rfl) (fun _ _ _ h => h) (Or.inr ⟨by rfl, rfl⟩) (by assumption) ?_; try simp only [Act.put, List.setIfInBounds_toArray, List.set_cons_zero, List.set_cons_succ])
      (refine wpAnyH_take (i := 4) (oi := { dst := some 160, op := Op.slice 128 (Operand.tmp 21) none none none, type := 46, pos := _, after := #[{ on := 2, ground := Ground.guard }], guard := some (2, false) }) (v := undef) rfl (by kernel_rfl) (by kernel_rfl) (by kernel_rfl) (fun _ _ _ h => h) (Or.inr ⟨by rfl, rfl⟩) (by assumption) ?_; try simp only [Act.put, List.setIfInBounds_toArray, List.set_cons_zero, List.set_cons_succ])
      (refine wpAnyH_take (i := 5) (oi := { dst := some 161, op := Op.call { callee := Callee.value (Operand.func 25), args := #[Operand.tmp 159, Operand.tmp 160], argTypes := #[46, 46] }, type := 3, pos := _, after := #[{ on := 3, ground := Ground.data }, { on := 4, ground := Ground.data }, { on := 2, ground := Ground.chain }, { on := 2, ground := Ground.guard }], guard := some (2, false) }) (v := undef) rfl (by kernel_rfl) (by kernel_rfl) (by kernel_rfl) (fun _ _ _ h => h) (Or.inr ⟨by rfl, rfl⟩) (by assumption) ?_; try simp only [Act.put, List.setIfInBounds_toArray, List.set_cons_zero, List.set_cons_succ])
      (refine wpAnyH_take (i := 6) (oi := { dst := some 162, op := Op.load 3 (Operand.tmp 8), type := 3, pos := _, after := #[{ on := 2, ground := Ground.guard }], guard := some (2, false) }) (v := undef) rfl (by kernel_rfl) (by kernel_rfl) (by kernel_rfl) (fun _ _ _ h => h) (Or.inr ⟨by rfl, rfl⟩) (by assumption) ?_; try simp only [Act.put, List.setIfInBounds_toArray, List.set_cons_zero, List.set_cons_succ])
      (refine wpAnyH_take (i := 7) (oi := { dst := some 163, op := Op.move (Operand.tmp 23), type := 3, pos := _, after := #[{ on := 2, ground := Ground.guard }], guard := some (2, false) }) (v := undef) rfl (by kernel_rfl) (by kernel_rfl) (by kernel_rfl) (fun _ _ _ h => h) (Or.inr ⟨by rfl, rfl⟩) (by assumption) ?_; try simp only [Act.put, List.setIfInBounds_toArray, List.set_cons_zero, List.set_cons_succ])
      (refine wpAnyH_take (i := 8) (oi := { dst := some 164, op := Op.call { callee := Callee.value (Operand.func 26), args := #[Operand.tmp 162, Operand.tmp 163], argTypes := #[3, 3] }, type := 3, pos := _, after := #[{ on := 6, ground := Ground.data }, { on := 7, ground := Ground.data }, { on := 5, ground := Ground.chain }, { on := 2, ground := Ground.guard }], guard := some (2, false) }) (v := undef) rfl (by kernel_rfl) (by kernel_rfl) (by kernel_rfl) (fun _ _ _ h => h) (Or.inr ⟨by rfl, rfl⟩) (by assumption) ?_; try simp only [Act.put, List.setIfInBounds_toArray, List.set_cons_zero, List.set_cons_succ])
      (refine wpAnyH_take (i := 9) (oi := { dst := some 165, op := Op.buildSlice 46 2 #[(0, Operand.tmp 161), (1, Operand.tmp 164)], type := 46, pos := _, after := #[{ on := 5, ground := Ground.data }, { on := 8, ground := Ground.data }, { on := 2, ground := Ground.guard }], guard := some (2, false) }) (v := undef) rfl (by kernel_rfl) (by kernel_rfl) (by kernel_rfl) (fun _ _ _ h => h) (Or.inr ⟨by rfl, rfl⟩) (by assumption) ?_; try simp only [Act.put, List.setIfInBounds_toArray, List.set_cons_zero, List.set_cons_succ])
      (refine wpAnyH_take (i := 10) (oi := { dst := some 166, op := Op.call { callee := Callee.value (Operand.func 24), args := #[Operand.tmp 165], argTypes := #[46] }, type := 3, pos := _, after := #[{ on := 9, ground := Ground.data }, { on := 8, ground := Ground.chain }, { on := 2, ground := Ground.guard }], guard := some (2, false) }) (v := undef) rfl (by kernel_rfl) (by kernel_rfl) (by kernel_rfl) (fun _ _ _ h => h) (Or.inr ⟨by rfl, rfl⟩) (by assumption) ?_; try simp only [Act.put, List.setIfInBounds_toArray, List.set_cons_zero, List.set_cons_succ])
      (refine wpAnyH_take (i := 11) (oi := { dst := some 167, op := Op.binOp BinOp.gtr 3 (Operand.tmp 166) (Operand.const (Value.int IntKind.i64 0)) 3, type := 4, pos := _, after := #[{ on := 10, ground := Ground.data }, { on := 2, ground := Ground.guard }], guard := some (2, false) }) (v := undef) rfl (by kernel_rfl) (by kernel_rfl) (by kernel_rfl) (fun _ _ _ h => h) (Or.inr ⟨by rfl, rfl⟩) (by assumption) ?_; try simp only [Act.put, List.setIfInBounds_toArray, List.set_cons_zero, List.set_cons_succ])
      (refine wpAnyH_take (i := 12) (oi := { dst := some 168, op := Op.pick (Operand.tmp 158) (Operand.const (Value.bool true)) (Operand.tmp 167), type := 4, pos := _, after := #[{ on := 2, ground := Ground.data }, { on := 11, ground := Ground.data }], guard := none }) (v := ?_) rfl (by kernel_rfl) (by kernel_rfl) (by kernel_rfl) (fun _ _ _ h => h) (Or.inl ⟨by rfl, ?_⟩) (by assumption) ?_; rotate_left 1; (focus (intro w hSw; have hSw1 := hSw.1; go_simp; (first | done | with_reducible rfl))); try simp only [Act.put, List.setIfInBounds_toArray, List.set_cons_zero, List.set_cons_succ])
      refine wpAnyH_done (by kernel_rfl) ?_ _
      gi_wp2
      obtain ⟨W3, hW3⟩ : ∃ W3, W3 = W2.drew := ⟨_, rfl⟩
      have hB3 : Below W2.heap.size W2 W3 := by rw [hW3]; exact ⟨rfl, rfl, rfl, Nat.le_refl _, fun _ _ => rfl⟩
      rw [← hW3]
      have hi3 := hi2.over hR zr2 hB3
      have p0 := ((bcell hB3).1 _ 0 zT2).trans s0
      have p1 := ((bcell hB3).1 _ 1 zT2).trans s1
      have p2 := ((bcell hB3).1 _ 2 zT2).trans s2
      have p3 := ((bcell hB3).1 _ 3 zT2).trans s3
      clear gbest gok fbest fok r0 r1 r2 r3 f0 f1 f2 f3 s0 s1 s2 s3
      have gbest := hi3.best
      have gok := hi3.ok
      have fbest := hi3.fbest
      have fok := hi3.fok
      have r0 := hi3.r0
      have r1 := hi3.r1
      have r2 := hi3.r2
      have r3 := hi3.r3
      have f0 := hi3.f0
      have f1 := hi3.f1
      have f2 := hi3.f2
      have f3 := hi3.f3
      dsimp only at gbest gok r2 r3
      clear hHeld hW3
      refine region_round (fun w' => (∀ o, w'.cell? ⟨W.heap.size, o, none⟩ = W3.cell? ⟨W.heap.size, o, none⟩) ∧ True) hmx (by kernel_rfl) (by rintro ⟨_, _, h⟩; exact h) ⟨fun _ => rfl, trivial⟩ ?_
      intro hHeld
      (refine wpAnyH_take (i := 0) (oi := { dst := some 169, op := Op.move (Operand.tmp 23), type := 3, pos := _, after := #[], guard := none }) (v := ?_) rfl (by kernel_rfl) (by kernel_rfl) (by kernel_rfl) (fun _ _ _ h => h) (Or.inl ⟨by rfl, ?_⟩) (by assumption) ?_; rotate_left 1; (focus (intro w hSw; have hSw1 := hSw.1; go_simp; (first | done | with_reducible rfl))); try simp only [Act.put, List.setIfInBounds_toArray, List.set_cons_zero, List.set_cons_succ])
      (refine wpAnyH_take (i := 1) (oi := { dst := some 170, op := Op.load 128 (Operand.tmp 24), type := 128, pos := _, after := #[], guard := none }) (v := ?_) rfl (by kernel_rfl) (by kernel_rfl) (by kernel_rfl) (fun _ _ _ h => h) (Or.inl ⟨by rfl, ?_⟩) (by assumption) ?_; rotate_left 1; (focus (intro w hSw; have hSw1 := hSw.1; go_simp; (first | done | with_reducible rfl))); try simp only [Act.put, List.setIfInBounds_toArray, List.set_cons_zero, List.set_cons_succ])
      (refine wpAnyH_ready (rs := [2]) (by kernel_rfl) (by simp) ?_; refine AllReadyH.cons (o := { dst := none, op := Op.store 3 (Operand.tmp 8) (Operand.tmp 169), type := 0, pos := _, after := #[{ on := 0, ground := Ground.data }, { on := 0, ground := Ground.phase }, { on := 1, ground := Ground.textOnly Departure.inlinedCapture }], guard := none }) rfl (fun K hK => ?_) AllReadyH.nil)
      go_simp
      refine hK.out _ _ ⟨fun o => (cell_drew_own _ _).trans (put_other (by omega)), trivial⟩ (fun hHeld2 => ?_)
      clear hK K
      try simp only [Act.put, List.setIfInBounds_toArray, List.set_cons_zero, List.set_cons_succ]
      (refine wpAnyH_ready (rs := [3]) (by kernel_rfl) (by simp) ?_; refine AllReadyH.cons (o := { dst := none, op := Op.store 128 (Operand.tmp 21) (Operand.tmp 170), type := 0, pos := _, after := #[{ on := 1, ground := Ground.data }, { on := 2, ground := Ground.chain }, { on := 0, ground := Ground.phase }, { on := 1, ground := Ground.phase }, { on := 2, ground := Ground.phase }], guard := none }) rfl (fun K hK => ?_) AllReadyH.nil)
      go_simp
      refine hK.out _ _ ⟨fun o => ?_, trivial⟩ (fun hHeld3 => ?_)
      · rw [cell_drew_own, put_other (by omega), put_other (by omega), put_other (by omega), put_other (by omega), put_other (by omega)]
      clear hK K
      try simp only [Act.put, List.setIfInBounds_toArray, List.set_cons_zero, List.set_cons_succ]
      (refine wpAnyH_ready (rs := [4]) (by kernel_rfl) (by simp) ?_; refine AllReadyH.cons (o := { dst := none, op := Op.store 4 (Operand.tmp 9) (Operand.const (Value.bool true)), type := 0, pos := _, after := #[{ on := 3, ground := Ground.chain }, { on := 0, ground := Ground.phase }, { on := 1, ground := Ground.phase }, { on := 2, ground := Ground.phase }, { on := 3, ground := Ground.phase }], guard := none }) rfl (fun K hK => ?_) AllReadyH.nil)
      go_simp
      refine hK.out _ _ ⟨fun o => ?_, trivial⟩ (fun hHeld3 => ?_)
      · rw [cell_drew_own, put_other (by omega), put_other (by omega), put_other (by omega), put_other (by omega), put_other (by omega), put_other (by omega)]
      clear hK K
      try simp only [Act.put, List.setIfInBounds_toArray, List.set_cons_zero, List.set_cons_succ]
      refine wpAnyH_done (by kernel_rfl) ?_ _
      gi_wp2
      have hB13 : Below W.heap.size W W3 := hB12.trans (hB3.mono hB12.size)
      have hBcW : Bc < W.heap.size := Nat.lt_of_lt_of_le hBc0 hi.size
      have hend := picked_ends (B := W0.heap.size) hi3 hR hBc hB13 hBcW x (s x) (v x)
      have hpk : pk v s (pre ++ [x]) = (true, (x : Int), s x, v x) := by rw [HP.out, if_pos (by simp)]
      refine ownPost_goes ⟨hend.1, hend.2.1, ?_⟩
      show LI n₀ R bq w W0 _ (pk v s (pre ++ [x]))
      rw [hpk]
      exact hend.2.2
    | true =>
      refine region_round (FR W2) hmx (by kernel_rfl) (by rintro ⟨_, _, h⟩; exact h) (FR.start _) ?_
      intro hHeld
      (refine wpAnyH_take (i := 0) (oi := { dst := some 156, op := Op.load 4 (Operand.tmp 9), type := 4, pos := _, after := #[], guard := none }) (v := ?_) rfl (by kernel_rfl) (by kernel_rfl) (by kernel_rfl) (fun _ _ _ h => h) (Or.inl ⟨by rfl, ?_⟩) (by assumption) ?_; rotate_left 1; (focus (intro w hSw; have hSw1 := hSw.1; go_simp; (first | done | with_reducible rfl))); try simp only [Act.put, List.setIfInBounds_toArray, List.set_cons_zero, List.set_cons_succ])
      (refine wpAnyH_take (i := 1) (oi := { dst := some 157, op := Op.unOp UnOp.not 4 (Operand.tmp 156), type := 4, pos := _, after := #[{ on := 0, ground := Ground.data }], guard := none }) (v := ?_) rfl (by kernel_rfl) (by kernel_rfl) (by kernel_rfl) (fun _ _ _ h => h) (Or.inl ⟨by rfl, ?_⟩) (by assumption) ?_; rotate_left 1; (focus (intro w hSw; have hSw1 := hSw.1; go_simp; (first | done | with_reducible rfl))); try simp only [Act.put, List.setIfInBounds_toArray, List.set_cons_zero, List.set_cons_succ])
      (refine wpAnyH_take (i := 2) (oi := { dst := some 158, op := Op.move (Operand.tmp 157), type := 4, pos := _, after := #[{ on := 1, ground := Ground.data }], guard := none }) (v := ?_) rfl (by kernel_rfl) (by kernel_rfl) (by kernel_rfl) (fun _ _ _ h => h) (Or.inl ⟨by rfl, ?_⟩) (by assumption) ?_; rotate_left 1; (focus (intro w hSw; have hSw1 := hSw.1; go_simp; (first | done | with_reducible rfl))); try simp only [Act.put, List.setIfInBounds_toArray, List.set_cons_zero, List.set_cons_succ])
      (refine wpAnyH_take (i := 3) (oi := { dst := some 159, op := Op.slice 128 (Operand.tmp 24) none none none, type := 46, pos := _, after := #[{ on := 2, ground := Ground.guard }], guard := some (2, false) }) (v := ?_) rfl (by kernel_rfl) (by kernel_rfl) (by kernel_rfl) (fun _ _ _ h => h) (Or.inl ⟨by rfl, ?_⟩) (by assumption) ?_; rotate_left 1; (focus (intro w hSw; have hSw1 := hSw.1; go_simp; (first | done | with_reducible rfl))); try simp only [Act.put, List.setIfInBounds_toArray, List.set_cons_zero, List.set_cons_succ])
      (refine wpAnyH_take (i := 4) (oi := { dst := some 160, op := Op.slice 128 (Operand.tmp 21) none none none, type := 46, pos := _, after := #[{ on := 2, ground := Ground.guard }], guard := some (2, false) }) (v := ?_) rfl (by kernel_rfl) (by kernel_rfl) (by kernel_rfl) (fun _ _ _ h => h) (Or.inl ⟨by rfl, ?_⟩) (by assumption) ?_; rotate_left 1; (focus (intro w hSw; have hSw1 := hSw.1; go_simp; (first | done | with_reducible rfl))); try simp only [Act.put, List.setIfInBounds_toArray, List.set_cons_zero, List.set_cons_succ])
      (refine wpAnyH_take (i := 6) (oi := { dst := some 162, op := Op.load 3 (Operand.tmp 8), type := 3, pos := _, after := #[{ on := 2, ground := Ground.guard }], guard := some (2, false) }) (v := ?_) rfl (by kernel_rfl) (by kernel_rfl) (by kernel_rfl) (fun _ _ _ h => h) (Or.inl ⟨by rfl, ?_⟩) (by assumption) ?_; rotate_left 1; (focus (intro w hSw; have hSw1 := hSw.1; go_simp; (first | done | with_reducible rfl))); try simp only [Act.put, List.setIfInBounds_toArray, List.set_cons_zero, List.set_cons_succ])
      (refine wpAnyH_take (i := 7) (oi := { dst := some 163, op := Op.move (Operand.tmp 23), type := 3, pos := _, after := #[{ on := 2, ground := Ground.guard }], guard := some (2, false) }) (v := ?_) rfl (by kernel_rfl) (by kernel_rfl) (by kernel_rfl) (fun _ _ _ h => h) (Or.inl ⟨by rfl, ?_⟩) (by assumption) ?_; rotate_left 1; (focus (intro w hSw; have hSw1 := hSw.1; go_simp; (first | done | with_reducible rfl))); try simp only [Act.put, List.setIfInBounds_toArray, List.set_cons_zero, List.set_cons_succ])
      (refine wpAnyH_ready (rs := [5]) (by kernel_rfl) (by simp) ?_; refine AllReadyH.cons (o := { dst := some 161, op := Op.call { callee := Callee.value (Operand.func 25), args := #[Operand.tmp 159, Operand.tmp 160], argTypes := #[46, 46] }, type := 3, pos := _, after := #[{ on := 3, ground := Ground.data }, { on := 4, ground := Ground.data }, { on := 2, ground := Ground.chain }, { on := 2, ground := Ground.guard }], guard := some (2, false) }) rfl (fun K hK => ?_) AllReadyH.nil)
      go_simp
      refine Calls.mono (compare4 W.heap.size R (row4 (s x) (v x)) (row4 bs bv) _ ?hx ?hy) ?_
      case hx =>
        intro k hk
        rw [hHeld.1 _ _ zT2]
        rcases (by omega : k = 0 ∨ k = 1 ∨ k = 2 ∨ k = 3) with rfl | rfl | rfl | rfl
        · exact s0
        · exact s1
        · exact s2
        · exact s3
      case hy =>
        intro k hk
        rw [hHeld.1 _ _ zr2]
        rcases (by omega : k = 0 ∨ k = 1 ∨ k = 2 ∨ k = 3) with rfl | rfl | rfl | rfl
        · exact r0
        · exact r1
        · exact r2
        · exact r3
      rintro e W5 ⟨rfl, rfl⟩
      refine hK.out _ _ hHeld (fun hHeld2 => ?_)
      clear hK K
      try simp only [Act.put, List.setIfInBounds_toArray, List.set_cons_zero, List.set_cons_succ]
      (refine wpAnyH_ready (rs := [8]) (by kernel_rfl) (by simp) ?_; refine AllReadyH.cons (o := { dst := some 164, op := Op.call { callee := Callee.value (Operand.func 26), args := #[Operand.tmp 162, Operand.tmp 163], argTypes := #[3, 3] }, type := 3, pos := _, after := #[{ on := 6, ground := Ground.data }, { on := 7, ground := Ground.data }, { on := 5, ground := Ground.chain }, { on := 2, ground := Ground.guard }], guard := some (2, false) }) rfl (fun K hK => ?_) AllReadyH.nil)
      go_simp
      refine Calls.mono (compare_any _ _ _) ?_
      rintro e W5 ⟨rfl, rfl⟩
      refine hK.out _ _ hHeld (fun hHeld2 => ?_)
      clear hK K
      try simp only [Act.put, List.setIfInBounds_toArray, List.set_cons_zero, List.set_cons_succ]
      (refine wpAnyH_ready (rs := [9]) (by kernel_rfl) (by simp) ?_; refine AllReadyH.cons (o := { dst := some 165, op := Op.buildSlice 46 2 #[(0, Operand.tmp 161), (1, Operand.tmp 164)], type := 46, pos := _, after := #[{ on := 5, ground := Ground.data }, { on := 8, ground := Ground.data }, { on := 2, ground := Ground.guard }], guard := some (2, false) }) rfl (fun K hK => ?_) AllReadyH.nil)
      go_simp
      obtain ⟨r, Hr⟩ : ∃ r : Int, Hid (r = if lexTo (row4 (s x) (v x)) (row4 bs bv) 4 = 0 then cmpI best x else lexTo (row4 (s x) (v x)) (row4 bs bv) 4) := ⟨_, rfl⟩
      have hB3 : Below W2.heap.size W2 (W2.alloc (.cells #[.int .i64 (lexTo (row4 (s x) (v x)) (row4 bs bv) 4), .int .i64 (cmpI best x)] 3)).drew := ((Below.refl _ _).alloc (Nat.le_refl _) _).drew
      have k0 : (W2.alloc (.cells #[.int .i64 (lexTo (row4 (s x) (v x)) (row4 bs bv) 4), .int .i64 (cmpI best x)] 3)).drew.cell? ⟨W2.heap.size, 0, none⟩ = some (.int .i64 (lexTo (row4 (s x) (v x)) (row4 bs bv) 4)) := by rw [cell_drew_own]; simp [World.cell?_alloc_at]
      have k1 : (W2.alloc (.cells #[.int .i64 (lexTo (row4 (s x) (v x)) (row4 bs bv) 4), .int .i64 (cmpI best x)] 3)).drew.cell? ⟨W2.heap.size, 1, none⟩ = some (.int .i64 (cmpI best x)) := by rw [cell_drew_own]; simp [World.cell?_alloc_at]
      refine hK.out _ _ (FR.of hB3) (fun hHeld3 => ?_)
      clear hK K
      try simp only [Act.put, List.setIfInBounds_toArray, List.set_cons_zero, List.set_cons_succ]
      have HB := hide (better_iff (s x) (v x) bs bv best x)
      rw [← Hr.out] at HB
      generalize (W2.alloc (.cells #[.int .i64 (lexTo (row4 (s x) (v x)) (row4 bs bv) 4), .int .i64 (cmpI best x)] 3)).drew = W3 at *
      clear hHeld hHeld2
      (refine wpAnyH_ready (rs := [10]) (by kernel_rfl) (by simp) ?_; refine AllReadyH.cons (o := { dst := some 166, op := Op.call { callee := Callee.value (Operand.func 24), args := #[Operand.tmp 165], argTypes := #[46] }, type := 3, pos := _, after := #[{ on := 9, ground := Ground.data }, { on := 8, ground := Ground.chain }, { on := 2, ground := Ground.guard }], guard := some (2, false) }) rfl (fun K hK => ?_) AllReadyH.nil)
      go_simp
      refine Calls.mono (or2_is r _ _ _ Hr _ k0 k1) ?_
      rintro e W5 ⟨rfl, rfl⟩
      refine hK.out _ _ hHeld3 (fun hHeld4 => ?_)
      clear hK K Hr
      try simp only [Act.put, List.setIfInBounds_toArray, List.set_cons_zero, List.set_cons_succ]
      by_cases hpos : 0 < r
      · have hbet := HB.out.1 hpos
        clear HB
        (refine wpAnyH_take (i := 11) (oi := { dst := some 167, op := Op.binOp BinOp.gtr 3 (Operand.tmp 166) (Operand.const (Value.int IntKind.i64 0)) 3, type := 4, pos := _, after := #[{ on := 10, ground := Ground.data }, { on := 2, ground := Ground.guard }], guard := some (2, false) }) (v := ?_) rfl (by kernel_rfl) (by kernel_rfl) (by kernel_rfl) (fun _ _ _ h => h) (Or.inl ⟨by rfl, ?_⟩) (by assumption) ?_; rotate_left 1; (focus (intro w hSw; have hSw1 := hSw.1; go_simp; (first | done | with_reducible rfl))); try simp only [Act.put, List.setIfInBounds_toArray, List.set_cons_zero, List.set_cons_succ])
        (refine wpAnyH_take (i := 12) (oi := { dst := some 168, op := Op.pick (Operand.tmp 158) (Operand.const (Value.bool true)) (Operand.tmp 167), type := 4, pos := _, after := #[{ on := 2, ground := Ground.data }, { on := 11, ground := Ground.data }], guard := none }) (v := ?_) rfl (by kernel_rfl) (by kernel_rfl) (by kernel_rfl) (fun _ _ _ h => h) (Or.inl ⟨by rfl, ?_⟩) (by assumption) ?_; rotate_left 1; (focus (intro w hSw; have hSw1 := hSw.1; go_simp; (first | done | with_reducible rfl))); try simp only [Act.put, List.setIfInBounds_toArray, List.set_cons_zero, List.set_cons_succ])
        refine wpAnyH_done (by kernel_rfl) ?_ _
        gi_wp2
        have hi3 := hi2.over hR zr2 hB3
        have p0 := ((bcell hB3).1 _ 0 zT2).trans s0
        have p1 := ((bcell hB3).1 _ 1 zT2).trans s1
        have p2 := ((bcell hB3).1 _ 2 zT2).trans s2
        have p3 := ((bcell hB3).1 _ 3 zT2).trans s3
        clear gbest gok fbest fok r0 r1 r2 r3 f0 f1 f2 f3 s0 s1 s2 s3
        have gbest := hi3.best
        have gok := hi3.ok
        have fbest := hi3.fbest
        have fok := hi3.fok
        have r0 := hi3.r0
        have r1 := hi3.r1
        have r2 := hi3.r2
        have r3 := hi3.r3
        have f0 := hi3.f0
        have f1 := hi3.f1
        have f2 := hi3.f2
        have f3 := hi3.f3
        dsimp only at gbest gok r2 r3
        clear hHeld3 hHeld4 k0 k1
        refine region_round (fun w' => (∀ o, w'.cell? ⟨W.heap.size, o, none⟩ = W3.cell? ⟨W.heap.size, o, none⟩) ∧ True) hmx (by kernel_rfl) (by rintro ⟨_, _, h⟩; exact h) ⟨fun _ => rfl, trivial⟩ ?_
        intro hHeld
        (refine wpAnyH_take (i := 0) (oi := { dst := some 169, op := Op.move (Operand.tmp 23), type := 3, pos := _, after := #[], guard := none }) (v := ?_) rfl (by kernel_rfl) (by kernel_rfl) (by kernel_rfl) (fun _ _ _ h => h) (Or.inl ⟨by rfl, ?_⟩) (by assumption) ?_; rotate_left 1; (focus (intro w hSw; have hSw1 := hSw.1; go_simp; (first | done | with_reducible rfl))); try simp only [Act.put, List.setIfInBounds_toArray, List.set_cons_zero, List.set_cons_succ])
        (refine wpAnyH_take (i := 1) (oi := { dst := some 170, op := Op.load 128 (Operand.tmp 24), type := 128, pos := _, after := #[], guard := none }) (v := ?_) rfl (by kernel_rfl) (by kernel_rfl) (by kernel_rfl) (fun _ _ _ h => h) (Or.inl ⟨by rfl, ?_⟩) (by assumption) ?_; rotate_left 1; (focus (intro w hSw; have hSw1 := hSw.1; go_simp; (first | done | with_reducible rfl))); try simp only [Act.put, List.setIfInBounds_toArray, List.set_cons_zero, List.set_cons_succ])
        (refine wpAnyH_ready (rs := [2]) (by kernel_rfl) (by simp) ?_; refine AllReadyH.cons (o := { dst := none, op := Op.store 3 (Operand.tmp 8) (Operand.tmp 169), type := 0, pos := _, after := #[{ on := 0, ground := Ground.data }, { on := 0, ground := Ground.phase }, { on := 1, ground := Ground.textOnly Departure.inlinedCapture }], guard := none }) rfl (fun K hK => ?_) AllReadyH.nil)
        go_simp
        refine hK.out _ _ ⟨fun o => (cell_drew_own _ _).trans (put_other (by omega)), trivial⟩ (fun hHeld2 => ?_)
        clear hK K
        try simp only [Act.put, List.setIfInBounds_toArray, List.set_cons_zero, List.set_cons_succ]
        (refine wpAnyH_ready (rs := [3]) (by kernel_rfl) (by simp) ?_; refine AllReadyH.cons (o := { dst := none, op := Op.store 128 (Operand.tmp 21) (Operand.tmp 170), type := 0, pos := _, after := #[{ on := 1, ground := Ground.data }, { on := 2, ground := Ground.chain }, { on := 0, ground := Ground.phase }, { on := 1, ground := Ground.phase }, { on := 2, ground := Ground.phase }], guard := none }) rfl (fun K hK => ?_) AllReadyH.nil)
        go_simp
        refine hK.out _ _ ⟨fun o => ?_, trivial⟩ (fun hHeld3 => ?_)
        · rw [cell_drew_own, put_other (by omega), put_other (by omega), put_other (by omega), put_other (by omega), put_other (by omega)]
        clear hK K
        try simp only [Act.put, List.setIfInBounds_toArray, List.set_cons_zero, List.set_cons_succ]
        (refine wpAnyH_ready (rs := [4]) (by kernel_rfl) (by simp) ?_; refine AllReadyH.cons (o := { dst := none, op := Op.store 4 (Operand.tmp 9) (Operand.const (Value.bool true)), type := 0, pos := _, after := #[{ on := 3, ground := Ground.chain }, { on := 0, ground := Ground.phase }, { on := 1, ground := Ground.phase }, { on := 2, ground := Ground.phase }, { on := 3, ground := Ground.phase }], guard := none }) rfl (fun K hK => ?_) AllReadyH.nil)
        go_simp
        refine hK.out _ _ ⟨fun o => ?_, trivial⟩ (fun hHeld3 => ?_)
        · rw [cell_drew_own, put_other (by omega), put_other (by omega), put_other (by omega), put_other (by omega), put_other (by omega), put_other (by omega)]
        clear hK K
        try simp only [Act.put, List.setIfInBounds_toArray, List.set_cons_zero, List.set_cons_succ]
        refine wpAnyH_done (by kernel_rfl) ?_ _
        gi_wp2
        have hB13 : Below W.heap.size W W3 := hB12.trans (hB3.mono hB12.size)
        have hBcW : Bc < W.heap.size := Nat.lt_of_lt_of_le hBc0 hi.size
        have hend := picked_ends (B := W0.heap.size) hi3 hR hBc hB13 hBcW x (s x) (v x)
        have hpk : pk v s (pre ++ [x]) = (true, (x : Int), s x, v x) := by rw [HP.out, if_pos (by first | exact Or.inr hbet | exact hbet | (simp; exact hbet))]
        refine ownPost_goes ⟨hend.1, hend.2.1, ?_⟩
        show LI n₀ R bq w W0 _ (pk v s (pre ++ [x]))
        rw [hpk]
        exact hend.2.2
      · have hbet := fun h => hpos (HB.out.2 h)
        clear HB
        (refine wpAnyH_take (i := 11) (oi := { dst := some 167, op := Op.binOp BinOp.gtr 3 (Operand.tmp 166) (Operand.const (Value.int IntKind.i64 0)) 3, type := 4, pos := _, after := #[{ on := 10, ground := Ground.data }, { on := 2, ground := Ground.guard }], guard := some (2, false) }) (v := ?_) rfl (by kernel_rfl) (by kernel_rfl) (by kernel_rfl) (fun _ _ _ h => h) (Or.inl ⟨by rfl, ?_⟩) (by assumption) ?_; rotate_left 1; (focus (intro w hSw; have hSw1 := hSw.1; go_simp; (first | done | with_reducible rfl))); try simp only [Act.put, List.setIfInBounds_toArray, List.set_cons_zero, List.set_cons_succ])
        (refine wpAnyH_take (i := 12) (oi := { dst := some 168, op := Op.pick (Operand.tmp 158) (Operand.const (Value.bool true)) (Operand.tmp 167), type := 4, pos := _, after := #[{ on := 2, ground := Ground.data }, { on := 11, ground := Ground.data }], guard := none }) (v := ?_) rfl (by kernel_rfl) (by kernel_rfl) (by kernel_rfl) (fun _ _ _ h => h) (Or.inl ⟨by rfl, ?_⟩) (by assumption) ?_; rotate_left 1; (focus (intro w hSw; have hSw1 := hSw.1; go_simp; (first | done | with_reducible rfl))); try simp only [Act.put, List.setIfInBounds_toArray, List.set_cons_zero, List.set_cons_succ])
        refine wpAnyH_done (by kernel_rfl) ?_ _
        gi_wp2
        have hB13 : Below W.heap.size W W3 := hB12.trans (hB3.mono hB12.size)
        have hBcW : Bc < W.heap.size := Nat.lt_of_lt_of_le hBc0 hi.size
        refine ownPost_goes ⟨keepsFrom_of_below hB13, Kpc.of_below hB13 (by omega) hBcW, ?_⟩
        show LI n₀ R bq w W0 _ (pk v s (pre ++ [x]))
        rw [HP.out, if_neg (by first | exact hbet | (rintro (h | h); (· cases h); (· exact hbet h)) | (simp; exact hbet))]
        exact hi2.over hR zr2 hB3

end Go.Proofs.Ybulkjqw
