/-
  OWN WORK: add: the physical half.
-/
import Derived.Test.YbulkjrkW7
namespace Go.Proofs.Ybulkjrk
open Go.RowKit
set_option linter.unusedSimpArgs false
set_option linter.unusedVariables false
set_option linter.unusedSectionVars false
variable [Base]
section
variable {ob : Nat → Nat} {m eb bb : Nat} {g : Gp} {W W' : World}
/-- What 'add' may turn. -/
def addTags : List TypeId := [79, 49, 82, 37, 29]
/-- An order at the back of a level's queue that has one already. -/
def backG (ob : Nat → Nat) (g : Gp) (x i t : Nat) (s : Int) : Gp :=
  let o1 := upN g.oc i (upd (g.oc i) 9 (pt x))
  let o2 := upN o1 i (upd (o1 i) 10 (pt (ob t)))
  let o3 := upN o2 t (upd (o2 t) 11 (pt (ob i)))
  let e1 := upN g.ex x (upd (g.ex x) 3 (pt (ob i)))
  let e2 := upN e1 x (upd (e1 x) 1 (.int .i64 s))
  { g with oc := o3, ex := e2 }
theorem Ph.back (h : Ph ob m eb bb g W) {k x i t : Nat} (hk : k < 4) (hx : x ∈ g.ll k) (hi : i < m) (ht : t < m) (s : Int) :
    Ph ob m eb bb (backG ob g x i t s) (((((W.setCell ⟨ob i, 9, none⟩ (pt x)).setCell ⟨ob i, 10, none⟩ (pt (ob t))).setCell ⟨ob t, 11, none⟩ (pt (ob i))).setCell ⟨x, 3, none⟩ (pt (ob i))).setCell ⟨x, 1, none⟩ (.int .i64 s)) :=
  ((((h.setO hi (by omega) (pt x)).setO hi (j := 10) (by omega) (pt (ob t))).setO ht (j := 11) (by omega) (pt (ob i))).setL hk hx (o := 3) (by omega) (by omega) (pt (ob i))).setL hk hx (o := 1) (by omega) (by omega) (.int .i64 s)

set_option maxRecDepth 100000 in
set_option maxHeartbeats 2000000 in
theorem add_old (h : Ph ob m eb bb g W) {k x i t : Nat} (hk : k < 4) (hx : x ∈ g.ll k) (hi : i < m) (ht : t < m) (hti : t ≠ i) {qty tot : Int} (hq : g.oc i 5 = .int .i64 qty) (h3 : g.ex x 3 = pt (ob t)) (h1 : g.ex x 1 = .int .i64 tot) (b0 : 0 ≤ qty) (b1 : qty ≤ 1000) (b2 : 0 ≤ tot) (b3 : tot ≤ 10000000) :
    Calls Yba.prog 39 #[.pointer (some ⟨bb, 1 + 4 * k, none⟩), pt (ob i), .agg #[pt x, .pointer none, .int .i64 0], .pointer (some ⟨eb, 5, none⟩)] W fun e w' => e = .returned (.tuple #[]) ∧ Ph ob m eb bb (backG ob g x i t (tot + qty)) w' ∧ Fr (Tagged addTags W) W w' := by
  have hO := h.ord i hi
  have hT := h.ord t ht
  have hL := h.lvb k hk x hx
  have hxi : x ≠ ob i := hL.ne hO.blk (by decide)
  have hxt : x ≠ ob t := hL.ne hT.blk (by decide)
  have hoi : ob t ≠ ob i := fun e => hti (h.oinj t i ht hi e)
  have hix := Ne.symm hxi
  have htx := Ne.symm hxt
  have hio := Ne.symm hoi
  have c9 := hO.cell 9 (by omega)
  have c10 := hO.cell 10 (by omega)
  have c5 := hO.cell 5 (by omega)
  have t11 := hT.cell 11 (by omega)
  have x3 := (h.rep k hk).cell x hx 3 (by omega)
  have x1 := (h.rep k hk).cell x hx 1 (by omega)
  simp only [lv] at x3 x1
  rw [h3] at x3
  rw [h1] at x1
  rw [hq] at c5
  have f9 := hO.frozen 9
  have f10 := hO.frozen 10
  have ft := hT.frozen 11
  have fx3 := hL.frozen 3
  have fx1 := hL.frozen 1
  have zi := hO.lt
  have zt := hT.lt
  have zx := hL.lt
  have R := h.back hk hx hi ht (tot + qty)
  have F : Fr (Tagged addTags W) W (((((W.setCell ⟨ob i, 9, none⟩ (pt x)).setCell ⟨ob i, 10, none⟩ (pt (ob t))).setCell ⟨ob t, 11, none⟩ (pt (ob i))).setCell ⟨x, 3, none⟩ (pt (ob i))).setCell ⟨x, 1, none⟩ (.int .i64 (tot + qty))) := by
    have ti : Tagged addTags W (ob i) := hO.blk.tagged (by decide)
    have tt : Tagged addTags W (ob t) := hT.blk.tagged (by decide)
    have tx : Tagged addTags W x := hL.tagged (by decide)
    exact ((((((Fr.refl _ W).setCell (fun _ => ti) _ _).setCell (fun _ => ti) _ _).setCell (fun _ => tt) _ _).setCell (fun _ => tx) _ _).setCell (fun _ => tx) _ _)
  have HR := hide (And.intro R F)
  clear R F h hO hT hL
  unfold pt
  simp only [pt] at x3
  go_enter Yba.func39, Yba.ntmps39
  go_wp2
  go_region
  go_end0
  exact ⟨rfl, (HR.out.1.alloc _).drew, (HR.out.2.alloc _).drew⟩

/-- An order as the first of a level's queue. -/
def frontG (ob : Nat → Nat) (g : Gp) (x i : Nat) (s : Int) : Gp :=
  let o1 := upN g.oc i (upd (g.oc i) 9 (pt x))
  let o2 := upN o1 i (upd (o1 i) 10 (.pointer none))
  let e0 := upN g.ex x (upd (g.ex x) 2 (pt (ob i)))
  let e1 := upN e0 x (upd (e0 x) 3 (pt (ob i)))
  let e2 := upN e1 x (upd (e1 x) 1 (.int .i64 s))
  { g with oc := o2, ex := e2 }
theorem Ph.front (h : Ph ob m eb bb g W) {k x i : Nat} (hk : k < 4) (hx : x ∈ g.ll k) (hi : i < m) (s : Int) :
    Ph ob m eb bb (frontG ob g x i s) (((((W.setCell ⟨ob i, 9, none⟩ (pt x)).setCell ⟨ob i, 10, none⟩ (.pointer none)).setCell ⟨x, 2, none⟩ (pt (ob i))).setCell ⟨x, 3, none⟩ (pt (ob i))).setCell ⟨x, 1, none⟩ (.int .i64 s)) :=
  ((((h.setO hi (by omega) (pt x)).setO hi (j := 10) (by omega) (.pointer none)).setL hk hx (o := 2) (by omega) (by omega) (pt (ob i))).setL hk hx (o := 3) (by omega) (by omega) (pt (ob i))).setL hk hx (o := 1) (by omega) (by omega) (.int .i64 s)
/-- The state with a level x linked. -/
def linkG (g : Gp) (k x : Nat) (L R : List Nat) (fl' : List Nat) (v6 : Value) (σ' : Sd) : Gp :=
  { g with fl := fl', ec := upd g.ec 6 v6, σ := upN g.σ k σ', ll := upN g.ll k (L ++ x :: R), ex := upN g.ex x exz }

set_option maxRecDepth 100000 in
set_option maxHeartbeats 2000000 in
theorem add_new (h : Ph ob m eb bb g W) {k i : Nat} (hk : k < 4) (hi : i < m) {qty price : Int} (hq : g.oc i 5 = .int .i64 qty) (hp : g.oc i 4 = .int .i64 price) (b0 : 0 ≤ qty) (b1 : qty ≤ 1000) {L R : List Nat} (hLR : L ++ R = g.ll k) {n : Nat} {pp : Option Nat} {d : Bool} (hloc : Loc (g.σ k) n pp d none 0 L R)
    (hL : ∀ y ∈ L, (g.σ k).price y < price) (hRt : ∀ y ∈ R, price < (g.σ k).price y) (hlen : (g.ll k).length ≤ 4000) (hfl : g.fl.length ≤ 4000) :
    Calls Yba.prog 39 #[.pointer (some ⟨bb, 1 + 4 * k, none⟩), pt (ob i), .agg #[.pointer none, ptr pp, wv d], .pointer (some ⟨eb, 5, none⟩)] W fun e w' => e = .returned (.tuple #[]) ∧ ∃ x fl' v6 σ', Ph ob m eb bb (frontG ob (linkG g k x L R fl' v6 σ') x i qty) w' ∧
      (∀ k, k < 4 → x ∉ g.ll k) ∧ fl'.length ≤ g.fl.length ∧ (∀ y ∈ g.ll k, σ'.price y = (g.σ k).price y) ∧ σ'.price x = price ∧ Fr (Tagged addTags W) W w' := by
  have c4 := (h.ord i hi).cell 4 (by omega)
  rw [hp] at c4
  have hBox := Bk.new W #[.pointer none, ptr pp, wv d] 86 h.en.base
  have hlv := level_any (h.alloc (.cells #[.pointer none, ptr pp, wv d] 86)) price hfl
  have hlk : ∀ {x fl' v6 w1}, Ph ob m eb bb { g with fl := fl', ec := upd g.ec 6 v6 } w1 → Bk x 37 10 (lfr price) w1 → (∀ k, k < 4 → x ∉ g.ll k) → x ∉ fl' → _ := fun {x fl' v6 w1} P1 X1 hx1 hxf1 => link_ph (g := { g with fl := fl', ec := upd g.ec 6 v6 }) P1 hk X1 hx1 hxf1 hLR hloc hL hRt hlen
  have zi := (h.ord i hi).lt
  go_enter Yba.func39, Yba.ntmps39
  simp only [pt]
  go_wp2_with (first
    | (go_at_call 20; refine (hlk P1 X1 hx1 hxf1).mono ?_; rintro e w2 ⟨rfl, σ', P2, hpo, hpx, F2⟩
       have hO : Bk (ob i) 82 12 (g.oc i) w2 := P2.ord i hi
       have hxm : x ∈ upN g.ll k (L ++ x :: R) k := by rw [upN_same]; simp
       have hXb : Blk w2 x 37 10 := P2.lvb k hk x hxm
       have hxi : x ≠ ob i := hXb.ne hO.blk (by decide)
       have hix := Ne.symm hxi
       have c9 := hO.cell 9 (by omega)
       have c10 := hO.cell 10 (by omega)
       have c5 := hO.cell 5 (by omega)
       rw [hq] at c5
       have x1 : w2.cell? ⟨x, 1, none⟩ = some (.int .i64 0) := by simpa [lv, upN, exz] using (P2.rep k hk).cell x hxm 1 (by omega)
       have x2 : w2.cell? ⟨x, 2, none⟩ = some (.pointer none) := by simpa [lv, upN, exz] using (P2.rep k hk).cell x hxm 2 (by omega)
       have x3 : w2.cell? ⟨x, 3, none⟩ = some (.pointer none) := by simpa [lv, upN, exz] using (P2.rep k hk).cell x hxm 3 (by omega)
       have f9 := hO.frozen 9
       have f10 := hO.frozen 10
       have fx1 := hXb.frozen 1
       have fx2 := hXb.frozen 2
       have fx3 := hXb.frozen 3
       have HP := hide (And.intro P2 (And.intro hO.blk hXb))
       clear P2 hO hXb)
    | (go_at_call 53; (refine hlv.mono ?_; rintro e w1 ⟨x, fl', v6, rfl, P1, X1, hx1, hxf1, hle, F1⟩; simp only [pt]; have hB1 := hBox.fr F1 (by simp [rowTag]) ((Blk.new W #[.pointer none, ptr pp, wv d] 86 h.en.base).notTagged (by decide)); have bx0 : w1.cell? ⟨W.heap.size, 0, none⟩ = some (.pointer none) := hB1.cell 0 (by simp); have bx1 : w1.cell? ⟨W.heap.size, 1, none⟩ = some (ptr pp) := hB1.cell 1 (by simp); have bx2 : w1.cell? ⟨W.heap.size, 2, none⟩ = some (wv d) := hB1.cell 2 (by simp))))
  go_region
  go_end0
  obtain ⟨P2, hOb, hXb⟩ := HP.out
  have P3 := P2.front hk hxm hi qty
  have ti : Tagged addTags w2 (ob i) := hOb.tagged (by decide)
  have tx : Tagged addTags w2 x := hXb.tagged (by decide)
  have F3 := (((((Fr.refl (Tagged addTags w2) w2).setCell (fun _ => ti) 9 (pt x)).setCell (fun _ => ti) 10 (.pointer none)).setCell (fun _ => tx) 2 (pt (ob i))).setCell (fun _ => tx) 3 (pt (ob i))).setCell (fun _ => tx) 1 (.int .i64 qty)
  have sub : ∀ {T : List TypeId}, (∀ t ∈ T, t ∈ addTags) → ∀ (w : World) b, Tagged T w b → Tagged addTags w b := fun hT w b ⟨hlo, cs, t, fr, e, ht⟩ => ⟨hlo, cs, t, fr, e, hT t ht⟩
  have F0 : Fr (Tagged addTags W) W (W.alloc (.cells #[.pointer none, ptr pp, wv d] 86)) := (Fr.refl _ W).alloc _
  have F1' := F1.mono (B := Tagged addTags _) (fun b _ hb => sub (by decide) _ b hb)
  have F2' := F2.mono (B := Tagged addTags _) (fun b _ hb => sub (by decide) _ b hb)
  refine ⟨rfl, x, fl', v6, σ', ?_, hx1, hle, hpo, hpx, (((F0.tagTrans F1').tagTrans F2').tagTrans F3).drew⟩
  exact P3.drew
end
end Go.Proofs.Ybulkjrk
