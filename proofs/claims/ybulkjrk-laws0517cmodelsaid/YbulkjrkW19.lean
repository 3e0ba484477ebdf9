/-
  OWN WORK: enter.
-/
import Derived.Test.YbulkjrkW18
namespace Go.Proofs.Ybulkjrk
open Go.RowKit
set_option linter.unusedSimpArgs false
set_option linter.unusedVariables false
set_option linter.unusedSectionVars false
set_option maxRecDepth 100000
variable [Base]
section
variable {ob : Nat → Nat} {m c eb bb mb cnt cm : Nat} {g : Gp} {W W' : World} {q : Nat → List Nat} {tot : Nat → Int} {lev : Nat → Option Nat} {M : Nat → Option Nat}
/-- An order stored anew, whole. -/
theorem Ph.setsO (h : Ph ob m eb bb g W) {i : Nat} (hi : i < m) (vs : List Value) (hl : vs.length = 12) : Ph ob m eb bb { g with oc := upN g.oc i (fun k => vs.getD k undef) } (W.setCells (ob i) 0 vs) ∧ Fr (fun b => b = ob i) W (W.setCells (ob i) 0 vs) := by
  have F : Fr (fun b => b = ob i) W (W.setCells (ob i) 0 vs) := Fr.setCells vs 0 (Fr.refl _ W) (fun _ => rfl)
  have ne : ∀ {b t n}, Blk W b t n → t ≠ 82 → ¬ b = ob i := fun hb ht => h.neO hi hb ht
  have nr : ∀ {e v' n xs}, W.ownsRow Base.B e 1 v' n xs → 82 ≠ e → ∀ b, v'.ownBlock = some b → ¬ b = ob i := fun ho he b hb e => (h.ord i hi).blk.neRow ho he (by rw [hb, e])
  refine ⟨⟨h.en.fr F (by simp [rowTag]) (ne h.en.blk (by decide)), h.bk.fr F (by simp [rowTag]), (F.cell h.bk.lt (ne h.bk (by decide)) 0).trans h.sym,
    fun j hj => (h.rep j hj).keep F.size (fun b hD => F.block b ((h.rep j hj).lt b hD) (ne (h.lvb j hj b hD) (by decide))) (fun o ho => F.cell h.bk.lt (ne h.bk (by decide)) _) (fun o => F.frozen h.bk.lt (ne h.bk (by decide)) _),
    fun j hj l hl' => (h.lvb j hj l hl').fr F (by simp [rowTag]), h.good, h.dis, rowFr h.flr F (nr h.flr (by decide)), h.fln, fun l hl' => (h.flz l hl').fr F (by simp [rowTag]) (ne (h.flz l hl').blk (by decide)), h.fld, h.oinj, fun i' hi' => ?_, rowFr h.por F (nr h.por (by decide))⟩, F⟩
  by_cases e : i' = i
  · subst e
    show Bk (ob i') 82 12 (upN g.oc i' _ i') _
    rw [upN_same]
    exact Bk.sets (h.ord i' hi').blk vs hl
  · show Bk (ob i') 82 12 (upN g.oc i _ i') _
    rw [upN_other _ _ e]
    exact (h.ord i' hi').fr F (by simp [rowTag]) (fun e' => e (h.oinj i' i hi' hi e'))
set_option maxHeartbeats 2000000 in
/-- A market order that meets nobody is dropped. -/
theorem enter_none (h : Ph ob m eb bb g W) (i : Nat) (sell : Bool) (qty : Int) (b0 : 0 < qty) (hx : crossed (buyk (sdn !sell)) (g.σ (sdn !sell)) 0 = false) {pa pb : Option Addr} {pd : Int} {a : Option Addr} {n cap : Nat} (hn : n ≤ 100000) :
    Calls Yba.prog 32 #[.pointer (some ⟨eb, 0, none⟩), .pointer (some ⟨bb, 0, none⟩), ordv i sell 0 qty 0 0, .agg #[.pointer pa, .pointer pb, .int .i64 pd], .slice a n cap] W fun e w' => e = .returned (.tuple #[.slice a n cap, .int .i64 0]) ∧ Below W.heap.size W w' := by
  have hkO : sdn (!sell) < 4 := by cases sell <;> decide
  obtain ⟨sv, hsv⟩ : ∃ sv : Int, sdV sell = .int .u8 sv := ⟨_, rfl⟩
  obtain ⟨so, hso⟩ : ∃ so : Int, sdV (!sell) = .int .u8 so := ⟨_, rfl⟩
  have hop := fun w => opposite_any sell w
  have hsd1 := fun w => side_any bb (!sell) w
  rw [hso] at hsd1
  simp only [hsv, hso] at hop
  have him := fun w => immediate_any i sell 0 qty 0 0 w
  have hd : decide ((0 : Int) = 0) = true := by simp
  simp only [ordv, hsv, hd] at him
  obtain ⟨W1, hW1⟩ : ∃ W1, W1 = (W.alloc (.cells #[.int .u64 7, .int .u64 i, .string ⟨#[83]⟩, .int .u8 sv, .int .i64 0, .int .i64 qty, .int .u8 0, .int .i64 0, .int .u8 0] 99)).alloc (.cells #[.pointer pa, .pointer pb, .int .i64 pd] 86) := ⟨_, rfl⟩
  have hB1 : Below W.heap.size W W1 := by rw [hW1]; exact ((Below.refl _ _).alloc (Nat.le_refl _) _).alloc (by simp) _
  have hBx : Bk W.heap.size 99 9 (fun k => #[.int .u64 7, .int .u64 i, .string ⟨#[83]⟩, .int .u8 sv, .int .i64 0, .int .i64 qty, .int .u8 0, .int .i64 0, .int .u8 0].getD k undef) W1 := by rw [hW1]; exact (Bk.new W #[.int .u64 7, .int .u64 i, .string ⟨#[83]⟩, .int .u8 sv, .int .i64 0, .int .i64 qty, .int .u8 0, .int .i64 0, .int .u8 0] 99 h.en.base).alloc _
  have p0 : W1.cell? ⟨W.heap.size, 0, none⟩ = some (.int .u64 7) := hBx.cell 0 (by simp)
  have p1 : W1.cell? ⟨W.heap.size, 1, none⟩ = some (.int .u64 i) := hBx.cell 1 (by simp)
  have p2 : W1.cell? ⟨W.heap.size, 2, none⟩ = some (.string ⟨#[83]⟩) := hBx.cell 2 (by simp)
  have p3 : W1.cell? ⟨W.heap.size, 3, none⟩ = some (.int .u8 sv) := hBx.cell 3 (by simp)
  have p4 : W1.cell? ⟨W.heap.size, 4, none⟩ = some (.int .i64 0) := hBx.cell 4 (by simp)
  have p5 : W1.cell? ⟨W.heap.size, 5, none⟩ = some (.int .i64 qty) := hBx.cell 5 (by simp)
  have p6 : W1.cell? ⟨W.heap.size, 6, none⟩ = some (.int .u8 0) := hBx.cell 6 (by simp)
  have p7 : W1.cell? ⟨W.heap.size, 7, none⟩ = some (.int .i64 0) := hBx.cell 7 (by simp)
  have p8 : W1.cell? ⟨W.heap.size, 8, none⟩ = some (.int .u8 0) := hBx.cell 8 (by simp)
  have htr : Calls Yba.prog 47 #[.pointer (some ⟨eb, 0, none⟩), .pointer (some ⟨bb, 1 + 4 * sdn !sell, none⟩), ordv i sell 0 qty 0 0, .slice a n cap] W1.drew _ := trade_any (h.below hB1).drew hkO i sell 0 qty 0 0 b0 hx (.slice a n cap)
  simp only [ordv, hsv] at htr
  unfold ordv
  rw [hsv]
  have HB := hide (And.intro hB1 h)
  clear h hB1
  go_enter Yba.func32, Yba.ntmps32
  go_wp2
  rw [← hW1]
  clear hW1
  go_region_held3 (fun w' => w'.cell? ⟨W.heap.size, 0, none⟩ = some (.int .u64 7) ∧ w'.cell? ⟨W.heap.size, 1, none⟩ = some (.int .u64 i) ∧ w'.cell? ⟨W.heap.size, 2, none⟩ = some (.string ⟨#[83]⟩) ∧ w'.cell? ⟨W.heap.size, 3, none⟩ = some (.int .u8 sv) ∧ w'.cell? ⟨W.heap.size, 4, none⟩ = some (.int .i64 0) ∧ w'.cell? ⟨W.heap.size, 5, none⟩ = some (.int .i64 qty) ∧ w'.cell? ⟨W.heap.size, 6, none⟩ = some (.int .u8 0) ∧ w'.cell? ⟨W.heap.size, 7, none⟩ = some (.int .i64 0) ∧ w'.cell? ⟨W.heap.size, 8, none⟩ = some (.int .u8 0)) (first | exact ⟨p0, p1, p2, p3, p4, p5, p6, p7, p8⟩ | exact ⟨q0, q1, q2, q3, q4, q5, q6, q7, q8⟩) (first
    | (go_at_call 43; refine (hop _).mono ?_; rintro e w3 ⟨rfl, rfl⟩)
    | (go_at_call 42; refine (hsd1 _).mono ?_; rintro e w3 ⟨rfl, rfl⟩)
    | (go_at_call 47; refine (htr).mono ?_; rintro e w3 ⟨rfl, hB3⟩; have hBx3 := hBx.drew.below hB3; have q0 : w3.cell? ⟨W.heap.size, 0, none⟩ = some (.int .u64 7) := hBx3.cell 0 (by simp); have q1 : w3.cell? ⟨W.heap.size, 1, none⟩ = some (.int .u64 i) := hBx3.cell 1 (by simp); have q2 : w3.cell? ⟨W.heap.size, 2, none⟩ = some (.string ⟨#[83]⟩) := hBx3.cell 2 (by simp); have q3 : w3.cell? ⟨W.heap.size, 3, none⟩ = some (.int .u8 sv) := hBx3.cell 3 (by simp); have q4 : w3.cell? ⟨W.heap.size, 4, none⟩ = some (.int .i64 0) := hBx3.cell 4 (by simp); have q5 : w3.cell? ⟨W.heap.size, 5, none⟩ = some (.int .i64 qty) := hBx3.cell 5 (by simp); have q6 : w3.cell? ⟨W.heap.size, 6, none⟩ = some (.int .u8 0) := hBx3.cell 6 (by simp); have q7 : w3.cell? ⟨W.heap.size, 7, none⟩ = some (.int .i64 0) := hBx3.cell 7 (by simp); have q8 : w3.cell? ⟨W.heap.size, 8, none⟩ = some (.int .u8 0) := hBx3.cell 8 (by simp)))
  go_wp2_with (go_at_call 45; refine (him _).mono ?_; rintro e w4 ⟨rfl, hB4⟩; have p8' := ((hBx3.below hB4).cell 8 (by simp)); replace p8' : w4.cell? ⟨W.heap.size, 8, none⟩ = some (.int .u8 0) := p8')
  go_ret2
  have hB1 := HB.out.1
  exact ⟨rfl, ((below_draws hB1 1).trans (hB3.mono hB1.size)).trans (hB4.mono (Nat.le_trans hB1.size hB3.size))⟩

def rested (bb i : Nat) (sv price qty : Int) : List Value := [.int .u64 7, .int .u64 i, .int .u8 sv, .int .u8 0, .int .i64 price, .int .i64 qty, .int .i64 0, .int .u64 0, .pointer (some ⟨bb, 0, none⟩), .pointer none, .pointer none, .pointer none]
theorem one_rested (bb i : Nat) (sv price qty : Int) : (rested bb i sv price qty).toArray.all (·.oneCell') = true := by simp [rested, Value.oneCell']
theorem Lg.oc {g' : Gp} (L : Lg m c ob g q tot lev) (hll : g'.ll = g.ll) (hex : g'.ex = g.ex) (hfl : g'.fl = g.fl) (ho : ∀ j, lev j ≠ none → g'.oc j 11 = g.oc j 11) : Lg m c ob g' q tot lev := by
  refine ⟨fun k hk l hl => ?_, by rw [hll, hfl]; exact L.len⟩
  rw [hll] at hl
  have V := L.lv k hk l hl
  exact V.congr (Nat.le_refl _) (Nat.le_refl _) (by rw [hex]) rfl rfl (fun _ _ => rfl) (fun i hi => ho i (by rw [(V.mem i hi).2]; simp)) (fun _ _ => rfl)
def sdI (sell : Bool) : Int := if sell then 2 else 1
/-- What entering an order that rests leaves. -/
structure Ent (ob : Nat → Nat) (m c eb bb mb : Nat) (g g' : Gp) (q q' : Nat → List Nat) (tot' : Nat → Int) (lev lev' : Nat → Option Nat) (M : Nat → Option Nat) (cnt cm i : Nat) (sell : Bool) (price qty : Int) (n0 : Nat) (px0 : List Value) (W W' : World) : Prop where
  ph : Ph ob m eb bb g' W'
  lg : Lg m (c + 1) ob g' q' tot' lev'
  map : MapIs mb (upN M i (some (ob i))) (if (M i).isSome then cnt else cnt + 1) (cm + 1) W'
  on : ∀ j, j < 4 → ∀ i' p, On g' q' j i' p ↔ (On g q j i' p ∨ (j = sdn sell ∧ i' = i ∧ p = price))
  oci : ∀ j, j < 9 → g'.oc i j = (rested bb i (sdI sell) price qty).getD j undef
  oco : ∀ i', i' ≠ i → ∀ j, j < 9 → g'.oc i' j = g.oc i' j
  ec : ∀ j, j ≠ 5 → j ≠ 6 → g'.ec j = g.ec j
  pn : g'.pn = n0
  px : g'.px = px0
  e5 : (g'.ec 5).ownBlock = (g.ec 5).ownBlock
  lev1 : lev' i ≠ none
  lev2 : ∀ i', i' ≠ i → lev' i' = lev i'
  fr : Fr (fun b => Tagged addTags W b ∨ (g.ec 5).ownBlock = some b ∨ b = mb) W W'
set_option maxHeartbeats 4000000 in
theorem enter_rest (h : Ph ob m eb bb g W) (L : Lg m c ob g q tot lev) (hM : MapIs mb M cnt cm W) (hc : c ≤ 2999) (hcm : cm ≤ 4000) {i : Nat} (hi : i < m) (hm : m ≤ 1024) (hlev : lev i = none) {n0 : Nat} {px0 : List Value} (hpn : g.pn = n0 + 1) (hpx : g.px = px0 ++ [pt (ob i)]) (hpb : g.pn ≤ 4000) (he1 : g.ec 1 = .map (some mb)) (sell : Bool) (price qty : Int) (hp : price ≠ 0) (b0 : 0 < qty) (b1 : qty ≤ 1000) (hx : crossed (buyk (sdn !sell)) (g.σ (sdn !sell)) price = false) {pa pb : Option Addr} {pd : Int} (hpl : Place (g.σ (sdn sell)) (g.ll (sdn sell)) price (.agg #[.pointer pa, .pointer pb, .int .i64 pd])) {a : Option Addr} {n cap : Nat} (hn : n ≤ 100000) :
    Calls Yba.prog 32 #[.pointer (some ⟨eb, 0, none⟩), .pointer (some ⟨bb, 0, none⟩), ordv i sell price qty 0 0, .agg #[.pointer pa, .pointer pb, .int .i64 pd], .slice a n cap] W fun e w' => e = .returned (.tuple #[.slice a n cap, .int .i64 0]) ∧ ∃ g' q' tot' lev', Ent ob m c eb bb mb g g' q q' tot' lev lev' M cnt cm i sell price qty n0 px0 W w' := by
  have hkO : sdn (!sell) < 4 := by cases sell <;> decide
  have hkS : sdn sell < 4 := by cases sell <;> decide
  obtain ⟨sv, hsv⟩ : ∃ sv : Int, sdV sell = .int .u8 sv := ⟨_, rfl⟩
  have HSI := hide (show sv = sdI sell by simpa [sdV, sdI] using hsv.symm)
  obtain ⟨so, hso⟩ : ∃ so : Int, sdV (!sell) = .int .u8 so := ⟨_, rfl⟩
  have hop := fun w => opposite_any sell w
  have hsd1 := fun w => side_any bb (!sell) w
  have hsd2 := fun w => side_any bb sell w
  rw [hso] at hsd1
  rw [hsv] at hsd2
  simp only [hsv, hso] at hop
  have him := fun w => immediate_any i sell price qty 0 0 w
  have hd : decide (price = 0) = false := by simp [hp]
  simp only [ordv, hsv, hd] at him
  obtain ⟨W1, hW1⟩ : ∃ W1, W1 = (W.alloc (.cells #[.int .u64 7, .int .u64 i, .string ⟨#[83]⟩, .int .u8 sv, .int .i64 price, .int .i64 qty, .int .u8 0, .int .i64 0, .int .u8 0] 99)).alloc (.cells #[.pointer pa, .pointer pb, .int .i64 pd] 86) := ⟨_, rfl⟩
  have hB1 : Below W.heap.size W W1 := by rw [hW1]; exact ((Below.refl _ _).alloc (Nat.le_refl _) _).alloc (by simp) _
  have hBx : Bk W.heap.size 99 9 (fun k => #[.int .u64 7, .int .u64 i, .string ⟨#[83]⟩, .int .u8 sv, .int .i64 price, .int .i64 qty, .int .u8 0, .int .i64 0, .int .u8 0].getD k undef) W1 := by rw [hW1]; exact (Bk.new W #[.int .u64 7, .int .u64 i, .string ⟨#[83]⟩, .int .u8 sv, .int .i64 price, .int .i64 qty, .int .u8 0, .int .i64 0, .int .u8 0] 99 h.en.base).alloc _
  have p0 : W1.cell? ⟨W.heap.size, 0, none⟩ = some (.int .u64 7) := hBx.cell 0 (by simp)
  have p1 : W1.cell? ⟨W.heap.size, 1, none⟩ = some (.int .u64 i) := hBx.cell 1 (by simp)
  have p2 : W1.cell? ⟨W.heap.size, 2, none⟩ = some (.string ⟨#[83]⟩) := hBx.cell 2 (by simp)
  have p3 : W1.cell? ⟨W.heap.size, 3, none⟩ = some (.int .u8 sv) := hBx.cell 3 (by simp)
  have p4 : W1.cell? ⟨W.heap.size, 4, none⟩ = some (.int .i64 price) := hBx.cell 4 (by simp)
  have p5 : W1.cell? ⟨W.heap.size, 5, none⟩ = some (.int .i64 qty) := hBx.cell 5 (by simp)
  have p6 : W1.cell? ⟨W.heap.size, 6, none⟩ = some (.int .u8 0) := hBx.cell 6 (by simp)
  have p7 : W1.cell? ⟨W.heap.size, 7, none⟩ = some (.int .i64 0) := hBx.cell 7 (by simp)
  have p8 : W1.cell? ⟨W.heap.size, 8, none⟩ = some (.int .u8 0) := hBx.cell 8 (by simp)
  have htr : Calls Yba.prog 47 #[.pointer (some ⟨eb, 0, none⟩), .pointer (some ⟨bb, 1 + 4 * sdn !sell, none⟩), ordv i sell price qty 0 0, .slice a n cap] W1.drew _ := trade_any (h.below hB1).drew hkO i sell price qty 0 0 b0 hx (.slice a n cap)
  simp only [ordv, hsv] at htr
  have hBy : Bk (W.heap.size + 1) 86 3 (fun k => #[Value.pointer pa, .pointer pb, .int .i64 pd].getD k undef) W1 := by rw [hW1]; have := Bk.new (W.alloc (.cells #[.int .u64 7, .int .u64 i, .string ⟨#[83]⟩, .int .u8 sv, .int .i64 price, .int .i64 qty, .int .u8 0, .int .i64 0, .int .u8 0] 99)) #[Value.pointer pa, .pointer pb, .int .i64 pd] 86 (by have := h.en.base; simp; omega); simpa using this
  unfold ordv
  rw [hsv]
  have HB := hide (And.intro hB1 (And.intro h (And.intro L (And.intro hM (And.intro hpl (And.intro hBy (And.intro hpn hpx)))))))
  clear h hB1 L hM hpl hBy hpn hpx
  go_enter Yba.func32, Yba.ntmps32
  go_wp2
  rw [← hW1]
  clear hW1
  go_region_held3 (fun w' => w'.cell? ⟨W.heap.size, 0, none⟩ = some (.int .u64 7) ∧ w'.cell? ⟨W.heap.size, 1, none⟩ = some (.int .u64 i) ∧ w'.cell? ⟨W.heap.size, 2, none⟩ = some (.string ⟨#[83]⟩) ∧ w'.cell? ⟨W.heap.size, 3, none⟩ = some (.int .u8 sv) ∧ w'.cell? ⟨W.heap.size, 4, none⟩ = some (.int .i64 price) ∧ w'.cell? ⟨W.heap.size, 5, none⟩ = some (.int .i64 qty) ∧ w'.cell? ⟨W.heap.size, 6, none⟩ = some (.int .u8 0) ∧ w'.cell? ⟨W.heap.size, 7, none⟩ = some (.int .i64 0) ∧ w'.cell? ⟨W.heap.size, 8, none⟩ = some (.int .u8 0)) (first | exact ⟨p0, p1, p2, p3, p4, p5, p6, p7, p8⟩ | exact ⟨q0, q1, q2, q3, q4, q5, q6, q7, q8⟩) (first
    | (go_at_call 43; refine (hop _).mono ?_; rintro e w3 ⟨rfl, rfl⟩)
    | (go_at_call 42; refine (hsd1 _).mono ?_; rintro e w3 ⟨rfl, rfl⟩)
    | (go_at_call 47; refine (htr).mono ?_; rintro e w3 ⟨rfl, hB3⟩; have hBx3 := hBx.drew.below hB3; have q0 : w3.cell? ⟨W.heap.size, 0, none⟩ = some (.int .u64 7) := hBx3.cell 0 (by simp); have q1 : w3.cell? ⟨W.heap.size, 1, none⟩ = some (.int .u64 i) := hBx3.cell 1 (by simp); have q2 : w3.cell? ⟨W.heap.size, 2, none⟩ = some (.string ⟨#[83]⟩) := hBx3.cell 2 (by simp); have q3 : w3.cell? ⟨W.heap.size, 3, none⟩ = some (.int .u8 sv) := hBx3.cell 3 (by simp); have q4 : w3.cell? ⟨W.heap.size, 4, none⟩ = some (.int .i64 price) := hBx3.cell 4 (by simp); have q5 : w3.cell? ⟨W.heap.size, 5, none⟩ = some (.int .i64 qty) := hBx3.cell 5 (by simp); have q6 : w3.cell? ⟨W.heap.size, 6, none⟩ = some (.int .u8 0) := hBx3.cell 6 (by simp); have q7 : w3.cell? ⟨W.heap.size, 7, none⟩ = some (.int .i64 0) := hBx3.cell 7 (by simp); have q8 : w3.cell? ⟨W.heap.size, 8, none⟩ = some (.int .u8 0) := hBx3.cell 8 (by simp)))
  go_wp2_with (first
    | (go_at_call 37; (refine (popOrder_ph P4 HB.out.2.2.2.2.2.2.1 HB.out.2.2.2.2.2.2.2 hpb).mono ?_); rintro e w5 ⟨rfl, v5, P5, F5, hv5⟩
       simp only [pt]
       have hBx5 := hBx4.fr F5 (by simp [rowTag]) (fun h => h.elim (fun e => hBx4.blk.ne P4.en.blk (by decide) e) (fun e => hBx4.blk.neRow P4.por (by decide) e))
       have t0 : w5.cell? ⟨W.heap.size, 0, none⟩ = some (.int .u64 7) := hBx5.cell 0 (by simp)
       have t1 : w5.cell? ⟨W.heap.size, 1, none⟩ = some (.int .u64 i) := hBx5.cell 1 (by simp)
       have t3 : w5.cell? ⟨W.heap.size, 3, none⟩ = some (.int .u8 sv) := hBx5.cell 3 (by simp)
       have t4 : w5.cell? ⟨W.heap.size, 4, none⟩ = some (.int .i64 price) := hBx5.cell 4 (by simp)
       have hth : w5.there (ob i) 0 12 := (P5.ord i hi).blk.there)
    | (go_at_call 45; refine (him _).mono ?_; rintro e w4 ⟨rfl, hB4⟩
       have P4 := (((HB.out.2.1.below HB.out.1).drew).below hB3).below hB4
       have hBx4 := hBx3.below hB4)
    | (refine wpList_store_mid (op := ⟨none, .store 82 (.tmp 64) (.tmp 63), 0, _, _, none⟩) rfl 82 (.tmp 64) (.tmp 63) rfl (ob i) 0 (rested bb i sv price qty).toArray rfl rfl hth size82 (one_rested _ _ _ _ _) ?_))
  have PF := P5.setsO hi (rested bb i sv price qty) rfl
  have HB5 := hide (And.intro P4 (And.intro F5 (And.intro hB3 (And.intro hB4 (And.intro hv5 hBx4)))))
  clear p0 p1 p2 p3 p4 p5 p6 p7 p8 q0 q1 q2 q3 q4 q5 q6 q7 q8 t0 t1 t3 t4 P4 F5 hB3 hB4 hBx hBx3 hBx4 hth him htr hop hsd1 hx hv5
  generalize hW6 : w5.setCells (ob i) 0 (rested bb i sv price qty) = W6 at PF ⊢
  clear hW6
  obtain ⟨P6, F6⟩ := PF
  have hBy5 : Bk (W.heap.size + 1) 86 3 (fun k => #[Value.pointer pa, .pointer pb, .int .i64 pd].getD k undef) w5 := by
    obtain ⟨P4, F5, hB3, hB4, _⟩ := HB5.out
    have hBy4 := ((HB.out.2.2.2.2.2.1.drew).below hB3).below hB4
    exact hBy4.fr F5 (by simp [rowTag]) (fun h => h.elim (fun e => hBy4.blk.ne P4.en.blk (by decide) e) (fun e => hBy4.blk.neRow P4.por (by decide) e))
  have hBx6 := hBx5.fr F6 (by simp [rowTag]) (hBx5.blk.ne (P5.ord i hi).blk (by decide))
  have hBy6 := hBy5.fr F6 (by simp [rowTag]) (hBy5.blk.ne (P5.ord i hi).blk (by decide))
  have L6 : Lg m c ob { g with ec := upd g.ec 5 v5, pn := n0, px := px0, oc := upN g.oc i (fun k => (rested bb i sv price qty).getD k undef) } q tot lev := HB.out.2.2.1.oc rfl rfl rfl (fun j hj => by
    show upN g.oc i _ j 11 = _
    rw [upN_other _ _ (fun e => hj (by rw [e]; exact hlev))])
  have oc6 : ∀ k, upN g.oc i (fun k => (rested bb i sv price qty).getD k undef) i k = (rested bb i sv price qty).getD k undef := fun k => by rw [upN_same]
  have hadd := add_any (g := { g with ec := upd g.ec 5 v5, pn := n0, px := px0, oc := upN g.oc i (fun k => (rested bb i sv price qty).getD k undef) }) P6.drew L6 (by omega) (k := sdn sell) hkS hi hlev (oc6 11) (qty := qty) (price := price) (oc6 5) (oc6 4) (by omega) b1 HB.out.2.2.2.2.1
  simp only [pt] at hadd
  have x3 : W6.cell? ⟨W.heap.size, 3, none⟩ = some (.int .u8 sv) := hBx6.cell 3 (by simp)
  have y0 : W6.cell? ⟨W.heap.size + 1, 0, none⟩ = some (.pointer pa) := hBy6.cell 0 (by simp)
  have y1 : W6.cell? ⟨W.heap.size + 1, 1, none⟩ = some (.pointer pb) := hBy6.cell 1 (by simp)
  have y2 : W6.cell? ⟨W.heap.size + 1, 2, none⟩ = some (.int .i64 pd) := hBy6.cell 2 (by simp)
  have HP6 := hide (And.intro P5 (And.intro P6 (And.intro F6 (And.intro L6 hBy5))))
  clear P5 P6 F6 L6 hBx5 hBy5
  simp only [Act.put]
  go_region_held3 (fun w' => w'.cell? ⟨W.heap.size, 3, none⟩ = some (.int .u8 sv) ∧ w'.cell? ⟨W.heap.size + 1, 0, none⟩ = some (.pointer pa) ∧ w'.cell? ⟨W.heap.size + 1, 1, none⟩ = some (.pointer pb) ∧ w'.cell? ⟨W.heap.size + 1, 2, none⟩ = some (.int .i64 pd)) (first | exact ⟨x3, y0, y1, y2⟩ | exact ⟨x3', y0', y1', y2'⟩) (first
    | (go_at_call 42; refine (hsd2 _).mono ?_; rintro e w7 ⟨rfl, rfl⟩)
    | (go_at_call 39; refine hadd.mono ?_; rintro e w7 ⟨rfl, g7, q7, tot7, lev7, P7, L7, A7, F7⟩; have hBx7 := hBx6.drew.fr F7 (by simp [rowTag]) (hBx6.drew.blk.notTagged (by decide)); have hBy7 := hBy6.drew.fr F7 (by simp [rowTag]) (hBy6.drew.blk.notTagged (by decide)); have x3' : w7.cell? ⟨W.heap.size, 3, none⟩ = some (.int .u8 sv) := hBx7.cell 3 (by simp); have y0' : w7.cell? ⟨W.heap.size + 1, 0, none⟩ = some (.pointer pa) := hBy7.cell 0 (by simp); have y1' : w7.cell? ⟨W.heap.size + 1, 1, none⟩ = some (.pointer pb) := hBy7.cell 1 (by simp); have y2' : w7.cell? ⟨W.heap.size + 1, 2, none⟩ = some (.int .i64 pd) := hBy7.cell 2 (by simp)))
  obtain ⟨P4, F5, hB3, hB4, hv5, hBx4⟩ := HB5.out
  obtain ⟨P5, P6, F6, L6, hBy5⟩ := HP6.out
  obtain ⟨hB1, h, L, hM, hpl, hBy, hpn, hpx⟩ := HB.out
  have hM1 := hM.kept (hB1.block mb hM.lt)
  have hM3 := hM1.kept (hB3.block mb hM1.lt)
  have hM4 := hM3.kept (hB4.block mb hM3.lt)
  have hM5 := hM4.kept (F5.block mb hM4.lt (fun h => h.elim (fun e => hM4.notBlk P4.en.blk e.symm) (fun e => hM4.notRow P4.por e)))
  have hM6 := hM5.kept (F6.block mb hM5.lt (fun e => hM5.notBlk (P5.ord i hi).blk e.symm))
  have hM7 := hM6.kept (F7.block mb hM6.lt (hM6.notTagged _))
  have ec1 : g7.ec 1 = .map (some mb) := (A7.ec 1 (by omega)).trans ((upd_other g.ec (k := 5) (j := 1) v5 (by decide)).trans he1)
  have e1 : w7.cell? ⟨eb, 1, none⟩ = some (.map (some mb)) := by rw [P7.en.cell 1 (by omega), ec1]
  have z0 : w7.cell? ⟨W.heap.size, 0, none⟩ = some (.int .u64 7) := hBx7.cell 0 (by simp)
  have z1 : w7.cell? ⟨W.heap.size, 1, none⟩ = some (.int .u64 i) := hBx7.cell 1 (by simp)
  obtain ⟨w8, hrun, hM8, ht8⟩ := (hM7.kept (W' := w7.drew) rfl).put (by omega) (i := i) (by omega) (ob i)
  have F8 := turned_fr ht8
  have hem : eb ≠ mb := hM7.notBlk P7.en.blk
  have hnm : W.heap.size ≠ mb := hM7.notBlk hBx7.blk
  have e1' : w8.cell? ⟨eb, 1, none⟩ = some (.map (some mb)) := (F8.cell (b := eb) P7.en.lt hem 1).trans e1
  have z0' : w8.cell? ⟨W.heap.size, 0, none⟩ = some (.int .u64 7) := (F8.cell (b := W.heap.size) hBx7.lt hnm 0).trans z0
  have z1' : w8.cell? ⟨W.heap.size, 1, none⟩ = some (.int .u64 i) := (F8.cell (b := W.heap.size) hBx7.lt hnm 1).trans z1
  simp only [kv, pt] at hrun
  have HF := hide (And.intro P7 (And.intro L7 (And.intro A7 (And.intro F7 (And.intro hM8 (And.intro F8 (And.intro hM7 hM1)))))))
  clear P4 F5 hB3 hB4 hv5 hBx4 P5 P6 F6 L6 hBy5 hB1 h L hM hpl hBy hpn hpx hM1 hM3 hM4 hM5 hM6 hM7 P7 L7 A7 F7 hM8 F8 ht8 hBx6 hBy6 hBx7 hBy7 hadd hsd2 oc6
  go_wp2
  go_region_held3 (fun w' => w'.cell? ⟨eb, 1, none⟩ = some (.map (some mb)) ∧ w'.cell? ⟨W.heap.size, 0, none⟩ = some (.int .u64 7) ∧ w'.cell? ⟨W.heap.size, 1, none⟩ = some (.int .u64 i)) (first | exact ⟨e1, z0, z1⟩ | exact ⟨e1', z0', z1'⟩) (fail)
  go_wp2
  go_ret2
  refine ⟨rfl, g7, q7, tot7, lev7, ?_⟩
  obtain ⟨P4, F5, hB3, hB4, hv5, hBx4⟩ := HB5.out
  obtain ⟨P5, P6, F6, L6, hBy5⟩ := HP6.out
  obtain ⟨hB1, h, L, hM, hpl, hBy, hpn, hpx⟩ := HB.out
  obtain ⟨P7, L7, A7, F7, hM8, F8, hM7, hM1⟩ := HF.out
  have P8 : Ph ob m eb bb g7 w8 := P7.drew.fr F8 hem (hM7.notBlk P7.bk) (fun b hb => hM7.notBlk hb) (fun j hj => hM7.notBlk (P7.ord j hj).blk) (fun b hb e => hM7.notRow P7.flr (by rw [hb, e])) (fun b hb e => hM7.notRow P7.por (by rw [hb, e]))
  have hB14 : Below W.heap.size W w4 := ((below_draws hB1 1).trans (hB3.mono hB1.size)).trans (hB4.mono (Nat.le_trans hB1.size hB3.size))
  have Fa : Fr (fun b => Tagged addTags W b ∨ (g.ec 5).ownBlock = some b ∨ b = mb) W w4 := Fr.below hB14
  have Fb := Fa.join F5 (fun b hb e => e.elim (fun e => .inl (e ▸ h.en.blk.tagged (by decide))) (fun e => .inr (.inl e)))
  have Fc := Fb.join F6 (fun b hb e => .inl (e ▸ (h.ord i hi).blk.tagged (by decide)))
  have Fd := Fc.drew.join F7 (fun b hb e => (Tagged.back Fc.drew hb e).elim id .inl)
  have Fe := Fd.drew.join F8 (fun b hb e => .inr (.inr e))
  refine ⟨P8, L7, hM8, A7.on, fun j hj => ?_, fun i' hi' j hj => ?_, fun j h5 h6 => ?_, A7.pn, A7.px, ?_, A7.lev1, A7.lev2, Fe⟩
  · rw [A7.oc i j hj]
    show upN g.oc i _ i j = _
    rw [upN_same, HSI.out]
  · rw [A7.oc i' j hj]
    show upN g.oc i _ i' j = _
    rw [upN_other _ _ hi']
  · rw [A7.ec j h6]
    exact upd_other _ _ h5
  · rw [A7.ec 5 (by omega), ← hv5]
    exact congrArg Value.ownBlock (upd_same g.ec 5 v5)
end
end Go.Proofs.Ybulkjrk
