/-
  OWN WORK: the engine in the heap: what holds physically.
-/
import Derived.Test.YbulkjrkW4
namespace Go.Proofs.Ybulkjrk
open Go.RowKit
set_option linter.unusedSimpArgs false
set_option linter.unusedVariables false
set_option linter.unusedSectionVars false
variable [Base]
/-- The side with a fresh level b at price p. -/
def fresh (σ : Sd) (b : Nat) (p : Int) : Sd :=
  { price := up σ.price b p, ch := fun k e => if k = b then none else σ.ch k e, par := up σ.par b none, h := up σ.h b 0, nx := fun k e => if k = b then none else σ.nx k e, root := σ.root, ends := σ.ends }
theorem fresh_fr {σ : Sd} {b : Nat} {p : Int} {y : Nat} (h : y ≠ b) : (fresh σ b p).ch y = σ.ch y ∧ (fresh σ b p).par y = σ.par y ∧ (fresh σ b p).h y = σ.h y := by
  refine ⟨?_, up_ne _ _ _ h, up_ne _ _ _ h⟩
  funext e
  show (if y = b then none else σ.ch y e) = _
  rw [if_neg h]
theorem Good.fresh {σ : Sd} {ll : List Nat} (hG : Good σ ll) {b : Nat} (hb : b ∉ ll) (p : Int) : Good (fresh σ b p) ll := by
  have ne : ∀ y ∈ ll, y ≠ b := fun y hy e => hb (e ▸ hy)
  obtain ⟨h, t⟩ := hG.tree
  refine ⟨⟨h, t.frame (fun y hy => fresh_fr (ne y hy))⟩, hG.nd, fun y hy => ?_, ⟨fun A x B e => ?_, hG.chain.2⟩, ?_⟩
  · rw [(fresh_fr (p := p) (σ := σ) (ne y hy)).1, (fresh_fr (p := p) (σ := σ) (ne y hy)).2.1]; exact hG.cl y hy
  · have hx : x ≠ b := ne x (by rw [e]; simp)
    have := hG.chain.1 A x B e
    exact ⟨by show (if x = b then none else σ.nx x false) = _; rw [if_neg hx]; exact this.1, by show (if x = b then none else σ.nx x true) = _; rw [if_neg hx]; exact this.2⟩
  · refine hG.sort.imp_of_mem (fun {x y} hx hy hxy => ?_)
    show up σ.price b p x < up σ.price b p y
    rw [up_ne _ _ _ (ne x hx), up_ne _ _ _ (ne y hy)]; exact hxy
theorem Loc.fresh {σ : Sd} {n p d o was L R} (h : Loc σ n p d o was L R) {b : Nat} (hb : b ∉ L ++ R) (pr : Int) : Loc (fresh σ b pr) n p d o was L R := by
  rcases h with h | ⟨q, ls, ho, L', R', e0, e1, ts, e2, e3, e4, c, e5⟩
  · exact .inl h
  · have hm : ∀ y, (y = q ∨ y ∈ ls ∨ y ∈ L' ∨ y ∈ R') → y ≠ b := fun y hy e => hb (by
      subst e
      rcases e5 with ⟨rfl, rfl, rfl⟩ | ⟨rfl, rfl, rfl⟩ <;> (simp; rcases hy with h | h | h | h <;> simp [h]))
    have hq := fresh_fr (σ := σ) (p := pr) (hm q (.inl rfl))
    refine .inr ⟨q, ls, ho, L', R', e0, by rw [hq.1, e1], by rw [hq.1]; exact ts.frame (fun y hy => fresh_fr (hm y (.inr (.inl hy)))), by rw [hq.2.2, e2], e3, e4, ?_, e5⟩
    rw [hq.2.1, hq.2.2]
    exact C.frame (σ := σ) (σ' := Ybulkjrk.fresh σ b pr) rfl c (fun y hy => fresh_fr (hm y (.inr (.inr hy))))


theorem Fr.one (W : World) (b o : Nat) (v : Value) : Fr (fun k => k = b) W (W.setCell ⟨b, o, none⟩ v) := Fr.setCell (b := b) (Fr.refl (fun k => k = b) W) (fun _ => rfl) o v
/-- A block that bears one of these types. -/
def Tagged (T : List TypeId) (W : World) (b : Nat) : Prop := Base.B ≤ b ∧ ∃ cs t fr, W.heap[b]? = some (.cells cs t fr) ∧ t ∈ T
theorem Fr.tagTrans {T : List TypeId} {W W' W'' : World} (h : Fr (Tagged T W) W W') (k : Fr (Tagged T W') W' W'') : Fr (Tagged T W) W W'' :=
  h.join k fun b hb hT => by
    by_cases hA : Tagged T W b
    · exact hA
    · obtain ⟨hlo, cs, t, fr, e, ht⟩ := hT
      rw [h.block b hb hA] at e
      exact ⟨hlo, cs, t, fr, e, ht⟩
theorem Blk.tagged {T : List TypeId} {W : World} {b t n} (h : Blk W b t n) (ht : t ∈ T) : Tagged T W b := by
  obtain ⟨hlo, cs, h, _⟩ := h
  exact ⟨hlo, cs, t, _, h, ht⟩
theorem Blk.notTagged {T : List TypeId} {W : World} {b t n} (h : Blk W b t n) (ht : t ∉ T) : ¬ Tagged T W b := fun ⟨_, cs, t', fr, e, h'⟩ => by
  obtain ⟨_, cs', h, _⟩ := h
  rw [h] at e
  cases e
  exact ht h'
theorem rowTagged {T : List TypeId} {W : World} {e : TypeId} {size n : Nat} {v : Value} {xs : List Value} (h : W.ownsRow Base.B e size v n xs) (he : e ∈ T) {b : Nat} (hb : v.ownBlock = some b) : Tagged T W b := by
  rcases h.2 with ⟨rfl, _⟩ | ⟨g, cap, cur, rfl, hlo, hc, _⟩
  · cases hb
  · have : g = b := by simpa [Value.ownBlock] using hb
    subst this
    exact ⟨hlo, cur, e, _, hc, he⟩
theorem rowNotTagged {T : List TypeId} {W : World} {e : TypeId} {size n : Nat} {v : Value} {xs : List Value} (h : W.ownsRow Base.B e size v n xs) (he : e ∉ T) {b : Nat} (hb : v.ownBlock = some b) : ¬ Tagged T W b := by
  rcases h.2 with ⟨rfl, _⟩ | ⟨g, cap, cur, rfl, _, hc, _⟩
  · cases hb
  · have : g = b := by simpa [Value.ownBlock] using hb
    subst this
    rintro ⟨_, cs, t, fr, e', h'⟩
    rw [hc] at e'
    cases e'
    exact he h'

/-- A side, its levels and its cells kept, is as it was. -/
theorem Rep.keep {S : Sid} {D : Nat → Prop} {ex : Nat → Nat → Value} {s0 : Value} {W W' : World} {σ : Sd} (h : Rep S D ex s0 W σ) (hs : W.heap.size ≤ W'.heap.size) (hb : ∀ b, D b → W'.heap[b]? = W.heap[b]?) (hc : ∀ o, o < 4 → W'.cell? ⟨S.b, S.o + o, none⟩ = W.cell? ⟨S.b, S.o + o, none⟩) (hf : ∀ o, W'.frozen? ⟨S.b, o, none⟩ = W.frozen? ⟨S.b, o, none⟩) : Rep S D ex s0 W' σ :=
  ⟨fun b hD => Nat.lt_of_lt_of_le (h.lt b hD) hs, h.ne, Nat.lt_of_lt_of_le h.slt hs, fun b hD o ho => (World.cell?_of_block (a := ⟨b, o, none⟩) (hb b hD)).trans (h.cell b hD o ho), fun b hD o => (World.frozen?_of_block (a := ⟨b, o, none⟩) (hb b hD)).trans (h.fz b hD o),
    fun o ho => (hc o ho).trans (h.side o ho), fun o => (hf o).trans (h.sfz o), fun b hD => by
      obtain ⟨cs, e⟩ := h.blk b hD
      exact ⟨cs, (hb b hD).trans e⟩⟩
theorem Rep.congr {S : Sid} {D : Nat → Prop} {ex ex' : Nat → Nat → Value} {s0 : Value} {W : World} {σ : Sd} (h : Rep S D ex s0 W σ) (he : ∀ b, D b → ∀ o, ex' b o = ex b o) : Rep S D ex' s0 W σ :=
  ⟨h.lt, h.ne, h.slt, fun b hD o ho => by
    rw [h.cell b hD o ho]
    unfold lv
    split <;> first | rfl | rw [he b hD], h.fz, h.side, h.sfz, h.blk⟩

def sid (bb k : Nat) : Sid := ⟨bb, 1 + 4 * k⟩
/-- 0 buy, 1 sell, 2 loss (sorts as a buy), 3 entry (as a sell). -/
def buyk (k : Nat) : Bool := k % 2 == 0
def upN {α : Type} (f : Nat → α) (k : Nat) (v : α) : Nat → α := fun j => if j = k then v else f j
theorem upN_same {α : Type} (f : Nat → α) (k : Nat) (v : α) : upN f k v k = v := if_pos rfl
theorem upN_other {α : Type} (f : Nat → α) {k j : Nat} (v : α) (h : j ≠ k) : upN f k v j = f j := if_neg h
/-- What the heap holds of an engine with one book. -/
structure Gp where
  σ : Nat → Sd
  ll : Nat → List Nat
  ex : Nat → Nat → Value
  fl : List Nat
  oc : Nat → Nat → Value
  ec : Nat → Value
  pn : Nat
  px : List Value
def lzero : Nat → Value := fun k => (lfresh 0).toList.getD k undef
def pt (b : Nat) : Value := .pointer (some ⟨b, 0, none⟩)
structure Ph (ob : Nat → Nat) (m eb bb : Nat) (g : Gp) (W : World) : Prop where
  en : Bk eb 79 8 g.ec W
  bk : Blk W bb 49 17
  sym : W.cell? ⟨bb, 0, none⟩ = some (.string ⟨#[83]⟩)
  rep : ∀ k, k < 4 → Rep (sid bb k) (· ∈ g.ll k) g.ex (sdv (buyk k)) W (g.σ k)
  lvb : ∀ k, k < 4 → ∀ l ∈ g.ll k, Blk W l 37 10
  good : ∀ k, k < 4 → Good (g.σ k) (g.ll k)
  dis : ∀ j k, j < 4 → k < 4 → j ≠ k → ∀ l ∈ g.ll j, l ∉ g.ll k
  flr : W.ownsRow Base.B 29 1 (g.ec 6) g.fl.length (g.fl.map pt)
  fln : g.fl.Nodup
  flz : ∀ l ∈ g.fl, Bk l 37 10 lzero W
  fld : ∀ k, k < 4 → ∀ l ∈ g.ll k, l ∉ g.fl
  oinj : ∀ i j, i < m → j < m → ob i = ob j → i = j
  ord : ∀ i, i < m → Bk (ob i) 82 12 (g.oc i) W
  por : W.ownsRow Base.B 34 1 (g.ec 5) g.pn g.px
section
variable {ob : Nat → Nat} {m eb bb : Nat} {g : Gp} {W W' : World}
/-- Its blocks kept, it is as it was. -/
theorem Ph.fr (h : Ph ob m eb bb g W) {A : Nat → Prop} (k : Fr A W W') (he : ¬ A eb) (hb : ¬ A bb) (hl : ∀ b, Blk W b 37 10 → ¬ A b) (ho : ∀ i, i < m → ¬ A (ob i)) (h6 : ∀ b, (g.ec 6).ownBlock = some b → ¬ A b) (h5 : ∀ b, (g.ec 5).ownBlock = some b → ¬ A b) : Ph ob m eb bb g W' :=
  ⟨h.en.fr k (by simp [rowTag]) he, h.bk.fr k (by simp [rowTag]), (k.cell h.bk.lt hb 0).trans h.sym,
    fun j hj => (h.rep j hj).keep k.size (fun b hD => k.block b ((h.rep j hj).lt b hD) (hl b (h.lvb j hj b hD))) (fun o ho => k.cell h.bk.lt hb _) (fun o => k.frozen h.bk.lt hb _),
    fun j hj l hl' => (h.lvb j hj l hl').fr k (by simp [rowTag]), h.good, h.dis, rowFr h.flr k h6, h.fln, fun l hl' => (h.flz l hl').fr k (by simp [rowTag]) (hl l (h.flz l hl').blk), h.fld, h.oinj, fun i hi => (h.ord i hi).fr k (by simp [rowTag]) (ho i hi), rowFr h.por k h5⟩
theorem Ph.below (h : Ph ob m eb bb g W) (k : Below W.heap.size W W') : Ph ob m eb bb g W' :=
  h.fr (A := fun _ => False) (Fr.below k) (fun e => e) (fun e => e) (fun _ _ e => e) (fun _ _ e => e) (fun _ _ e => e) (fun _ _ e => e)
theorem Ph.alloc (h : Ph ob m eb bb g W) (o : Obj) : Ph ob m eb bb g (W.alloc o) := h.below ((Below.refl _ _).alloc (Nat.le_refl _) _)
theorem Ph.drewN (h : Ph ob m eb bb g W) (n : Nat) : Ph ob m eb bb g (W.drewN n) := h.below ⟨rfl, rfl, rfl, Nat.le_refl _, fun _ _ => rfl⟩
theorem Ph.drew (h : Ph ob m eb bb g W) : Ph ob m eb bb g W.drew := h.below ⟨rfl, rfl, rfl, Nat.le_refl _, fun _ _ => rfl⟩
theorem Ph.neO {i : Nat} (h : Ph ob m eb bb g W) (hi : i < m) {b : Nat} {t : TypeId} {n : Nat} (hb : Blk W b t n) (ht : t ≠ 82) : b ≠ ob i := hb.ne (h.ord i hi).blk ht

/-- A store into an order. -/
theorem Ph.setO (h : Ph ob m eb bb g W) {i j : Nat} (hi : i < m) (hj : j < 12) (v : Value) : Ph ob m eb bb { g with oc := upN g.oc i (upd (g.oc i) j v) } (W.setCell ⟨ob i, j, none⟩ v) := by
  have F : Fr (fun b => b = ob i) W (W.setCell ⟨ob i, j, none⟩ v) := Fr.one _ _ _ _
  have ne : ∀ {b t n}, Blk W b t n → t ≠ 82 → ¬ b = ob i := fun hb ht => h.neO hi hb ht
  have nr : ∀ {e v' n xs}, W.ownsRow Base.B e 1 v' n xs → 82 ≠ e → ∀ b, v'.ownBlock = some b → ¬ b = ob i := fun ho he b hb e => (h.ord i hi).blk.neRow ho he (by rw [hb, e])
  refine ⟨h.en.fr F (by simp [rowTag]) (ne h.en.blk (by decide)), h.bk.fr F (by simp [rowTag]), (F.cell h.bk.lt (ne h.bk (by decide)) 0).trans h.sym,
    fun j hj => (h.rep j hj).keep F.size (fun b hD => F.block b ((h.rep j hj).lt b hD) (ne (h.lvb j hj b hD) (by decide))) (fun o ho => F.cell h.bk.lt (ne h.bk (by decide)) _) (fun o => F.frozen h.bk.lt (ne h.bk (by decide)) _),
    fun j hj l hl' => (h.lvb j hj l hl').fr F (by simp [rowTag]), h.good, h.dis, rowFr h.flr F (nr h.flr (by decide)), h.fln, fun l hl' => (h.flz l hl').fr F (by simp [rowTag]) (ne (h.flz l hl').blk (by decide)), h.fld, h.oinj, fun i' hi' => ?_, rowFr h.por F (nr h.por (by decide))⟩
  by_cases e : i' = i
  · subst e
    show Bk (ob i') 82 12 (upN g.oc i' _ i') _
    rw [upN_same]
    exact (h.ord i' hi').set hj v
  · show Bk (ob i') 82 12 (upN g.oc i _ i') _
    rw [upN_other _ _ e]
    exact (h.ord i' hi').setO (fun e' => e (h.oinj i' i hi' hi e'.symm)) v
/-- A store into a level, besides its place. -/
theorem Ph.setL (h : Ph ob m eb bb g W) {k l o : Nat} (hk : k < 4) (hl : l ∈ g.ll k) (h1 : 1 ≤ o) (h3 : o ≤ 3) (v : Value) : Ph ob m eb bb { g with ex := upN g.ex l (upd (g.ex l) o v) } (W.setCell ⟨l, o, none⟩ v) := by
  have F : Fr (fun b => b = l) W (W.setCell ⟨l, o, none⟩ v) := Fr.one _ _ _ _
  have hlb := h.lvb k hk l hl
  have ne : ∀ {b t n}, Blk W b t n → t ≠ 37 → ¬ b = l := fun hb ht => hb.ne hlb ht
  have nr : ∀ {e v' n xs}, W.ownsRow Base.B e 1 v' n xs → 37 ≠ e → ∀ b, v'.ownBlock = some b → ¬ b = l := fun ho he b hb e => hlb.neRow ho he (by rw [hb, e])
  refine ⟨h.en.fr F (by simp [rowTag]) (ne h.en.blk (by decide)), h.bk.fr F (by simp [rowTag]), (F.cell h.bk.lt (ne h.bk (by decide)) 0).trans h.sym,
    fun j hj => ?_, fun j hj l hl' => (h.lvb j hj l hl').fr F (by simp [rowTag]), h.good, h.dis, rowFr h.flr F (nr h.flr (by decide)), h.fln, fun l' hl' => (h.flz l' hl').fr F (by simp [rowTag]) (fun e => h.fld k hk l hl (e ▸ hl')), h.fld, h.oinj, fun i' hi' => (h.ord i' hi').fr F (by simp [rowTag]) (ne (h.ord i' hi').blk (by decide)), rowFr h.por F (nr h.por (by decide))⟩
  by_cases e : j = k
  · subst e
    have H := h.rep j hj
    refine ⟨fun b hb => by simpa using H.lt b hb, H.ne, by simpa using H.slt, fun b hb o' ho' => ?_, fun b hb o' => by rw [World.frozen?_setCell]; exact H.fz b hb o', fun o' ho' => (F.cell h.bk.lt (ne h.bk (by decide)) _).trans (H.side o' ho'), fun o' => by rw [World.frozen?_setCell]; exact H.sfz o', fun b hb => (H.blk b hb).setCell _ _⟩
    by_cases eb' : b = l ∧ o' = o
    · obtain ⟨rfl, rfl⟩ := eb'
      rw [World.cell?_setCell_same _ _ _ (H.cell b hb o' ho')]
      rcases (by omega : o' = 1 ∨ o' = 2 ∨ o' = 3) with rfl | rfl | rfl <;> simp [lv, upN, upd]
    · rw [World.cell?_setCell_other _ _ _ _ (by intro e'; cases e'; exact eb' ⟨rfl, rfl⟩), H.cell b hb o' ho']
      rcases ten ho' with rfl | rfl | rfl | rfl | rfl | rfl | rfl | rfl | rfl | rfl <;> simp only [lv]
      all_goals
        by_cases e1 : b = l
        · subst e1; rw [upN_same, upd_other _ _ (fun e2 => eb' ⟨rfl, e2⟩)]
        · rw [upN_other _ _ e1]
  · have nl : ∀ b, b ∈ g.ll j → b ≠ l := fun b hb e' => h.dis j k hj hk e b hb (e' ▸ hl)
    exact ((h.rep j hj).keep F.size (fun b hD => F.block b ((h.rep j hj).lt b hD) (nl b hD)) (fun o ho => F.cell h.bk.lt (ne h.bk (by decide)) _) (fun o => F.frozen h.bk.lt (ne h.bk (by decide)) _)).congr (fun b hb o' => by show upN g.ex l _ b o' = _; rw [upN_other _ _ (nl b hb)])
/-- A store into the engine, besides its pools. -/
theorem Ph.setE (h : Ph ob m eb bb g W) {j : Nat} (hj : j < 8) (h5 : j ≠ 5) (h6 : j ≠ 6) (v : Value) : Ph ob m eb bb { g with ec := upd g.ec j v } (W.setCell ⟨eb, j, none⟩ v) := by
  have F : Fr (fun b => b = eb) W (W.setCell ⟨eb, j, none⟩ v) := Fr.one _ _ _ _
  have ne : ∀ {b t n}, Blk W b t n → t ≠ 79 → ¬ b = eb := fun hb ht => hb.ne h.en.blk ht
  have nr : ∀ {e v' n xs}, W.ownsRow Base.B e 1 v' n xs → 79 ≠ e → ∀ b, v'.ownBlock = some b → ¬ b = eb := fun ho he b hb e => h.en.blk.neRow ho he (by rw [hb, e])
  refine ⟨h.en.set hj v, h.bk.fr F (by simp [rowTag]), (F.cell h.bk.lt (ne h.bk (by decide)) 0).trans h.sym,
    fun j hj => (h.rep j hj).keep F.size (fun b hD => F.block b ((h.rep j hj).lt b hD) (ne (h.lvb j hj b hD) (by decide))) (fun o ho => F.cell h.bk.lt (ne h.bk (by decide)) _) (fun o => F.frozen h.bk.lt (ne h.bk (by decide)) _),
    fun j hj l hl' => (h.lvb j hj l hl').fr F (by simp [rowTag]), h.good, h.dis, ?_, h.fln, fun l hl' => (h.flz l hl').fr F (by simp [rowTag]) (ne (h.flz l hl').blk (by decide)), h.fld, h.oinj, fun i' hi' => (h.ord i' hi').fr F (by simp [rowTag]) (ne (h.ord i' hi').blk (by decide)), ?_⟩
  · show World.ownsRow _ Base.B 29 1 (upd g.ec j v 6) _ _
    rw [upd_other _ _ (Ne.symm h6)]
    exact rowFr h.flr F (nr h.flr (by decide))
  · show World.ownsRow _ Base.B 34 1 (upd g.ec j v 5) _ _
    rw [upd_other _ _ (Ne.symm h5)]
    exact rowFr h.por F (nr h.por (by decide))
end
end Go.Proofs.Ybulkjrk
