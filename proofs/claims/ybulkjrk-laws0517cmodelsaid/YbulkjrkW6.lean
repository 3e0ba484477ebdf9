/-
  OWN WORK: a level out of the pool, linked; a level unlinked, into the pool; orders out of the pool and back.
-/
import Derived.Test.YbulkjrkW5
import Derived.WalkSmall
namespace Go.Proofs.Ybulkjrk
open Go.RowKit
set_option linter.unusedSimpArgs false
set_option linter.unusedVariables false
set_option linter.unusedSectionVars false
variable [Base]
theorem rowPop {W : World} {e : TypeId} {g cap n : Nat} {xs : List Value} {y u : Value} (hx : xs.length = n) (h : W.ownsRow Base.B e 1 (.slice (some ⟨g, 0, none⟩) (n + 1) cap) (n + 1) (xs ++ [y])) : (W.setCell ⟨g, n, none⟩ u).ownsRow Base.B e 1 (.slice (some ⟨g, 0, none⟩) n cap) n xs := by
  have h1 := ownsRow_pop (by omega) h
  have h2 := (h1.stored n u).1
  rwa [List.set_eq_of_length_le (by omega)] at h2
theorem upd_self (f : Nat → Value) (k : Nat) : upd f k (f k) = f := by
  funext j
  unfold upd
  split
  · next h => rw [h]
  · rfl
theorem rowForm {W : World} {e : TypeId} {v : Value} {n : Nat} {xs : List Value} (h : W.ownsRow Base.B e 1 v n xs) : ∃ a cap, v = .slice a n cap := by
  rcases h.2 with ⟨rfl, rfl⟩ | ⟨g, cap, cur, rfl, _⟩
  · exact ⟨_, _, rfl⟩
  · exact ⟨_, _, rfl⟩
theorem rowForm1 {W : World} {e : TypeId} {v : Value} {n : Nat} {xs : List Value} (h : W.ownsRow Base.B e 1 v (n + 1) xs) : ∃ g cap, v = .slice (some ⟨g, 0, none⟩) (n + 1) cap ∧ n + 1 ≤ cap := by
  rcases h.2 with ⟨rfl, h0⟩ | ⟨g, cap, cur, rfl, _, _, h1, _⟩
  · cases h0
  · exact ⟨_, _, rfl, h1⟩
section
variable {ob : Nat → Nat} {m eb bb : Nat} {g : Gp} {W W' : World}
def lfr (p : Int) : Nat → Value := fun k => (lfresh p).toList.getD k undef
def lvTags : List TypeId := [79, 37, 29]
theorem lfr_upd (p : Int) (k : Nat) (hk : k < 10) : upd lzero 0 (.int .i64 p) k = lfr p k := by
  rcases ten hk with rfl | rfl | rfl | rfl | rfl | rfl | rfl | rfl | rfl | rfl <;> rfl
theorem Bk.cong {b t n} {f f' : Nat → Value} (h : Bk b t n f W) (he : ∀ k, k < n → f k = f' k) : Bk b t n f' W := ⟨h.blk, fun k hk => by rw [h.cell k hk, he k hk]⟩

theorem level_any (h : Ph ob m eb bb g W) (p : Int) (hn : g.fl.length ≤ 4000) : Calls Yba.prog 53 #[.pointer (some ⟨eb, 5, none⟩), .int .i64 p] W fun e w' => ∃ x fl' v6, e = .returned (pt x) ∧ Ph ob m eb bb { g with fl := fl', ec := upd g.ec 6 v6 } w' ∧ Bk x 37 10 (lfr p) w' ∧
    (∀ k, k < 4 → x ∉ g.ll k) ∧ x ∉ fl' ∧ fl'.length ≤ g.fl.length ∧ Fr (Tagged lvTags W) W w' := by
  have c6 := h.en.cell 6 (by omega)
  rcases List.eq_nil_or_concat g.fl with hfl | ⟨fl0, x, hfl⟩
  · have hrow := h.flr
    rw [hfl] at hrow
    obtain ⟨a, cap, hv⟩ := rowForm hrow
    simp only [List.length_nil] at hv
    rw [hv] at c6
    refine (level_new c6 p).mono ?_
    rintro e w' ⟨rfl, rfl⟩
    refine ⟨W.heap.size, [], g.ec 6, rfl, ?_, (Bk.new W (lfresh p) 37 h.en.base).cong (fun k hk => by rcases ten hk with rfl | rfl | rfl | rfl | rfl | rfl | rfl | rfl | rfl | rfl <;> rfl), fun k hk hx => ?_, by simp, by simp, (Fr.refl _ _).alloc _⟩
    · have := h.alloc (.cells (lfresh p) 37)
      rw [upd_self]
      have e : ({ g with fl := [], ec := g.ec } : Gp) = g := by rw [← hfl]
      rw [e]
      exact this
    · have := (h.rep k hk).lt _ hx
      omega
  · have hrow := h.flr
    rw [List.concat_eq_append] at hfl
    rw [hfl] at hrow
    simp only [List.length_append, List.length_cons, List.length_nil, Nat.zero_add, List.map_append, List.map_cons, List.map_nil] at hrow
    obtain ⟨r, cap, hv, hcap⟩ := rowForm1 hrow
    have hrow6 := hrow
    rw [hv] at c6 hrow
    have hxm : x ∈ g.fl := by rw [hfl]; simp
    have hX := h.flz x hxm
    have hx0 := hX.cell 0 (by omega)
    have hxe : x ≠ eb := hX.blk.ne h.en.blk (by decide)
    have hrx : r ≠ x := fun e => hX.blk.neRow hrow (by decide) (by rw [← e]; rfl)
    have hre : r ≠ eb := fun e => h.en.blk.neRow hrow (by decide) (by rw [← e]; rfl)
    have hcr := hrow.cellAt fl0.length (by omega)
    rw [List.getElem?_append_right (by simp)] at hcr
    simp at hcr
    have hnd := h.fln
    rw [hfl] at hnd
    obtain ⟨nd1, _, nd2⟩ := List.nodup_append.1 hnd
    have hx0' : x ∉ fl0 := fun hh => nd2 x hh x (by simp) rfl
    have hlen : fl0.length ≤ 4000 := by have := congrArg List.length hfl; simp at this; omega
    refine (level_old c6 hcr (hrow.frozenAt _) (h.en.frozen 6) hcap (by omega) hre hx0 (hX.frozen 0) hxe (Ne.symm hrx) p).mono ?_
    rintro e w' ⟨rfl, rfl⟩
    have tr : Tagged lvTags W r := rowTagged hrow (by decide) rfl
    have te : Tagged lvTags W eb := h.en.blk.tagged (by decide)
    have tx : Tagged lvTags W x := hX.blk.tagged (by decide)
    have F : Fr (fun b => b = r ∨ b = eb ∨ b = x) W (((W.setCell ⟨r, fl0.length, none⟩ (.pointer none)).setCell ⟨eb, 6, none⟩ (.slice (some ⟨r, 0, none⟩) fl0.length cap)).setCell ⟨x, 0, none⟩ (.int .i64 p)) :=
      (((Fr.refl _ W).setCell (b := r) (fun _ => .inl rfl) _ _).setCell (b := eb) (fun _ => .inr (.inl rfl)) _ _).setCell (b := x) (fun _ => .inr (.inr rfl)) _ _
    have hR1 := rowPop (u := .pointer none) (by simp) hrow
    have hE1 := ((h.en.setO hre (.pointer none) (k := fl0.length)).set (k := 6) (by omega) (.slice (some ⟨r, 0, none⟩) fl0.length cap)).setO (k := 0) hxe (.int .i64 p)
    have hX1 := ((hX.setO (k := fl0.length) hrx (.pointer none)).setO (k := 6) (Ne.symm hxe) (.slice (some ⟨r, 0, none⟩) fl0.length cap)).set (k := 0) (by omega) (.int .i64 p)
    have na : ∀ {b t n}, Blk W b t n → t ≠ 79 → t ≠ 37 → t ≠ 29 → ¬ (b = r ∨ b = eb ∨ b = x) := fun {b t n} hb h1 h2 h3 => by
      rintro (e | e | e)
      · exact hb.neRow hrow h3 (by rw [e]; rfl)
      · exact hb.ne h.en.blk h1 e
      · exact hb.ne hX.blk h2 e
    have nl : ∀ k, k < 4 → ∀ l ∈ g.ll k, ¬ (l = r ∨ l = eb ∨ l = x) := fun k hk l hl => by
      rintro (e | e | e)
      · exact (h.lvb k hk l hl).neRow hrow (by decide) (by rw [e]; rfl)
      · exact (h.lvb k hk l hl).ne h.en.blk (by decide) e
      · exact h.fld k hk l hl (e ▸ hxm)
    refine ⟨x, fl0, .slice (some ⟨r, 0, none⟩) fl0.length cap, rfl, ?_, hX1.cong (fun k hk => lfr_upd p k hk), fun k hk hx => h.fld k hk x hx hxm, hx0', by rw [hfl]; simp, F.mono (fun b _ hb => hb.elim (fun e => e ▸ tr) (fun hb => hb.elim (fun e => e ▸ te) (fun e => e ▸ tx)))⟩
    have hbb := na h.bk (by decide) (by decide) (by decide)
    refine ⟨hE1, h.bk.fr F (by simp [rowTag]), (F.cell h.bk.lt hbb 0).trans h.sym,
      fun j hj => (h.rep j hj).keep F.size (fun b hD => F.block b ((h.rep j hj).lt b hD) (nl j hj b hD)) (fun o ho => F.cell h.bk.lt hbb _) (fun o => F.frozen h.bk.lt hbb _),
      fun j hj l hl' => (h.lvb j hj l hl').fr F (by simp [rowTag]), h.good, h.dis, ?_, nd1, fun l hl' => ?_, fun k hk l hl hl' => h.fld k hk l hl (by rw [hfl]; simp [hl']), h.oinj, fun i hi => (h.ord i hi).fr F (by simp [rowTag]) (na (h.ord i hi).blk (by decide) (by decide) (by decide)), ?_⟩
    · show World.ownsRow _ Base.B 29 1 (upd g.ec 6 _ 6) _ _
      rw [upd_same]
      exact rowFr hR1 ((((Fr.refl (fun b => b = eb ∨ b = x) _).setCell (b := eb) (fun _ => .inl rfl) _ _).setCell (b := x) (fun _ => .inr rfl) _ _)) (fun b hb => by
        have : r = b := by simpa [Value.ownBlock, upd] using hb
        subst this
        rintro (e | e)
        · exact hre e
        · exact hrx e)
    · have hl2 : l ∈ g.fl := by rw [hfl]; simp [hl']
      refine (h.flz l hl2).fr F (by simp [rowTag]) ?_
      rintro (e | e | e)
      · exact (h.flz l hl2).blk.neRow hrow (by decide) (by rw [e]; rfl)
      · exact (h.flz l hl2).blk.ne h.en.blk (by decide) e
      · exact hx0' (e ▸ hl')
    · show World.ownsRow _ Base.B 34 1 (upd g.ec 6 (.slice (some ⟨r, 0, none⟩) fl0.length cap) 5) _ _
      rw [upd_other _ _ (by omega)]
      refine rowFr h.por F (fun b hb => ?_)
      rintro (e | e | e)
      · subst e
        exact rowNotTagged (T := [29]) h.por (by decide) hb (rowTagged hrow (by decide) rfl)
      · exact h.en.blk.neRow h.por (by decide) (by rw [hb, e])
      · exact hX.blk.neRow h.por (by decide) (by rw [hb, e])

def exz : Nat → Value := fun o => if o = 1 then .int .i64 0 else .pointer none
theorem Rep.addF {S : Sid} {L R : List Nat} {ex : Nat → Nat → Value} {s0 : Value} {W : World} {σ : Sd} (h : Rep S (· ∈ L ++ R) ex s0 W σ) {p : Int} {b : Nat} (hb : Bk b 37 10 (lfr p) W) (hbn : b ∉ L ++ R) (hbS : b ≠ S.b) :
    Rep S (· ∈ L ++ b :: R) (upN ex b exz) s0 W (fresh σ b p) := by
  have hsp : ∀ y, y ∈ L ++ b :: R → y = b ∨ y ∈ L ++ R := fun y hy => by
    simp at hy ⊢; rcases hy with h | h | h <;> simp [h]
  have hne : ∀ y, y ∈ L ++ R → y ≠ b := fun y hy e => hbn (e ▸ hy)
  refine ⟨fun y hy => ?_, fun y hy => ?_, h.slt, fun y hy o ho => ?_, fun y hy o => ?_, fun o ho => ?_, h.sfz, fun y hy => ?_⟩
  · rcases hsp y hy with rfl | hy
    · exact hb.lt
    · exact h.lt y hy
  · rcases hsp y hy with rfl | hy
    · exact hbS
    · exact h.ne y hy
  · rcases hsp y hy with rfl | hy
    · rw [hb.cell o ho]
      rcases ten ho with rfl | rfl | rfl | rfl | rfl | rfl | rfl | rfl | rfl | rfl <;> simp [lv, fresh, up, exz, ptr, lfr, lfresh, upN]
    · rw [h.cell y hy o ho]
      have hn := hne y hy
      rcases ten ho with rfl | rfl | rfl | rfl | rfl | rfl | rfl | rfl | rfl | rfl <;> simp [lv, fresh, up, hn, upN]
  · rcases hsp y hy with rfl | hy
    · exact hb.frozen o
    · exact h.fz y hy o
  · rw [h.side o ho]
    rcases (by omega : o = 0 ∨ o = 1 ∨ o = 2 ∨ o = 3) with rfl | rfl | rfl | rfl <;> rfl
  · rcases hsp y hy with rfl | hy
    · obtain ⟨_, cs, e, _⟩ := hb.blk
      exact ⟨cs, e⟩
    · exact h.blk y hy

/-- One side and its levels have turned; the rest is as it was. -/
theorem Ph.side (h : Ph ob m eb bb g W) {k : Nat} (hk : k < 4) {D : Nat → Prop} (hD : ∀ l, D l → Blk W l 37 10) (K : Kp (sid bb k) D W W') {l' : List Nat} {σ' : Sd} {ex' : Nat → Nat → Value} (hR : Rep (sid bb k) (· ∈ l') ex' (sdv (buyk k)) W' σ') (hG : Good σ' l') (hl : ∀ l ∈ l', D l)
    (hex : ∀ j, j < 4 → j ≠ k → ∀ l ∈ g.ll j, ∀ o, ex' l o = g.ex l o) (hdis : ∀ j, j < 4 → j ≠ k → ∀ l ∈ g.ll j, ¬ D l) (hfl : ∀ l ∈ g.fl, ¬ D l) :
    Ph ob m eb bb { g with σ := upN g.σ k σ', ll := upN g.ll k l', ex := ex' } W' ∧ Fr (Tagged [49, 37] W) W W' := by
  have F := K.fr
  have hbD : ¬ D bb := fun hh => h.bk.ne (hD bb hh) (by decide) rfl
  have na : ∀ {b t n}, Blk W b t n → t ≠ 49 → t ≠ 37 → ¬ (b = (sid bb k).b ∨ D b) := fun {b t n} hb h1 h2 => by
    rintro (e | e)
    · exact hb.ne h.bk h1 e
    · exact hb.ne (hD b e) h2 rfl
  have nr : ∀ {e v n xs}, W.ownsRow Base.B e 1 v n xs → 49 ≠ e → 37 ≠ e → ∀ b, v.ownBlock = some b → ¬ (b = (sid bb k).b ∨ D b) := fun {e v n xs} ho h1 h2 b hb => by
    rintro (e' | e')
    · exact h.bk.neRow ho h1 (by rw [hb, e']; rfl)
    · exact (hD b e').neRow ho h2 hb
  refine ⟨⟨h.en.fr F (by simp [rowTag]) (na h.en.blk (by decide) (by decide)), h.bk.fr F (by simp [rowTag]), (K.own h.bk.lt hbD 0 (.inl (by show 0 < 1 + 4 * k; omega))).trans h.sym, fun j hj => ?_, fun j hj l hl' => ?_, fun j hj => ?_, fun i j hi hj hij l hl' => ?_, rowFr h.flr F (nr h.flr (by decide) (by decide)), h.fln, fun l hl' => (h.flz l hl').fr F (by simp [rowTag]) ?_, fun j hj l hl' => ?_, h.oinj, fun i hi => (h.ord i hi).fr F (by simp [rowTag]) (na (h.ord i hi).blk (by decide) (by decide)), rowFr h.por F (nr h.por (by decide) (by decide))⟩, F.mono (fun b _ hb => ?_)⟩
  · show Rep (sid bb j) (· ∈ upN g.ll k l' j) ex' (sdv (buyk j)) W' (upN g.σ k σ' j)
    by_cases e : j = k
    · subst e
      rw [upN_same, upN_same]
      exact hR
    · rw [upN_other _ _ e, upN_other _ _ e]
      refine ((h.rep j hj).keep F.size (fun b hb => K.block b ((h.rep j hj).lt b hb) ((h.rep j hj).ne b hb) (hdis j hj e b hb)) (fun o ho => K.own h.bk.lt hbD _ ?_) (fun o => K.frz h.bk.lt hbD o)).congr (hex j hj e)
      show 1 + 4 * j + o < 1 + 4 * k ∨ 1 + 4 * k + 4 ≤ 1 + 4 * j + o
      omega
  · by_cases e : j = k
    · subst e
      replace hl' : l ∈ upN g.ll j l' j := hl'
      rw [upN_same] at hl'
      exact (hD l (hl l hl')).fr F (by simp [rowTag])
    · replace hl' : l ∈ upN g.ll k l' j := hl'
      rw [upN_other _ _ e] at hl'
      exact (h.lvb j hj l hl').fr F (by simp [rowTag])
  · show Good (upN g.σ k σ' j) (upN g.ll k l' j)
    by_cases e : j = k
    · subst e
      rw [upN_same, upN_same]
      exact hG
    · rw [upN_other _ _ e, upN_other _ _ e]
      exact h.good j hj
  · replace hl' : l ∈ upN g.ll k l' i := hl'
    show l ∉ upN g.ll k l' j
    by_cases e : i = k
    · subst e
      rw [upN_same] at hl'
      rw [upN_other _ _ (Ne.symm hij)]
      exact fun hh => hdis j hj (Ne.symm hij) l hh (hl l hl')
    · rw [upN_other _ _ e] at hl'
      by_cases e' : j = k
      · subst e'
        rw [upN_same]
        exact fun hh => hdis i hi e l hl' (hl l hh)
      · rw [upN_other _ _ e']
        exact h.dis i j hi hj hij l hl'
  · rintro (e | e)
    · exact (h.flz l hl').blk.ne h.bk (by decide) e
    · exact hfl l hl' e
  · replace hl' : l ∈ upN g.ll k l' j := hl'
    by_cases e : j = k
    · subst e
      rw [upN_same] at hl'
      exact fun hh => hfl l hh (hl l hl')
    · rw [upN_other _ _ e] at hl'
      exact h.fld j hj l hl'
  · rcases hb with e | e
    · subst e; exact h.bk.tagged (by decide)
    · exact (hD b e).tagged (by decide)

theorem link_ph (h : Ph ob m eb bb g W) {k : Nat} (hk : k < 4) {x : Nat} {p : Int} (hX : Bk x 37 10 (lfr p) W) (hx : ∀ k, k < 4 → x ∉ g.ll k) (hxf : x ∉ g.fl) {L R : List Nat} (hLR : L ++ R = g.ll k) {n : Nat} {pp : Option Nat} {d : Bool} (hloc : Loc (g.σ k) n pp d none 0 L R)
    (hL : ∀ y ∈ L, (g.σ k).price y < p) (hRt : ∀ y ∈ R, p < (g.σ k).price y) (hlen : (g.ll k).length ≤ 4000) :
    Calls Yba.prog 20 #[.pointer (some ⟨bb, 1 + 4 * k, none⟩), pt x, .agg #[.pointer none, ptr pp, wv d]] W fun e w' => e = .returned (.tuple #[]) ∧ ∃ σ', Ph ob m eb bb { g with σ := upN g.σ k σ', ll := upN g.ll k (L ++ x :: R), ex := upN g.ex x exz } w' ∧ (∀ y ∈ g.ll k, σ'.price y = (g.σ k).price y) ∧ σ'.price x = p ∧ Fr (Tagged [49, 37] W) W w' := by
  have hxk : x ∉ L ++ R := by rw [hLR]; exact hx k hk
  have hR := h.rep k hk
  have hG := h.good k hk
  rw [← hLR] at hR hG
  have hxb : x ≠ bb := hX.blk.ne h.bk (by decide)
  have hRb := hR.addF hX hxk hxb
  have nd : (L ++ x :: R).Nodup := by
    obtain ⟨a, b, c⟩ := List.nodup_append.1 hG.nd
    simp at hxk
    refine List.nodup_append.2 ⟨a, List.nodup_cons.2 ⟨hxk.2, b⟩, fun y hy z hz => ?_⟩
    rcases List.mem_cons.1 hz with rfl | hz
    · intro e; exact hxk.1 (e ▸ hy)
    · exact c y hy z hz
  have ne : ∀ y, y ∈ L ++ R → y ≠ x := fun y hy e => hxk (e ▸ hy)
  have pf : ∀ y, y ∈ L ++ R → (fresh (g.σ k) x p).price y = (g.σ k).price y := fun y hy => up_ne _ _ _ (ne y hy)
  have px : (fresh (g.σ k) x p).price x = p := by show up _ x p x = p; simp [up]
  refine (link_any hRb (hG.fresh hxk p) nd (fun e => by simp [fresh]) (hloc.fresh hxk p) (fun e => by simp [fresh]) (fun y hy => by rw [pf y (by simp [hy]), px]; exact hL y hy) (fun y hy => by rw [pf y (by simp [hy]), px]; exact hRt y hy) (by have := congrArg List.length hLR; simp at this ⊢; omega)).mono ?_
  rintro e w' ⟨rfl, σ', hR', hK, hG', hp⟩
  have hD : ∀ l, l ∈ L ++ x :: R → Blk W l 37 10 := fun l hl => by
    by_cases e : l = x
    · subst e; exact hX.blk
    · refine h.lvb k hk l ?_
      rw [← hLR]
      simp at hl ⊢
      rcases hl with h | h | h
      · exact .inl h
      · exact absurd h e
      · exact .inr h
  have sub : ∀ l, l ∈ L ++ x :: R → l = x ∨ l ∈ g.ll k := fun l hl => by
    rw [← hLR]
    simp at hl ⊢
    rcases hl with h | h | h
    · exact .inr (.inl h)
    · exact .inl h
    · exact .inr (.inr h)
  have nx : ∀ j, j < 4 → ∀ l ∈ g.ll j, l ≠ x := fun j hj l hl e => hx j hj (e ▸ hl)
  obtain ⟨P, F⟩ := h.side hk hD hK hR' hG' (fun l hl => hl) (fun j hj hjk l hl o => by rw [upN_other _ _ (nx j hj l hl)]) (fun j hj hjk l hl hD' => by
    rcases sub l hD' with e | e
    · exact nx j hj l hl e
    · exact h.dis j k hj hk hjk l hl e) (fun l hl hD' => by
    rcases sub l hD' with e | e
    · exact hxf (e ▸ hl)
    · exact h.fld k hk l e hl)
  exact ⟨rfl, σ', P, fun y hy => by rw [hp]; exact pf y (by rw [hLR]; exact hy), by rw [hp]; exact px, F⟩

theorem unlink_ph (h : Ph ob m eb bb g W) {k : Nat} (hk : k < 4) {x : Nat} {L R : List Nat} (hLR : L ++ x :: R = g.ll k) (hlen : (g.ll k).length ≤ 4000) :
    Calls Yba.prog 10 #[.pointer (some ⟨bb, 1 + 4 * k, none⟩), pt x] W fun e w' => e = .returned (.tuple #[]) ∧ ∃ σ', Ph ob m eb bb { g with σ := upN g.σ k σ', ll := upN g.ll k (L ++ R) } w' ∧ Blk w' x 37 10 ∧ σ'.price = (g.σ k).price ∧ Fr (Tagged [49, 37] W) W w' := by
  have hR := h.rep k hk
  have hG := h.good k hk
  rw [← hLR] at hR hG
  refine (unlink_any hR hG (by rw [hLR]; omega)).mono ?_
  rintro e w' ⟨rfl, σ', hR', hK, hG', hp⟩
  have hD : ∀ l, l ∈ L ++ x :: R → Blk W l 37 10 := fun l hl => h.lvb k hk l (hLR ▸ hl)
  obtain ⟨P, F⟩ := h.side hk hD hK hR' hG' (fun l hl => by simp at hl ⊢; rcases hl with h | h <;> simp [h]) (fun j hj hjk l hl o => rfl) (fun j hj hjk l hl hD' => h.dis j k hj hk hjk l hl (hLR ▸ hD')) (fun l hl hD' => h.fld k hk l (hLR ▸ hD') hl)
  exact ⟨rfl, σ', P, (hD x (by simp)).shp hK.shp, hp, F⟩
end
end Go.Proofs.Ybulkjrk
