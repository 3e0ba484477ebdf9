/-
  OWN WORK: a level into the pool; orders out of the pool and back; an order made.
-/
import Derived.Test.YbulkjrkW6
namespace Go.Proofs.Ybulkjrk
open Go.RowKit
set_option linter.unusedSimpArgs false
set_option linter.unusedVariables false
set_option linter.unusedSectionVars false
variable [Base]
section
variable {ob : Nat → Nat} {m eb bb : Nat} {g : Gp} {W W' : World}
theorem freeLevel_ph (h : Ph ob m eb bb g W) {x : Nat} (hX : Blk W x 37 10) (hx : ∀ k, k < 4 → x ∉ g.ll k) (hxf : x ∉ g.fl) (hn : g.fl.length ≤ 4000) :
    Calls Yba.prog 54 #[.pointer (some ⟨eb, 5, none⟩), pt x] W fun e w' => e = .returned (.tuple #[]) ∧ ∃ v6, Ph ob m eb bb { g with fl := g.fl ++ [x], ec := upd g.ec 6 v6 } w' ∧ Fr (Tagged lvTags W) W w' := by
  refine (freeLevel_any h.en hX h.flr hn).mono ?_
  rintro e w' ⟨rfl, v6, hE, hX', hrow, F, hv⟩
  have na : ∀ {b t n}, Blk W b t n → t ≠ 79 → t ≠ 37 → t ≠ 29 → ¬ (b = eb ∨ b = x ∨ (g.ec 6).ownBlock = some b) := fun {b t n} hb h1 h2 h3 => by
    rintro (e | e | e)
    · exact hb.ne h.en.blk h1 e
    · exact hb.ne hX h2 e
    · exact hb.neRow h.flr h3 e
  have nl : ∀ l, Blk W l 37 10 → l ≠ x → ¬ (l = eb ∨ l = x ∨ (g.ec 6).ownBlock = some l) := fun l hl hlx => by
    rintro (e | e | e)
    · exact hl.ne h.en.blk (by decide) e
    · exact hlx e
    · exact hl.neRow h.flr (by decide) e
  have nxk : ∀ k, k < 4 → ∀ l ∈ g.ll k, l ≠ x := fun k hk l hl e => hx k hk (e ▸ hl)
  have hbb := na h.bk (by decide) (by decide) (by decide)
  refine ⟨rfl, v6, ⟨hE, h.bk.fr F (by simp [rowTag]), (F.cell h.bk.lt hbb 0).trans h.sym,
      fun j hj => (h.rep j hj).keep F.size (fun b hD => F.block b ((h.rep j hj).lt b hD) (nl b (h.lvb j hj b hD) (nxk j hj b hD))) (fun o ho => F.cell h.bk.lt hbb _) (fun o => F.frozen h.bk.lt hbb _),
      fun j hj l hl' => (h.lvb j hj l hl').fr F (by simp [rowTag]), h.good, h.dis, ?_, ?_, fun l hl' => ?_, fun k hk l hl hl' => ?_, h.oinj, fun i hi => (h.ord i hi).fr F (by simp [rowTag]) (na (h.ord i hi).blk (by decide) (by decide) (by decide)), ?_⟩, F.mono (fun b _ hb => ?_)⟩
  · show World.ownsRow _ Base.B 29 1 (upd g.ec 6 v6 6) (g.fl ++ [x]).length ((g.fl ++ [x]).map pt)
    rw [upd_same, List.length_append, List.map_append]
    exact hrow
  · refine List.nodup_append.2 ⟨h.fln, by simp, fun y hy z hz e => ?_⟩
    simp at hz
    subst hz
    exact hxf (e ▸ hy)
  · rcases List.mem_append.1 hl' with hl | hl
    · exact (h.flz l hl).fr F (by simp [rowTag]) (nl l (h.flz l hl).blk (fun e => hxf (e ▸ hl)))
    · simp at hl
      subst hl
      exact hX'
  · rcases List.mem_append.1 hl' with hl2 | hl2
    · exact h.fld k hk l hl hl2
    · simp at hl2
      exact nxk k hk l hl hl2
  · show World.ownsRow _ Base.B 34 1 (upd g.ec 6 v6 5) _ _
    rw [upd_other _ _ (by omega)]
    refine rowFr h.por F (fun b hb => ?_)
    rintro (e | e | e)
    · exact h.en.blk.neRow h.por (by decide) (by rw [hb, e])
    · exact hX.neRow h.por (by decide) (by rw [hb, e])
    · exact rowNotTagged (T := [29]) h.por (by decide) hb (rowTagged h.flr (by decide) e)
  · rcases hb with e | e | e
    · subst e; exact h.en.blk.tagged (by decide)
    · subst e; exact hX.tagged (by decide)
    · exact rowTagged h.flr (by decide) e

def ozf : Nat → Value := fun k => ozero.toList.getD k undef
theorem freeOrder_ph (h : Ph ob m eb bb g W) {i : Nat} (hi : i < m) (hn : g.pn ≤ 4000) :
    Calls Yba.prog 29 #[.pointer (some ⟨eb, 5, none⟩), pt (ob i)] W fun e w' => e = .returned (.tuple #[]) ∧ ∃ v5, Ph ob m eb bb { g with oc := upN g.oc i ozf, ec := upd g.ec 5 v5, pn := g.pn + 1, px := g.px ++ [pt (ob i)] } w' ∧ Fr (fun b => b = eb ∨ b = ob i ∨ (g.ec 5).ownBlock = some b) W w' ∧ (v5.ownBlock = (g.ec 5).ownBlock ∨ ∀ k, v5.ownBlock = some k → W.heap.size ≤ k) := by
  refine (freeOrder_any h.en (h.ord i hi).blk h.por hn).mono ?_
  rintro e w' ⟨rfl, v5, hE, hX', hrow, F, hv⟩
  have na : ∀ {b t n}, Blk W b t n → t ≠ 79 → t ≠ 82 → t ≠ 34 → ¬ (b = eb ∨ b = ob i ∨ (g.ec 5).ownBlock = some b) := fun {b t n} hb h1 h2 h3 => by
    rintro (e | e | e)
    · exact hb.ne h.en.blk h1 e
    · exact hb.ne (h.ord i hi).blk h2 e
    · exact hb.neRow h.por h3 e
  have hbb := na h.bk (by decide) (by decide) (by decide)
  refine ⟨rfl, v5, ⟨hE, h.bk.fr F (by simp [rowTag]), (F.cell h.bk.lt hbb 0).trans h.sym,
      fun j hj => (h.rep j hj).keep F.size (fun b hD => F.block b ((h.rep j hj).lt b hD) (na (h.lvb j hj b hD) (by decide) (by decide) (by decide))) (fun o ho => F.cell h.bk.lt hbb _) (fun o => F.frozen h.bk.lt hbb _),
      fun j hj l hl' => (h.lvb j hj l hl').fr F (by simp [rowTag]), h.good, h.dis, ?_, h.fln, fun l hl => (h.flz l hl).fr F (by simp [rowTag]) (na (h.flz l hl).blk (by decide) (by decide) (by decide)), h.fld, h.oinj, fun i' hi' => ?_, ?_⟩, F, hv⟩
  · show World.ownsRow _ Base.B 29 1 (upd g.ec 5 v5 6) _ _
    rw [upd_other _ _ (by omega)]
    refine rowFr h.flr F (fun b hb => ?_)
    rintro (e | e | e)
    · exact h.en.blk.neRow h.flr (by decide) (by rw [hb, e])
    · exact (h.ord i hi).blk.neRow h.flr (by decide) (by rw [hb, e])
    · exact rowNotTagged (T := [34]) h.flr (by decide) hb (rowTagged h.por (by decide) e)
  · show Bk (ob i') 82 12 (upN g.oc i ozf i') w'
    by_cases e : i' = i
    · subst e
      rw [upN_same]
      exact hX'
    · rw [upN_other _ _ e]
      refine (h.ord i' hi').fr F (by simp [rowTag]) ?_
      rintro (e' | e' | e')
      · exact (h.ord i' hi').blk.ne h.en.blk (by decide) e'
      · exact e (h.oinj i' i hi' hi e')
      · exact (h.ord i' hi').blk.neRow h.por (by decide) e'
  · show World.ownsRow _ Base.B 34 1 (upd g.ec 5 v5 5) _ _
    rw [upd_same]
    exact hrow

theorem popOrder_ph (h : Ph ob m eb bb g W) {x n0 : Nat} {px0 : List Value} (hpn : g.pn = n0 + 1) (hpx : g.px = px0 ++ [pt x]) (hn : g.pn ≤ 4000) :
    Calls Yba.prog 37 #[.pointer (some ⟨eb, 5, none⟩)] W fun e w' => e = .returned (pt x) ∧ ∃ v5, Ph ob m eb bb { g with ec := upd g.ec 5 v5, pn := n0, px := px0 } w' ∧ Fr (fun b => b = eb ∨ (g.ec 5).ownBlock = some b) W w' ∧ v5.ownBlock = (g.ec 5).ownBlock := by
  have hrow := h.por
  have c5 := h.en.cell 5 (by omega)
  rw [hpn, hpx] at hrow
  have hl0 : px0.length = n0 := by have := hrow.1; simp at this; omega
  obtain ⟨r, cap, hv, hcap⟩ := rowForm1 hrow
  rw [hv] at c5 hrow
  have hre : r ≠ eb := fun e => h.en.blk.neRow hrow (by decide) (by rw [← e]; rfl)
  have hcr := hrow.cellAt n0 (by omega)
  rw [List.getElem?_append_right (by omega), hl0] at hcr
  simp at hcr
  refine (order_old c5 hcr (hrow.frozenAt _) (h.en.frozen 5) hcap (by omega) hre).mono ?_
  rintro e w' ⟨rfl, rfl⟩
  have F : Fr (fun b => b = eb ∨ b = r) W ((W.setCell ⟨r, n0, none⟩ (.pointer none)).setCell ⟨eb, 5, none⟩ (.slice (some ⟨r, 0, none⟩) n0 cap)) :=
    ((Fr.refl _ W).setCell (b := r) (fun _ => .inr rfl) _ _).setCell (b := eb) (fun _ => .inl rfl) _ _
  have hR1 := rowPop (u := .pointer none) hl0 hrow
  have hE1 := ((h.en.setO hre (.pointer none) (k := n0)).set (k := 5) (by omega) (.slice (some ⟨r, 0, none⟩) n0 cap))
  have na : ∀ {b t n}, Blk W b t n → t ≠ 79 → t ≠ 34 → ¬ (b = eb ∨ b = r) := fun {b t n} hb h1 h2 => by
    rintro (e | e)
    · exact hb.ne h.en.blk h1 e
    · exact hb.neRow hrow h2 (by rw [e]; rfl)
  have hbb := na h.bk (by decide) (by decide)
  refine ⟨rfl, .slice (some ⟨r, 0, none⟩) n0 cap, ⟨hE1, h.bk.fr F (by simp [rowTag]), (F.cell h.bk.lt hbb 0).trans h.sym,
      fun j hj => (h.rep j hj).keep F.size (fun b hD => F.block b ((h.rep j hj).lt b hD) (na (h.lvb j hj b hD) (by decide) (by decide))) (fun o ho => F.cell h.bk.lt hbb _) (fun o => F.frozen h.bk.lt hbb _),
      fun j hj l hl' => (h.lvb j hj l hl').fr F (by simp [rowTag]), h.good, h.dis, ?_, h.fln, fun l hl => (h.flz l hl).fr F (by simp [rowTag]) (na (h.flz l hl).blk (by decide) (by decide)), h.fld, h.oinj, fun i hi => (h.ord i hi).fr F (by simp [rowTag]) (na (h.ord i hi).blk (by decide) (by decide)), ?_⟩, F.mono (fun b _ hb => ?_), by rw [hv]; rfl⟩
  · show World.ownsRow _ Base.B 29 1 (upd g.ec 5 (.slice (some ⟨r, 0, none⟩) n0 cap) 6) _ _
    rw [upd_other _ _ (by omega)]
    refine rowFr h.flr F (fun b hb => ?_)
    rintro (e | e)
    · exact h.en.blk.neRow h.flr (by decide) (by rw [hb, e])
    · subst e
      exact rowNotTagged (T := [34]) h.flr (by decide) hb (rowTagged hrow (by decide) rfl)
  · show World.ownsRow _ Base.B 34 1 (upd g.ec 5 (.slice (some ⟨r, 0, none⟩) n0 cap) 5) _ _
    rw [upd_same]
    exact rowFr hR1 ((Fr.refl (fun b => b = eb) _).setCell (b := eb) (fun _ => rfl) _ _) (fun b hb => by
      have : r = b := by simpa [Value.ownBlock] using hb
      subst this
      exact hre)
  · rcases hb with e | e
    · exact .inl e
    · exact .inr (by rw [hv, e]; rfl)

/-- One more order. -/
theorem Ph.grow (h : Ph ob m eb bb g W) : Ph (upN ob m W.heap.size) (m + 1) eb bb { g with oc := upN g.oc m ozf } (W.alloc (.cells ozero 82)) := by
  have h' := h.alloc (.cells ozero 82)
  have lt : ∀ i, i < m → ob i ≠ W.heap.size := fun i hi e => by have := (h.ord i hi).lt; omega
  refine ⟨h'.en, h'.bk, h'.sym, h'.rep, h'.lvb, h'.good, h'.dis, h'.flr, h'.fln, h'.flz, h'.fld, fun i j hi hj e => ?_, fun i hi => ?_, h'.por⟩
  · by_cases e1 : i = m
    · by_cases e2 : j = m
      · rw [e1, e2]
      · subst e1
        rw [upN_same, upN_other _ _ e2] at e
        exact absurd e.symm (lt j (by omega))
    · by_cases e2 : j = m
      · subst e2
        rw [upN_same, upN_other _ _ e1] at e
        exact absurd e (lt i (by omega))
      · rw [upN_other _ _ e1, upN_other _ _ e2] at e
        exact h.oinj i j (by omega) (by omega) e
  · show Bk (upN ob m W.heap.size i) 82 12 (upN g.oc m ozf i) _
    by_cases e1 : i = m
    · subst e1
      rw [upN_same, upN_same]
      exact (Bk.new W ozero 82 h.en.base).cong (fun k hk => by
        replace hk : k < 12 := hk
        rcases (by omega : k = 0 ∨ k = 1 ∨ k = 2 ∨ k = 3 ∨ k = 4 ∨ k = 5 ∨ k = 6 ∨ k = 7 ∨ k = 8 ∨ k = 9 ∨ k = 10 ∨ k = 11) with rfl | rfl | rfl | rfl | rfl | rfl | rfl | rfl | rfl | rfl | rfl | rfl <;> rfl)
    · rw [upN_other _ _ e1, upN_other _ _ e1]
      exact h'.ord i (by omega)
end
end Go.Proofs.Ybulkjrk
