/-
  OWN WORK: the engine between two activations.
-/
import Derived.Test.YbulkjrkW20
import Derived.Test.YbulkjrkP1
namespace Go.Proofs.Ybulkjrk
open Go.RowKit
set_option linter.unusedSimpArgs false
set_option linter.unusedVariables false
set_option linter.unusedSectionVars false
set_option maxRecDepth 100000
variable [Base]
theorem Fr.toBelow {A : Nat → Prop} {W W' : World} (h : Fr A W W') (hb : Base.B ≤ W.heap.size) (hA : ∀ b, A b → Base.B ≤ b) : Below Base.B W W' :=
  ⟨h.os, h.tape, h.output, h.size, fun b hb' => h.block b (by omega) (fun e => by have := hA b e; omega)⟩
/-- The engine: A activated, R of them resting, Z taken and not yet activated. -/
structure ES (s : Nat → Stp) (n eb bb mb : Nat) (W0 : World) (A R Z : List Nat) (ob : Nat → Nat) (g : Gp) (q : Nat → List Nat) (tot : Nat → Int) (lev M : Nat → Option Nat) (cnt c cm : Nat) (W : World) : Prop where
  ph : Ph ob n eb bb g W
  lg : Lg n c ob g q tot lev
  map : MapIs mb M cnt cm W
  cle : c ≤ n + A.length
  cmle : cm ≤ n + A.length
  nd : (A ++ Z).Nodup
  lt : ∀ i ∈ A ++ Z, i < n
  sub : ∀ i ∈ R, i ∈ A
  mM : ∀ i, M i = if i < n ∧ (i ∉ A ∨ i ∈ R) then some (ob i) else none
  cnt : cnt + A.length = n + R.length
  on0 : ∀ i p, On g q 0 i p ↔ (i ∈ R ∧ (s i).sell = false ∧ p = (s i).lim)
  on1 : ∀ i p, On g q 1 i p ↔ (i ∈ R ∧ (s i).sell = true ∧ p = (s i).lim)
  on2 : ∀ i p, On g q 2 i p ↔ (i < n ∧ i ∉ A ∧ i ∉ Z ∧ (s i).entry = false ∧ p = (s i).sp)
  on3 : ∀ i p, On g q 3 i p ↔ (i < n ∧ i ∉ A ∧ i ∉ Z ∧ (s i).entry = true ∧ p = (s i).sp)
  ocw : ∀ i, i < n → i ∉ A → ∀ j, j < 9 → g.oc i j = (waits bb i (sdI (s i).sell) (stI (s i).entry) (s i).sp (s i).qty (s i).lim ((i : Int) + 1)).getD j undef
  ocr : ∀ i ∈ R, ∀ j, j < 9 → g.oc i j = (rested bb i (sdI (s i).sell) (s i).lim (s i).qty).getD j undef
  ec1 : g.ec 1 = .map (some mb)
  ec2 : g.ec 2 = .bool false
  pn : g.pn ≤ A.length
  levZ : ∀ i ∈ Z, lev i = none
  below : Below Base.B W0 W
  mbB : Base.B ≤ mb
section
variable {s : Nat → Stp} {n eb bb mb : Nat} {W0 : World} {A R Z : List Nat} {ob : Nat → Nat} {g : Gp} {q : Nat → List Nat} {tot : Nat → Int} {lev M : Nat → Option Nat} {cnt c cm : Nat} {W W' : World}
theorem nodup_len' (n : Nat) (T : List Nat) (h : T.Nodup) (hl : ∀ i ∈ T, i < n) : T.length ≤ n := nodup_len n T h hl
theorem ES.alen (h : ES s n eb bb mb W0 A R Z ob g q tot lev M cnt c cm W) : A.length + Z.length ≤ n := by
  have := nodup_len n (A ++ Z) h.nd h.lt
  simpa using this
/-- Other blocks turned: as it was. -/
theorem ES.keep (h : ES s n eb bb mb W0 A R Z ob g q tot lev M cnt c cm W) {X : Nat → Prop} (F : Fr X W W') (h1 : ∀ b t k, Blk W b t k → t ≠ 59 → ¬ X b) (h2 : ∀ v e k xs, W.ownsRow Base.B e 1 v k xs → e ≠ 59 → ∀ b, v.ownBlock = some b → ¬ X b) (h3 : ¬ X mb) (h4 : ∀ b, X b → Base.B ≤ b) : ES s n eb bb mb W0 A R Z ob g q tot lev M cnt c cm W' := by
  have P := h.ph.fr F (h1 _ _ _ h.ph.en.blk (by decide)) (h1 _ _ _ h.ph.bk (by decide)) (fun b hb => h1 _ _ _ hb (by decide)) (fun i hi => h1 _ _ _ (h.ph.ord i hi).blk (by decide)) (h2 _ _ _ _ h.ph.flr (by decide)) (h2 _ _ _ _ h.ph.por (by decide))
  exact ⟨P, h.lg, h.map.kept (F.block mb h.map.lt h3), h.cle, h.cmle, h.nd, h.lt, h.sub, h.mM, h.cnt, h.on0, h.on1, h.on2, h.on3, h.ocw, h.ocr, h.ec1, h.ec2, h.pn, h.levZ, h.below.trans (F.toBelow h.ph.en.base h4), h.mbB⟩
theorem ES.under (h : ES s n eb bb mb W0 A R Z ob g q tot lev M cnt c cm W) (hB : Below W.heap.size W W') : ES s n eb bb mb W0 A R Z ob g q tot lev M cnt c cm W' :=
  h.keep (X := fun _ => False) (Fr.below hB) (fun _ _ _ _ _ e => e) (fun _ _ _ _ _ _ _ _ e => e) (fun e => e) (fun _ e => e.elim)
/-- The events' row turned: as it was. -/
theorem ES.events (h : ES s n eb bb mb W0 A R Z ob g q tot lev M cnt c cm W) {v : Value} {k : Nat} {xs : List Value} (ho : W.ownsRow Base.B 59 9 v k xs) (F : Fr (fun b => v.ownBlock = some b) W W') : ES s n eb bb mb W0 A R Z ob g q tot lev M cnt c cm W' :=
  h.keep F (fun b t k hb ht e => hb.neRow ho ht e) (fun v' e' k' xs' ho' he b hb e => rowNotTagged (T := [59]) ho' (by simpa using he) hb (rowTagged ho (by simp) e)) (fun e => h.map.notTagged [59] (rowTagged ho (by simp) e)) (fun b e => (rowTagged ho (T := [59]) (by simp) e).1)
theorem Qrow.keep {qv : Value} {T : List Nat} (h : Qrow ob g qv T W) {X : Nat → Prop} (F : Fr X W W') (hX : ∀ b, qv.ownBlock = some b → ¬ X b) : Qrow ob g qv T W' := ⟨rowFr h.own F hX, h.far⟩
/-- Order i, freed: activated, not resting (so far). -/
theorem ES.free {i : Nat} (h : ES s n eb bb mb W0 A R (i :: Z) ob g q tot lev M cnt c cm W) {v5 : Value} {cnt' : Nat} (hph : Ph ob n eb bb { g with oc := upN g.oc i ozf, ec := upd g.ec 5 v5, pn := g.pn + 1, px := g.px ++ [pt (ob i)] } W') (hmap : MapIs mb (upN M i none) cnt' cm W') (hcnt : cnt' + (if (M i).isSome then 1 else 0) = cnt) (hB : Below Base.B W W') :
    ES s n eb bb mb W0 (A ++ [i]) R Z ob { g with oc := upN g.oc i ozf, ec := upd g.ec 5 v5, pn := g.pn + 1, px := g.px ++ [pt (ob i)] } q tot lev (upN M i none) cnt' c cm W' ∧ lev i = none := by
  have hnd := h.nd
  have hiA : i ∉ A := fun e => by
    rw [List.nodup_append] at hnd
    exact hnd.2.2 i e i (by simp) rfl
  have hin : i < n := h.lt i (by simp)
  have hli : lev i = none := h.levZ i (by simp)
  have hMi : M i = some (ob i) := by rw [h.mM i, if_pos ⟨hin, .inl hiA⟩]
  have hiR : i ∉ R := fun e => hiA (h.sub i e)
  rw [hMi] at hcnt
  simp only [Option.isSome_some, if_true] at hcnt
  refine ⟨⟨hph, ?_, hmap, ?_, ?_, by simpa using h.nd, by simpa using h.lt, fun j hj => by simp [h.sub j hj], fun j => ?_, ?_, h.on0, h.on1, fun j p => ?_, fun j p => ?_, fun j hj hjA k hk => ?_, fun j hj k hk => ?_, ?_, ?_, ?_, fun j hj => h.levZ j (by simp [hj]), h.below.trans hB, h.mbB⟩, hli⟩
  · exact h.lg.oc rfl rfl rfl (fun j hj => by
      show upN g.oc i ozf j 11 = _
      exact congrFun (upN_other g.oc ozf (fun e : j = i => hj (by rw [e]; exact hli))) 11)
  · have := h.cle; simp; omega
  · have := h.cmle; simp; omega
  · by_cases e : j = i
    · subst e
      rw [upN_same, if_neg]
      rintro ⟨_, h1 | h1⟩
      · exact h1 (by simp)
      · exact hiR h1
    · rw [upN_other _ _ e, h.mM j]
      simp [e]
  · have := h.cnt; simp; omega
  · refine (h.on2 j p).trans ?_
    simp only [List.mem_append, List.mem_cons, List.not_mem_nil, or_false, not_or, and_assoc]
  · refine (h.on3 j p).trans ?_
    simp only [List.mem_append, List.mem_cons, List.not_mem_nil, or_false, not_or, and_assoc]
  · simp only [List.mem_append, List.mem_cons, List.not_mem_nil, or_false, not_or] at hjA
    show upN g.oc i ozf j k = _
    rw [upN_other _ _ hjA.2]
    exact h.ocw j hj hjA.1 k hk
  · show upN g.oc i ozf j k = _
    rw [upN_other g.oc ozf (fun e : j = i => hiR (by rw [← e]; exact hj))]
    exact h.ocr j hj k hk
  · exact (upd_other g.ec (k := 5) (j := 1) v5 (by decide)).trans h.ec1
  · exact (upd_other g.ec (k := 5) (j := 2) v5 (by decide)).trans h.ec2
  · show g.pn + 1 ≤ _
    have := h.pn; simp; omega
/-- Order i rests. -/
theorem ES.rest {i : Nat} (h : ES s n eb bb mb W0 (A ++ [i]) R Z ob g q tot lev M cnt c cm W) (hM : M i = none) (hiR : i ∉ R) (hc : c < n + (A ++ [i]).length) (hcm : cm < n + (A ++ [i]).length) {g' : Gp} {q' : Nat → List Nat} {tot' : Nat → Int} {lev' : Nat → Option Nat} {n0 : Nat} {px0 : List Value} (hn0 : n0 ≤ A.length + 1)
    (E : Ent ob n c eb bb mb g g' q q' tot' lev lev' M cnt cm i (s i).sell (s i).lim (s i).qty n0 px0 W W') (h5 : ∀ b, (g.ec 5).ownBlock = some b → Base.B ≤ b) :
    ES s n eb bb mb W0 (A ++ [i]) (R ++ [i]) Z ob g' q' tot' lev' (upN M i (some (ob i))) (cnt + 1) (c + 1) (cm + 1) W' := by
  have hnd := h.nd
  have hiZ : ∀ z ∈ Z, z ≠ i := fun z hz e => by
    rw [List.nodup_append] at hnd
    exact hnd.2.2 i (by simp) z hz e.symm
  have hin : i < n := h.lt i (by simp)
  have hmap := E.map
  rw [hM] at hmap
  have s01 : ∀ b : Bool, sdn b = if b then 1 else 0 := fun _ => rfl
  refine ⟨E.ph, E.lg, by simpa using hmap, hc, hcm, h.nd, h.lt, fun j hj => ?_, fun j => ?_, ?_, fun j p => ?_, fun j p => ?_, fun j p => ?_, fun j p => ?_, fun j hj hjA k hk => ?_, fun j hj k hk => ?_, ?_, ?_, ?_, fun j hj => ?_, h.below.trans (E.fr.toBelow h.ph.en.base ?_), h.mbB⟩
  · rcases List.mem_append.1 hj with e | e
    · exact h.sub j e
    · simp at e; simp [e]
  · by_cases e : j = i
    · subst e
      rw [upN_same, if_pos ⟨hin, .inr (by simp)⟩]
    · rw [upN_other _ _ e, h.mM j]
      simp [e]
  · have := h.cnt; simp at this ⊢; omega
  · rw [E.on 0 (by omega), h.on0, s01]
    simp only [List.mem_append, List.mem_singleton]
    constructor
    · rintro (⟨h1, h2, h3⟩ | ⟨h1, rfl, h3⟩)
      · exact ⟨.inl h1, h2, h3⟩
      · refine ⟨.inr rfl, ?_, h3⟩
        cases hs : (s j).sell
        · rfl
        · simp [hs] at h1
    · rintro ⟨h1 | rfl, h2, h3⟩
      · exact .inl ⟨h1, h2, h3⟩
      · exact .inr ⟨by simp [h2], rfl, h3⟩
  · rw [E.on 1 (by omega), h.on1, s01]
    simp only [List.mem_append, List.mem_singleton]
    constructor
    · rintro (⟨h1, h2, h3⟩ | ⟨h1, rfl, h3⟩)
      · exact ⟨.inl h1, h2, h3⟩
      · refine ⟨.inr rfl, ?_, h3⟩
        cases hs : (s j).sell
        · simp [hs] at h1
        · rfl
    · rintro ⟨h1 | rfl, h2, h3⟩
      · exact .inl ⟨h1, h2, h3⟩
      · exact .inr ⟨by simp [h2], rfl, h3⟩
  · rw [E.on 2 (by omega), h.on2, s01]
    refine ⟨fun hh => hh.elim id (fun e => ?_), .inl⟩
    have := e.1
    split at this <;> omega
  · rw [E.on 3 (by omega), h.on3, s01]
    refine ⟨fun hh => hh.elim id (fun e => ?_), .inl⟩
    have := e.1
    split at this <;> omega
  · have hji : j ≠ i := fun e => hjA (by simp [e])
    rw [E.oco j hji k hk]
    exact h.ocw j hj hjA k hk
  · rcases List.mem_append.1 hj with e | e
    · rw [E.oco j (fun e' => hiR (e' ▸ e)) k hk]
      exact h.ocr j e k hk
    · simp at e
      subst e
      exact E.oci k hk
  · rw [E.ec 1 (by omega) (by omega)]; exact h.ec1
  · rw [E.ec 2 (by omega) (by omega)]; exact h.ec2
  · rw [E.pn]; simpa using hn0
  · rw [E.lev2 j (hiZ j hj)]; exact h.levZ j hj
  · rintro b (e | e | e)
    · exact e.1
    · exact h5 b e
    · rw [e]; exact h.mbB
/-- Does the other side bar order i? -/
theorem ES.bars (h : ES s n eb bb mb W0 A R Z ob g q tot lev M cnt c cm W) (i : Nat) : crossed (buyk (sdn !(s i).sell)) (g.σ (sdn !(s i).sell)) (s i).lim = true ↔ R.any (bars s i) = true := by
  have hk : sdn (!(s i).sell) < 4 := by cases (s i).sell <;> decide
  rw [crossed_iff (h.ph.good _ hk), List.any_eq_true]
  have hon : ∀ j p, On g q (sdn !(s i).sell) j p ↔ (j ∈ R ∧ (s j).sell = !(s i).sell ∧ p = (s j).lim) := fun j p => by
    cases hs : (s i).sell
    · exact h.on1 j p
    · exact h.on0 j p
  have hbk : buyk (sdn !(s i).sell) = (s i).sell := by cases (s i).sell <;> rfl
  constructor
  · rintro ⟨l, hl, hr⟩
    have hL := h.lg.lv _ hk l hl
    obtain ⟨j, hj⟩ := List.exists_mem_of_ne_nil _ hL.ne
    obtain ⟨h1, h2, h3⟩ := (hon j _).1 ⟨l, hl, hj, rfl⟩
    refine ⟨j, h1, ?_⟩
    rw [h3, hbk] at hr
    simp [Ybulkjrk.bars, h2, hr]
  · rintro ⟨j, hj, hb⟩
    simp only [Ybulkjrk.bars, Bool.and_eq_true, bne_iff_ne, ne_eq] at hb
    have h2 : (s j).sell = !(s i).sell := by
      have := hb.1
      cases h1 : (s j).sell <;> cases h2 : (s i).sell <;> simp_all
    obtain ⟨l, hl, _, hp⟩ := (hon j _).2 ⟨hj, h2, rfl⟩
    refine ⟨l, hl, ?_⟩
    rw [hp, hbk]
    have := hb.2
    rw [h2] at this
    simpa using this
end
end Go.Proofs.Ybulkjrk
