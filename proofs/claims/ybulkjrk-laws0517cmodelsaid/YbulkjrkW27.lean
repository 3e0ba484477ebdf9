/-
  OWN WORK: takeTriggered, seen from the engine.
-/
import Derived.Test.YbulkjrkW26
import Derived.Test.YbulkjrkW14
namespace Go.Proofs.Ybulkjrk
open Go.RowKit
set_option linter.unusedSimpArgs false
set_option linter.unusedVariables false
set_option linter.unusedSectionVars false
set_option maxRecDepth 100000
variable [Base]
section
variable {s : Nat → Stp} {n eb bb mb : Nat} {W0 : World} {A R Z : List Nat} {ob : Nat → Nat} {g : Gp} {q : Nat → List Nat} {tot : Nat → Int} {lev M : Nat → Option Nat} {cnt c cm : Nat} {W W' : World}
theorem up_nodup : ∀ T : List Nat, T.Pairwise (· < ·) → T.Nodup
  | [], _ => List.nodup_nil
  | x :: T, h => List.nodup_cons.2 ⟨fun hx => absurd ((List.pairwise_cons.1 h).1 x hx) (Nat.lt_irrefl _), up_nodup T (List.pairwise_cons.1 h).2⟩
theorem trig_es (h : ES s n eb bb mb W0 A R [] ob g q tot lev M cnt c cm W) (hn : n ≤ 1024) (lp : Int) {qv0 : Value} (hq : Qrow ob g qv0 [] W) (hA : A = [] ∨ ∀ i, i < n → i ∉ A → trg s lp i = false) :
    Calls Yba.prog 28 #[.pointer (some ⟨bb, 0, none⟩), qv0, .int .i64 lp, .pointer (some ⟨eb, 5, none⟩)] W fun e w' => ∃ g1 lev1 qv1 T, e = .returned qv1 ∧ ES s n eb bb mb W0 A R T ob g1 q tot lev1 M cnt c cm w' ∧ Qrow ob g1 qv1 T w' ∧ T.Pairwise (· < ·) ∧ (∀ i, i ∈ T ↔ (i < n ∧ i ∉ A ∧ trg s lp i = true)) ∧ (∀ j, j ≠ 6 → j ≠ 7 → g1.ec j = g.ec j) ∧ Fr (fun b => Tagged addTags W b ∨ qv0.ownBlock = some b) W w' := by
  have hqB : ∀ b, qv0.ownBlock = some b → Base.B ≤ b := fun b e => (rowTagged (T := [34]) hq.own (by simp) e).1
  by_cases h0 : lp = 0
  · subst h0
    refine (trig_zero _ _ _ W).mono ?_
    rintro e w' ⟨rfl, rfl⟩
    exact ⟨g, lev, qv0, [], rfl, h, hq, List.Pairwise.nil, fun i => by simp [trg], fun _ _ _ => rfl, Fr.refl _ _⟩
  · have hle := h.alen
    have hcl := h.cle
    have mem : ∀ i, (∃ p, (On g q 2 i p ∧ reach true lp p = true) ∨ (On g q 3 i p ∧ reach false lp p = true)) ↔ (i < n ∧ i ∉ A ∧ trg s lp i = true) := fun i => by
      constructor
      · rintro ⟨p, ⟨h1, h2⟩ | ⟨h1, h2⟩⟩
        · obtain ⟨a1, a2, _, a4, rfl⟩ := (h.on2 i p).1 h1
          refine ⟨a1, a2, ?_⟩
          simp [reach, h0] at h2
          simp [trg, h0, a4]
          omega
        · obtain ⟨a1, a2, _, a4, rfl⟩ := (h.on3 i p).1 h1
          refine ⟨a1, a2, ?_⟩
          simp [reach, h0] at h2
          simp [trg, h0, a4]
          omega
      · rintro ⟨a1, a2, a3⟩
        cases he : (s i).entry with
        | false =>
          refine ⟨(s i).sp, .inl ⟨(h.on2 i _).2 ⟨a1, a2, by simp, he, rfl⟩, ?_⟩⟩
          simp [trg, h0, he] at a3
          simp [reach, h0]
          omega
        | true =>
          refine ⟨(s i).sp, .inr ⟨(h.on3 i _).2 ⟨a1, a2, by simp, he, rfl⟩, ?_⟩⟩
          simp [trg, h0, he] at a3
          simp [reach, h0]
          omega
    refine (trig_any h.ph h.lg (by omega) hn h0 hq ?_).mono ?_
    · rintro ⟨i, hp⟩ j hj
      obtain ⟨a1, a2, a3⟩ := (mem i).1 hp
      rcases hA with rfl | hA
      · exact h.ocw j hj (by simp) 7 (by omega)
      · rw [hA i a1 a2] at a3
        cases a3
    · rintro e w' ⟨g1, lev1, qv1, T, rfl, t⟩
      have hT : ∀ i, i ∈ T ↔ (i < n ∧ i ∉ A ∧ trg s lp i = true) := fun i => (t.mem i).trans (mem i)
      have hRT : ∀ i ∈ R, i ∉ T := fun i hi hi' => ((hT i).1 hi').2.1 (h.sub i hi)
      have hX : ∀ b, (Tagged addTags W b ∨ qv0.ownBlock = some b) → Base.B ≤ b := fun b e => e.elim (fun e => e.1) (hqB b)
      have hndA : A.Nodup := by have := h.nd; simpa using this
      have hndT : T.Nodup := up_nodup T t.up
      refine ⟨g1, lev1, qv1, T, rfl, ⟨t.ph, t.lg, h.map.kept (t.fr.block mb h.map.lt (fun e => e.elim (h.map.notTagged _) (fun e => h.map.notRow hq.own e))), h.cle, h.cmle, ?_, fun i hi => ?_, h.sub, h.mM, h.cnt, fun i p => ?_, fun i p => ?_, fun i p => ?_, fun i p => ?_, fun i hi hiA j hj => ?_, fun i hi j hj => ?_, ?_, ?_, ?_, t.levT, h.below.trans (t.fr.toBelow h.ph.en.base hX), h.mbB⟩, t.row, t.up, hT, t.ec, t.fr⟩
      · exact List.nodup_append.2 ⟨hndA, hndT, fun a ha b hb e => ((hT b).1 hb).2.1 (e ▸ ha)⟩
      · rcases List.mem_append.1 hi with e | e
        · exact h.lt i (by simp [e])
        · exact t.lt i e
      · rw [t.on 0 (by omega), h.on0]
        exact ⟨fun e => e.1, fun e => ⟨e, hRT i e.1⟩⟩
      · rw [t.on 1 (by omega), h.on1]
        exact ⟨fun e => e.1, fun e => ⟨e, hRT i e.1⟩⟩
      · rw [t.on 2 (by omega), h.on2]
        exact ⟨fun ⟨⟨a1, a2, _, a4, a5⟩, a6⟩ => ⟨a1, a2, a6, a4, a5⟩, fun ⟨a1, a2, a6, a4, a5⟩ => ⟨⟨a1, a2, by simp, a4, a5⟩, a6⟩⟩
      · rw [t.on 3 (by omega), h.on3]
        exact ⟨fun ⟨⟨a1, a2, _, a4, a5⟩, a6⟩ => ⟨a1, a2, a6, a4, a5⟩, fun ⟨a1, a2, a6, a4, a5⟩ => ⟨⟨a1, a2, by simp, a4, a5⟩, a6⟩⟩
      · rw [t.oc i j hj]; exact h.ocw i hi hiA j hj
      · rw [t.oc i j hj]; exact h.ocr i hi j hj
      · rw [t.ec 1 (by omega) (by omega)]; exact h.ec1
      · rw [t.ec 2 (by omega) (by omega)]; exact h.ec2
      · rw [t.pn]; exact h.pn
end
end Go.Proofs.Ybulkjrk
