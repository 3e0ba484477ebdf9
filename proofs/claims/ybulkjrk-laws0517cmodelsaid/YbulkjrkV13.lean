/-
  OWN WORK: unlink's steps on the tree, as plain functions, and what they leave.
-/
import Derived.Test.YbulkjrkV12
namespace Go.Proofs.Ybulkjrk
set_option linter.unusedSimpArgs false
set_option linter.unusedVariables false

/-- The chain without x. -/
def offNx (σ : Sd) (x : Nat) : Sd :=
  let s1 := match σ.nx x false with
    | some f => setNx σ f true (σ.nx x true)
    | none => setEnd σ false (σ.nx x true)
  match σ.nx x true with
    | some g => setNx s1 g false (σ.nx x false)
    | none => setEnd s1 true (σ.nx x false)
/-- n takes what x holds on the higher way, its height, and its place. -/
def takeOver (s : Sd) (x n b : Nat) : Sd := repl (setH (setPar (setCh s n true (some b)) b (some n)) n (s.h x)) x (some n)

/-- How parents and children agree. -/
structure Kin (σ : Sd) (ll : List Nat) : Prop where
  up : ∀ y ∈ ll, Under σ y
  down : ∀ z ∈ ll, ∀ d y, σ.ch z d = some y → σ.par y = some z ∧ y ∈ ll ∧ y ≠ z
  rt : ∀ y, σ.root = some y → σ.par y = none
theorem Tree.kin {σ : Sd} {ll : List Nat} {h : Int} (t : Tree σ none σ.root ll h) (nd : ll.Nodup) : Kin σ ll := by
  have foc : ∀ x ∈ ll, ∃ m L' R' l1 l2 h1 h2, C σ m (σ.par x) (some x) (σ.h x) L' R' ∧ Tree σ (some x) (σ.ch x false) l1 h1 ∧ Tree σ (some x) (σ.ch x true) l2 h2 ∧ ll = L' ++ ((l1 ++ x :: l2) ++ R') := fun x hx => by
    obtain ⟨m, L', R', l1, l2, h1, h2, r1, r2, r3, _, _, _, r7⟩ := t.focus (n := 1) (L := []) (R := []) (.inl ⟨rfl, rfl, rfl, rfl⟩) hx
    exact ⟨m, L', R', l1, l2, h1, h2, r1, r2, r3, by simpa using r7⟩
  refine ⟨fun y hy => ?_, fun z hz d y e => ?_, fun y e => ?_⟩
  · obtain ⟨m, L', R', l1, l2, h1, h2, r1, r2, r3, r4⟩ := foc y hy
    rw [r4] at nd
    have := (nodup3 nd).2.1 y (by simp)
    exact r1.under this.1 this.2
  · obtain ⟨m, L', R', l1, l2, h1, h2, r1, r2, r3, r4⟩ := foc z hz
    rw [r4] at nd
    have nz := (nodup3 nd).1
    have nz' := nodup_cat (d := true) (a := l1) (x := z) (b := l2) |>.1 nz
    cases d
    · rw [e] at r2
      obtain ⟨_, _, _, _, p, _⟩ := r2.isS
      have := r2.mem
      exact ⟨p, by rw [r4]; simp [this], fun e' => nz'.2.2.1 (e' ▸ this)⟩
    · rw [e] at r3
      obtain ⟨_, _, _, _, p, _⟩ := r3.isS
      have := r3.mem
      exact ⟨p, by rw [r4]; simp [this], fun e' => nz'.2.2.2.1 (e' ▸ this)⟩
  · rw [e] at t
    obtain ⟨_, _, _, _, p, _⟩ := t.isS
    exact p

/-- The rename behind the two roads of unlink at a level with two children. s is the side when n takes x's place: with the lower subtree already n's. -/
theorem ren_of {σ s : Sd} {ll : List Nat} {x n b : Nat} (K : Kin σ ll) (hx : x ∈ ll) (hn : n ∈ ll) (hxn : x ≠ n) (hb : σ.ch x true = some b) (hpx : σ.par x ≠ some n)
    (c : Option Nat) (hc : σ.ch n false = c) (hct : σ.ch n true = none) (q : Nat) (hq : σ.par n = some q)
    (h2 : (q = x ∧ σ.ch x false = some n ∧ s = σ) ∨ (q ≠ x ∧ ∃ a, σ.ch x false = some a ∧ a ≠ n ∧ s = setPar (setCh (repl σ n c) n false (some a)) a (some n))) :
    (takeOver s x n b).root = (repl σ n c).root.map (ren x n) ∧ ∀ y ∈ ll, y ≠ n → Ren (repl σ n c) (takeOver s x n b) x n y := by
  have uN := K.up n hn
  have uX := K.up x hx
  obtain ⟨pb, hbl, hbx⟩ := K.down x hx true b hb
  have hnx : n ≠ x := Ne.symm hxn
  have hpxx : σ.par x ≠ some x := fun e => by
    rcases uX with ⟨h, _⟩ | ⟨q', d, h1, h2, _⟩
    · rw [e] at h; cases h
    · rw [e] at h1; cases h1; exact h2 rfl
  have hcx : c ≠ some x := fun e => by
    have := (K.down n hn false x (hc.trans e)).1
    exact hpx this
  have hcn : ∀ k, c = some k → σ.par k = some n ∧ k ≠ n := fun k e => ⟨(K.down n hn false k (hc.trans e)).1, (K.down n hn false k (hc.trans e)).2.2⟩
  have hroot1 : (repl σ n c).root = σ.root := by rw [repl_root, hq, if_neg (by simp)]
  have f1 := repl_ch c uN
  have g1 := repl_par σ n c
  have h1 := repl_h σ n c
  have hmapx : ∀ o : Option Nat, o ≠ some x → o.map (ren x n) = o := fun o ho => by
    cases o with
    | none => rfl
    | some k => show some (ren x n k) = _; rw [ren_ne (fun e => ho (by rw [e]))]
  have hbn : b ≠ n := by
    intro e; subst e
    rcases h2 with ⟨rfl, hf, _⟩ | ⟨hqx, _⟩
    · rcases uN with ⟨h, _⟩ | ⟨q', d, k1, k2, k3, k4⟩
      · rw [hq] at h; cases h
      · rw [hq] at k1; cases k1
        cases d
        · exact k4 hb
        · exact k4 hf
    · rw [hq] at pb; cases pb; exact hqx rfl
  have hcb : c ≠ some b := fun e => by have := (hcn b e).1; rw [pb] at this; cases this; exact hxn rfl
  generalize repl σ n c = σ1 at *
  rcases h2 with ⟨rfl, hf, rfl⟩ | ⟨hqx, a, hf, han, rfl⟩
  · -- n is x's own lower child
    obtain ⟨s6, hs6⟩ : ∃ s6, s6 = setH (setPar (setCh s n true (some b)) b (some n)) n (s.h q) := ⟨_, rfl⟩
    have ch6 : ∀ k e, s6.ch k e = if k = n ∧ e = true then some b else s.ch k e := by intro k e; rw [hs6]; rfl
    have par6 : ∀ k, s6.par k = if k = b then some n else s.par k := by intro k; rw [hs6]; rfl
    have hh6 : ∀ k, s6.h k = if k = n then s.h q else s.h k := by intro k; rw [hs6]; rfl
    have root6 : s6.root = s.root := by rw [hs6]; rfl
    have px6 : s6.par q = s.par q := by rw [par6, if_neg (Ne.symm hbx)]
    have u6 : Under s6 q := by
      rcases uX with ⟨k1, k2⟩ | ⟨q', d, k1, k2, k3, k4⟩
      · exact .inl ⟨px6.trans k1, root6.trans k2⟩
      · have hq'n : q' ≠ n := fun e => hpx (by rw [k1, e])
        exact .inr ⟨q', d, px6.trans k1, k2, by rw [ch6, if_neg (by simp [hq'n])]; exact k3, by rw [ch6, if_neg (by simp [hq'n])]; exact k4⟩
    have ch7 := repl_ch (some n) u6
    have par7 := repl_par s6 q (some n)
    have hh7 := repl_h s6 q (some n)
    have root7 := repl_root s6 q (some n)
    have e7 : takeOver s q n b = repl s6 q (some n) := by rw [hs6]; rfl
    rw [← e7] at ch7 par7 hh7 root7
    generalize takeOver s q n b = s7 at *
    refine ⟨?_, fun y hy hyn => ?_⟩
    · rw [root7, hroot1, px6]
      by_cases hp : s.par q = none
      · rw [if_pos hp]
        rcases uX with ⟨_, k2⟩ | ⟨q', d, k1, _⟩
        · rw [k2]; show some n = some (ren q n q); rw [ren_at]
        · rw [hp] at k1; cases k1
      · rw [if_neg hp, root6, hmapx _ (fun e => hp (K.rt q e))]
    · by_cases hyx : y = q
      · subst hyx
        refine ⟨fun e => ?_, ?_, ?_⟩
        · rw [ren_at, ch7, if_neg (by rw [px6]; rintro ⟨h, _⟩; exact hpx h), ch6, f1]
          cases e
          · rw [if_neg (by simp), if_pos ⟨hq, hf⟩, hmapx c hcx, hc]
          · rw [if_pos ⟨rfl, rfl⟩, if_neg (by rw [hb]; rintro ⟨_, h⟩; cases h; exact hbn rfl), hb]
            show _ = some (ren y n b); rw [ren_ne hbx]
        · rw [ren_at, par7, if_pos rfl, px6, g1, if_neg hcx, hmapx _ hpxx]
        · rw [ren_at, hh7, hh6, if_pos rfl, h1]
      · refine ⟨fun e => ?_, ?_, ?_⟩
        · have c6y : s6.ch y e = s.ch y e := by rw [ch6, if_neg (by simp [hyn])]
          have f1y : σ1.ch y e = s.ch y e := by rw [f1, if_neg (by rw [hq]; rintro ⟨h, _⟩; cases h; exact hyx rfl)]
          rw [ren_ne hyx, ch7, c6y, px6, f1y]
          by_cases hce : s.ch y e = some q
          · rw [if_pos ⟨(K.down y hy e q hce).1, hce⟩, hce]; show _ = some (ren q n q); rw [ren_at]
          · rw [if_neg (fun h => hce h.2), hmapx _ hce]
        · rw [ren_ne hyx, par7, if_neg (fun h => hyn (by cases h; rfl)), par6, g1]
          by_cases hyb : y = b
          · subst hyb
            rw [if_pos rfl, if_neg hcb, pb]; show _ = some (ren q n q); rw [ren_at]
          · rw [if_neg hyb]
            by_cases hcy : c = some y
            · rw [if_pos hcy, hq, (hcn y hcy).1]; show _ = some (ren q n q); rw [ren_at]
            · rw [if_neg hcy, hmapx _ (fun e => by
                rcases K.up y hy with ⟨k1, _⟩ | ⟨q', d, k1, k2, k3, k4⟩
                · rw [e] at k1; cases k1
                · rw [e] at k1; cases k1
                  cases d
                  · rw [hf] at k3; cases k3; exact hyn rfl
                  · rw [hb] at k3; cases k3; exact hyb rfl)]
        · rw [ren_ne hyx, hh7, hh6, if_neg hyn, h1]
  · -- n stands deeper
    have hxq : x ≠ q := Ne.symm hqx
    obtain ⟨pa, hal, hax⟩ := K.down x hx false a hf
    have hca : c ≠ some a := fun e => by have := (hcn a e).1; rw [pa] at this; cases this; exact hxn rfl
    have hqn : q ≠ n := by
      rcases uN with ⟨h, _⟩ | ⟨q', d, k1, k2, _⟩
      · rw [hq] at h; cases h
      · rw [hq] at k1; cases k1; exact k2
    have hab : a ≠ b := by
      intro e; subst e
      rcases K.up a hal with ⟨h, _⟩ | ⟨q', d, k1, k2, k3, k4⟩
      · rw [pa] at h; cases h
      · rw [pa] at k1; cases k1
        cases d
        · exact k4 hb
        · exact k4 hf
    have f1x : ∀ e, σ1.ch x e = σ.ch x e := fun e => by rw [f1, if_neg (by rw [hq]; rintro ⟨h, _⟩; cases h; exact hqx rfl)]
    have h1x : (setPar (setCh σ1 n false (some a)) a (some n)).h x = σ.h x := by show σ1.h x = _; rw [h1]
    obtain ⟨s6, hs6⟩ : ∃ s6, s6 = setH (setPar (setCh (setPar (setCh σ1 n false (some a)) a (some n)) n true (some b)) b (some n)) n ((setPar (setCh σ1 n false (some a)) a (some n)).h x) := ⟨_, rfl⟩
    have ch6 : ∀ k e, s6.ch k e = if k = n ∧ e = true then some b else if k = n ∧ e = false then some a else σ1.ch k e := by intro k e; rw [hs6]; rfl
    have par6 : ∀ k, s6.par k = if k = b then some n else if k = a then some n else σ1.par k := by intro k; rw [hs6]; rfl
    have hh6 : ∀ k, s6.h k = if k = n then σ.h x else σ1.h k := by intro k; rw [hs6, h1x]; rfl
    have root6 : s6.root = σ1.root := by rw [hs6]; rfl
    have px6 : s6.par x = σ.par x := by rw [par6, if_neg (Ne.symm hbx), if_neg (Ne.symm hax), g1, if_neg hcx]
    have c6y : ∀ y e, y ≠ n → s6.ch y e = σ1.ch y e := fun y e hyn => by rw [ch6, if_neg (by simp [hyn]), if_neg (by simp [hyn])]
    have f1c : ∀ y e, σ1.ch y e = some x ↔ σ.ch y e = some x := fun y e => by
      rw [f1]
      split
      · rename_i h; rw [h.2]
        constructor
        · intro h'; exact absurd h' hcx
        · intro h'; cases h'; exact absurd rfl hxn
      · exact Iff.rfl
    have u6 : Under s6 x := by
      rcases uX with ⟨k1, k2⟩ | ⟨q', d, k1, k2, k3, k4⟩
      · exact .inl ⟨px6.trans k1, (root6.trans hroot1).trans k2⟩
      · have hq'n : q' ≠ n := fun e => hpx (by rw [k1, e])
        exact .inr ⟨q', d, px6.trans k1, k2, by rw [c6y _ _ hq'n]; exact (f1c _ _).2 k3, by rw [c6y _ _ hq'n]; exact fun h => k4 ((f1c _ _).1 h)⟩
    have ch7 := repl_ch (some n) u6
    have par7 := repl_par s6 x (some n)
    have hh7 := repl_h s6 x (some n)
    have root7 := repl_root s6 x (some n)
    have e7 : takeOver (setPar (setCh σ1 n false (some a)) a (some n)) x n b = repl s6 x (some n) := by rw [hs6]; rfl
    rw [← e7] at ch7 par7 hh7 root7
    generalize takeOver (setPar (setCh σ1 n false (some a)) a (some n)) x n b = s7 at *
    refine ⟨?_, fun y hy hyn => ?_⟩
    · rw [root7, hroot1, px6]
      by_cases hp : σ.par x = none
      · rw [if_pos hp]
        rcases uX with ⟨_, k2⟩ | ⟨q', d, k1, _⟩
        · rw [k2]; show some n = some (ren x n x); rw [ren_at]
        · rw [hp] at k1; cases k1
      · rw [if_neg hp, root6, hroot1, hmapx _ (fun e => hp (K.rt x e))]
    · by_cases hyx : y = x
      · subst hyx
        refine ⟨fun e => ?_, ?_, ?_⟩
        · rw [ren_at, ch7, if_neg (by rw [px6]; rintro ⟨h, _⟩; exact hpx h), ch6, f1x]
          cases e
          · rw [if_neg (by simp), if_pos ⟨rfl, rfl⟩, hf]; show _ = some (ren y n a); rw [ren_ne hax]
          · rw [if_pos ⟨rfl, rfl⟩, hb]; show _ = some (ren y n b); rw [ren_ne hbx]
        · rw [ren_at, par7, if_pos rfl, px6, g1, if_neg hcx, hmapx _ hpxx]
        · rw [ren_at, hh7, hh6, if_pos rfl, h1]
      · refine ⟨fun e => ?_, ?_, ?_⟩
        · rw [ren_ne hyx, ch7, c6y _ _ hyn, px6]
          by_cases hce : σ1.ch y e = some x
          · rw [if_pos ⟨(K.down y hy e x ((f1c y e).1 hce)).1, hce⟩, hce]; show _ = some (ren x n x); rw [ren_at]
          · rw [if_neg (fun h => hce h.2), hmapx _ hce]
        · rw [ren_ne hyx, par7, if_neg (fun h => hyn (by cases h; rfl)), par6]
          by_cases hyb : y = b
          · subst hyb
            rw [if_pos rfl, g1, if_neg hcb, pb]; show _ = some (ren x n x); rw [ren_at]
          · rw [if_neg hyb]
            by_cases hya : y = a
            · subst hya
              rw [if_pos rfl, g1, if_neg hca, pa]; show _ = some (ren x n x); rw [ren_at]
            · rw [if_neg hya, g1]
              by_cases hcy : c = some y
              · rw [if_pos hcy, hq, hmapx _ (by intro e; cases e; exact hqx rfl)]
              · rw [if_neg hcy, hmapx _ (fun e => by
                  rcases K.up y hy with ⟨k1, _⟩ | ⟨q', d, k1, k2, k3, k4⟩
                  · rw [e] at k1; cases k1
                  · rw [e] at k1; cases k1
                    cases d
                    · rw [hf] at k3; cases k3; exact hya rfl
                    · rw [hb] at k3; cases k3; exact hyb rfl)]
        · rw [ren_ne hyx, hh7, hh6, if_neg hyn]

end Go.Proofs.Ybulkjrk
