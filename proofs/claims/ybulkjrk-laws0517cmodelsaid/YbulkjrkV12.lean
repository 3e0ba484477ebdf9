/-
  OWN WORK for LawS0517ADelete: taking a level out of the tree (plain).
-/
import Derived.Test.YbulkjrkV11
namespace Go.Proofs.Ybulkjrk
set_option linter.unusedSimpArgs false
set_option linter.unusedVariables false

/-- n in the place of x. -/
def ren (x n : Nat) (y : Nat) : Nat := if y = x then n else y
theorem ren_at (x n : Nat) : ren x n x = n := by simp [ren]
theorem ren_ne {x n y : Nat} (h : y ≠ x) : ren x n y = y := by simp [ren, h]

/-- σ' is σ with n in the place of x, at the levels of l. -/
def Ren (σ σ' : Sd) (x n : Nat) (y : Nat) : Prop := (∀ e, σ'.ch (ren x n y) e = (σ.ch y e).map (ren x n)) ∧ σ'.par (ren x n y) = (σ.par y).map (ren x n) ∧ σ'.h (ren x n y) = σ.h y
theorem Tree.ren {σ σ' : Sd} {x n : Nat} {par b l h} (t : Tree σ par b l h) : (∀ y ∈ l, Ren σ σ' x n y) → Tree σ' (par.map (Ybulkjrk.ren x n)) (b.map (Ybulkjrk.ren x n)) (l.map (Ybulkjrk.ren x n)) h := by
  refine Tree.ind (σ := σ) (P := fun par b l h => (∀ y ∈ l, Ren σ σ' x n y) → Tree σ' (par.map (Ybulkjrk.ren x n)) (b.map (Ybulkjrk.ren x n)) (l.map (Ybulkjrk.ren x n)) h) (fun _ _ => Tree.nil _ _) ?_ t
  intro par y l1 l2 h1 h2 h e1 t1 t2 e2 e3 e4 e5 i1 i2 hf
  obtain ⟨hc, hp, hh⟩ := hf y (by simp)
  rw [List.map_append, List.map_cons]
  refine Tree.node (by rw [hp, e1]) ?_ ?_ (hh.trans e2) e3 e4 e5
  · rw [hc]; exact i1 (fun z hz => hf z (by simp [hz]))
  · rw [hc]; exact i2 (fun z hz => hf z (by simp [hz]))
theorem C.ren {σ σ' : Sd} {x n : Nat} (hr : σ'.root = σ.root.map (Ybulkjrk.ren x n)) {k : Nat} : ∀ {p hole was L R}, C σ k p hole was L R → (∀ y, y ∈ L ∨ y ∈ R → Ren σ σ' x n y) → C σ' k (p.map (Ybulkjrk.ren x n)) (hole.map (Ybulkjrk.ren x n)) was (L.map (Ybulkjrk.ren x n)) (R.map (Ybulkjrk.ren x n)) := by
  induction k with
  | zero => intro p hole was L R c; exact c.elim
  | succ k ih =>
    intro p hole was L R c hf
    rcases c with ⟨rfl, e, rfl, rfl⟩ | ⟨q, d, ls, ho, L', R', rfl, e1, ts, e2, e3, e4, c, e5⟩
    · exact .inl ⟨rfl, by rw [hr, e], rfl, rfl⟩
    · have hq := hf q (by rcases e5 with ⟨rfl, rfl, rfl⟩ | ⟨rfl, rfl, rfl⟩ <;> simp)
      have hs : ∀ y ∈ ls, Ren σ σ' x n y := fun y hy => hf y (by rcases e5 with ⟨rfl, rfl, rfl⟩ | ⟨rfl, rfl, rfl⟩ <;> simp [hy])
      have hc : ∀ y, y ∈ L' ∨ y ∈ R' → Ren σ σ' x n y := fun y hy => hf y (by rcases e5 with ⟨rfl, rfl, rfl⟩ | ⟨rfl, rfl, rfl⟩ <;> (simp; rcases hy with hy | hy <;> simp [hy]))
      have ts' := ts.ren hs
      have c' := ih c hc
      refine .inr ⟨Ybulkjrk.ren x n q, d, ls.map (Ybulkjrk.ren x n), ho, L'.map (Ybulkjrk.ren x n), R'.map (Ybulkjrk.ren x n), rfl, by rw [hq.1, e1], by rw [hq.1]; exact ts', by rw [hq.2.2, e2], e3, e4, by rw [hq.2.1, hq.2.2]; exact c', ?_⟩
      rcases e5 with ⟨rfl, rfl, rfl⟩ | ⟨rfl, rfl, rfl⟩
      · exact .inl ⟨rfl, rfl, by simp⟩
      · exact .inr ⟨rfl, by simp, rfl⟩
theorem RB.ren {σ σ' : Sd} {x n : Nat} (hr : σ'.root = σ.root.map (Ybulkjrk.ren x n)) {k q : Nat} {l L R : List Nat} (h : RB σ k q l L R) (hf : ∀ y ∈ L ++ (l ++ R), Ren σ σ' x n y) (nd : ((L ++ (l ++ R)).map (Ybulkjrk.ren x n)).Nodup) :
    RB σ' k (Ybulkjrk.ren x n q) (l.map (Ybulkjrk.ren x n)) (L.map (Ybulkjrk.ren x n)) (R.map (Ybulkjrk.ren x n)) := by
  obtain ⟨l1, l2, h1, h2, c1, c2, rfl, t1, t2, ctx, _, e1, e2, e3, e4⟩ := h
  have hq := hf q (by simp)
  have t1' := t1.ren (σ' := σ') (x := x) (n := n) (fun y hy => hf y (by simp [hy]))
  have t2' := t2.ren (σ' := σ') (x := x) (n := n) (fun y hy => hf y (by simp [hy]))
  have c' := ctx.ren hr (fun y hy => hf y (by simp; rcases hy with h | h <;> simp [h]))
  refine ⟨l1.map (Ybulkjrk.ren x n), l2.map (Ybulkjrk.ren x n), h1, h2, c1, c2, by simp, by rw [hq.1]; exact t1', by rw [hq.1]; exact t2', by rw [hq.2.1, hq.2.2]; exact c', by simpa using nd, by rw [hq.2.2]; exact e1, e2, e3, e4⟩

/-- A level of a tree, with what stands around it. -/
theorem Tree.focus {σ : Sd} {p o : Option Nat} {l : List Nat} {was : Int} (t : Tree σ p o l was) : ∀ {n L R}, C σ n p o was L R → ∀ {x}, x ∈ l → ∃ m L' R' l1 l2 h1 h2, C σ m (σ.par x) (some x) (σ.h x) L' R' ∧ Tree σ (some x) (σ.ch x false) l1 h1 ∧ Tree σ (some x) (σ.ch x true) l2 h2 ∧ σ.h x = 1 + max h1 h2 ∧ h1 - h2 ≤ 1 ∧ h2 - h1 ≤ 1 ∧ L ++ (l ++ R) = L' ++ ((l1 ++ x :: l2) ++ R') := by
  refine Tree.ind (σ := σ) (P := fun p o l was => ∀ {n L R}, C σ n p o was L R → ∀ {x}, x ∈ l → ∃ m L' R' l1 l2 h1 h2, C σ m (σ.par x) (some x) (σ.h x) L' R' ∧ Tree σ (some x) (σ.ch x false) l1 h1 ∧ Tree σ (some x) (σ.ch x true) l2 h2 ∧ σ.h x = 1 + max h1 h2 ∧ h1 - h2 ≤ 1 ∧ h2 - h1 ≤ 1 ∧ L ++ (l ++ R) = L' ++ ((l1 ++ x :: l2) ++ R')) (fun _ _ _ _ _ x hx => by simp at hx) ?_ t
  intro par y l1 l2 h1 h2 h e1 t1 t2 e2 e3 e4 e5 i1 i2 n L R c x hx
  subst e1 e2
  rcases List.mem_append.1 hx with hx | hx
  · obtain ⟨m, L', R', r⟩ := i1 (n := n + 1) (L := L) (R := y :: (l2 ++ R)) (.inr ⟨y, false, l2, h2, L, R, rfl, rfl, t2, e3, e4, e5, c, .inl ⟨rfl, rfl, rfl⟩⟩) hx
    obtain ⟨a1, a2, b1, b2, r1, r2, r3, r4, r5, r6, r7⟩ := r
    exact ⟨m, L', R', a1, a2, b1, b2, r1, r2, r3, r4, r5, r6, by rw [← r7]; simp⟩
  · rcases List.mem_cons.1 hx with rfl | hx
    · exact ⟨n, L, R, l1, l2, h1, h2, c, t1, t2, e3, e4, e5, rfl⟩
    · obtain ⟨m, L', R', r⟩ := i2 (n := n + 1) (L := L ++ (l1 ++ [y])) (R := R) (.inr ⟨y, true, l1, h1, L, R, rfl, rfl, t1, by rw [e3]; omega, e5, e4, c, .inr ⟨rfl, rfl, rfl⟩⟩) hx
      obtain ⟨a1, a2, b1, b2, r1, r2, r3, r4, r5, r6, r7⟩ := r
      exact ⟨m, L', R', a1, a2, b1, b2, r1, r2, r3, r4, r5, r6, by rw [← r7]; simp⟩

/-- A level with one child at most gives its place to it. -/
theorem cut_one {σ : Sd} {n x : Nat} {L R lc : List Nat} {c : Option Nat} {hc : Int} (ctx : C σ n (σ.par x) (some x) (σ.h x) L R) (tc : Tree σ (some x) c lc hc) (hh : σ.h x = 1 + hc) (nd : (L ++ (lc ++ R)).Nodup) (hx : x ∉ L ++ (lc ++ R)) :
    match σ.par x with
    | none => L = [] ∧ R = [] ∧ Tree (repl σ x c) none (repl σ x c).root lc hc
    | some q => ∃ m l' L' R', RB (repl σ x c) m q l' L' R' ∧ L' ++ (l' ++ R') = L ++ (lc ++ R) ∧ q ∈ L ++ (lc ++ R) := by
  obtain ⟨nd1, nd2, nd3⟩ := nodup3 nd
  have hxL : x ∉ L := fun h => hx (by simp [h])
  have hxR : x ∉ R := fun h => hx (by simp [h])
  have hxc : x ∉ lc := fun h => hx (by simp [h])
  have hu := ctx.under hxL hxR
  have hpn : ∀ y ∈ lc, σ.par x ≠ some y := fun y hy e => by
    have := nd2 y hy
    rcases ctx.parIn e with h | h
    · exact this.1 h
    · exact this.2 h
  have hcn : ∀ y, y ∈ L ∨ y ∈ R → c ≠ some y := fun y hy => tc.notIn (fun h => by
    have := nd2 y h
    rcases hy with g | g
    · exact this.1 g
    · exact this.2 g)
  have tc' : Tree (repl σ x c) (σ.par x) c lc hc := by
    refine tc.move nd1 (fun y hy => ⟨funext fun e => ?_, by rw [repl_h]⟩) (fun y hy hn => ?_) (fun y hy => ?_)
    · rw [repl_ch c hu, if_neg (fun h => hpn y hy h.1)]
    · rw [repl_par, if_neg hn]
    · rw [repl_par, if_pos hy]
  have ctx' : C (repl σ x c) n (σ.par x) c (σ.h x) L R := by
    refine ctx.hole hxL hxR nd3 (fun y hy => ?_) (fun y hy => by rw [repl_h]) (fun y hy e => repl_ch c hu y e) (repl_root σ x c)
    rw [repl_par, if_neg (hcn y hy)]
  cases n with
  | zero => exact ctx'.elim
  | succ n =>
    cases hp : σ.par x with
    | none =>
      rw [hp] at ctx' tc'
      rcases ctx' with ⟨_, e, rfl, rfl⟩ | ⟨q, d, ls, ho, L', R', e, _⟩
      · exact ⟨rfl, rfl, by rw [e]; exact tc'⟩
      · cases e
    | some q =>
      have hqm := ctx.parIn hp
      rw [hp] at ctx' tc'
      rcases ctx' with ⟨e, _⟩ | ⟨q', d, ls, ho, L', R', e0, e1, ts, e2, e3, e4, c', e5⟩
      · cases e
      · cases e0
        refine ⟨n, cat d ls q lc, L', R', ?_, ?_, by rcases hqm with h | h <;> simp [h]⟩
        · rcases e5 with ⟨rfl, rfl, rfl⟩ | ⟨rfl, rfl, rfl⟩
          · exact ⟨lc, ls, hc, ho, σ.h x, ho, rfl, by rw [e1]; exact tc', ts, c', by simpa [cat] using nd, e2, e3, e4, .inr ⟨rfl, by omega, by omega⟩⟩
          · exact ⟨ls, lc, ho, hc, ho, σ.h x, rfl, ts, by rw [e1]; exact tc', c', by simpa [cat] using nd, by rw [e2]; omega, e4, e3, .inl ⟨rfl, by omega, by omega⟩⟩
        · rcases e5 with ⟨rfl, rfl, rfl⟩ | ⟨rfl, rfl, rfl⟩ <;> simp [cat]

/-- The highest level of a subtree has no higher child. -/
theorem Tree.highest {σ : Sd} {par b : Option Nat} {l : List Nat} {h : Int} (t : Tree σ par b l h) : ∀ {A n}, l = A ++ [n] → σ.ch n true = none := by
  refine Tree.ind (σ := σ) (P := fun par b l h => ∀ {A n}, l = A ++ [n] → σ.ch n true = none) (fun _ A n e => by simp at e) ?_ t
  intro par y l1 l2 h1 h2 h e1 t1 t2 e2 e3 e4 e5 i1 i2 A n e
  cases l2 with
  | nil =>
    have := List.append_inj' (s₁ := l1) (t₁ := [y]) (s₂ := A) (t₂ := [n]) e rfl
    have hyn : y = n := by simpa using this.2
    subst hyn
    cases hc : σ.ch y true with
    | none => rfl
    | some z => rw [hc] at t2; have := t2.mem; simp at this
  | cons z l2 =>
    have hne : z :: l2 ≠ [] := by simp
    have e9 : z :: l2 = (z :: l2).dropLast ++ [(z :: l2).getLast hne] := (List.dropLast_concat_getLast hne).symm
    have hn : (z :: l2).getLast hne = n := by
      have : (l1 ++ y :: z :: l2).getLast? = some n := by rw [e]; simp
      rw [List.getLast?_append] at this
      simpa [List.getLast?_eq_some_getLast hne, List.getLast?_cons_cons] using this
    exact i2 (by rw [← hn]; exact e9)

theorem chain_remove {σ σ' : Sd} {L R : List Nat} {x : Nat} (hc : Chain σ (L ++ x :: R)) (nd : (L ++ x :: R).Nodup)
    (hl : ∀ y, L.getLast? = some y → σ'.nx y true = R.head? ∧ σ'.nx y false = σ.nx y false) (hr : ∀ y, R.head? = some y → σ'.nx y false = L.getLast? ∧ σ'.nx y true = σ.nx y true)
    (ho : ∀ y, y ∈ L ++ R → L.getLast? ≠ some y → R.head? ≠ some y → ∀ e, σ'.nx y e = σ.nx y e) (he0 : σ'.ends false = if L = [] then R.head? else σ.ends false) (he1 : σ'.ends true = if R = [] then L.getLast? else σ.ends true) : Chain σ' (L ++ R) := by
  obtain ⟨nL, nbR, nLR⟩ := List.nodup_append.1 nd
  obtain ⟨hbR, nR⟩ := List.nodup_cons.1 nbR
  have dLR : ∀ y ∈ L, y ∉ R := fun y h1 h2 => nLR y h1 y (by simp [h2]) rfl
  refine ⟨fun A y B h => ?_, ?_, ?_⟩
  · rcases List.append_eq_append_iff.1 h with ⟨a', h1, h2⟩ | ⟨c', h1, h2⟩
    · -- y stands in R
      subst h1
      have hx := hc.1 (L ++ x :: a') y B (by rw [h2]; simp)
      have hyL : L.getLast? ≠ some y := fun e => dLR y (last_mem e) (by rw [h2]; simp)
      cases a' with
      | nil =>
        have := hr y (by rw [h2]; simp)
        exact ⟨by rw [this.1]; simp, by rw [this.2, hx.2]⟩
      | cons z a' =>
        have hne : R.head? ≠ some y := by
          intro e
          rw [h2] at e nR
          simp at e
          subst e
          simp at nR
        have := ho y (by rw [h2]; simp) hyL hne
        refine ⟨?_, by rw [this true, hx.2]⟩
        rw [this false, hx.1, List.getLast?_append, List.getLast?_append, List.getLast?_cons_cons]
    · -- y stands in L
      cases c' with
      | nil =>
        simp at h2
        have hA : A = L := by simpa using h1.symm
        subst hA
        have hx := hc.1 (A ++ [x]) y B (by rw [← h2]; simp)
        have hyL : A.getLast? ≠ some y := fun e => dLR y (last_mem e) (by rw [← h2]; simp)
        have := hr y (by rw [← h2]; simp)
        exact ⟨this.1, by rw [this.2, hx.2]⟩
      | cons z c' =>
        simp at h2
        obtain ⟨rfl, rfl⟩ := h2
        subst h1
        have hx := hc.1 A y (c' ++ x :: R) (by simp)
        have hyR : R.head? ≠ some y := fun e => dLR y (by simp) (head_mem e)
        cases c' with
        | nil =>
          have := hl y (by rw [List.getLast?_append]; simp)
          exact ⟨by rw [this.2, hx.1], by rw [this.1]; simp⟩
        | cons z c' =>
          have hne : (A ++ y :: z :: c').getLast? ≠ some y := by
            intro e
            have e2 : (z :: c').getLast? = some y := by
              have := e
              rw [List.getLast?_append, List.getLast?_cons_cons] at this
              cases h9 : (z :: c').getLast? with
              | none => simp at h9
              | some w => rw [h9] at this; simpa using this
            have h3 := (List.nodup_append.1 nL).2.1
            exact (List.nodup_cons.1 h3).1 (last_mem e2)
          have := ho y (by simp) hne hyR
          exact ⟨(this false).trans hx.1, by rw [this true, hx.2]; simp⟩
  · rw [he0]
    cases L with
    | nil => simp
    | cons y L => rw [if_neg (by simp), hc.2.1]; simp
  · rw [he1]
    cases R with
    | nil => simp
    | cons y R => rw [if_neg (by simp), hc.2.2, List.getLast?_append, List.getLast?_append, List.getLast?_cons_cons]

end Go.Proofs.Ybulkjrk
