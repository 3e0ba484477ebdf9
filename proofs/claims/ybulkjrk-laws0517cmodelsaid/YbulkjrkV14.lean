/-
  OWN WORK: unlink on the tree, whole (plain).
-/
import Derived.Test.YbulkjrkV13
namespace Go.Proofs.Ybulkjrk
set_option linter.unusedSimpArgs false
set_option linter.unusedVariables false

theorem Tree.cl {σ : Sd} {par b : Option Nat} {l : List Nat} {h : Int} (t : Tree σ par b l h) : l.Nodup → ∀ y ∈ l, (∀ d k, σ.ch y d = some k → k ∈ l ∧ k ≠ y) ∧ ((b = some y ∧ σ.par y = par) ∨ ∃ q, q ∈ l ∧ σ.par y = some q) := by
  refine Tree.ind (σ := σ) (P := fun par b l h => l.Nodup → ∀ y ∈ l, (∀ d k, σ.ch y d = some k → k ∈ l ∧ k ≠ y) ∧ ((b = some y ∧ σ.par y = par) ∨ ∃ q, q ∈ l ∧ σ.par y = some q)) (fun _ _ y hy => by simp at hy) ?_ t
  intro par x l1 l2 h1 h2 h e1 t1 t2 e2 e3 e4 e5 i1 i2 nd y hy
  obtain ⟨n1, n2, n3, n4, n5⟩ := (nodup_cat (d := true) (a := l1) (x := x) (b := l2)).1 nd
  rcases List.mem_append.1 hy with hy | hy
  · obtain ⟨a, b⟩ := i1 n1 y hy
    refine ⟨fun d k e => ⟨by have := (a d k e).1; simp [this], (a d k e).2⟩, .inr ?_⟩
    rcases b with ⟨_, b⟩ | ⟨q, hq, b⟩
    · exact ⟨x, by simp, b⟩
    · exact ⟨q, by simp [hq], b⟩
  · rcases List.mem_cons.1 hy with rfl | hy
    · refine ⟨fun d k e => ?_, .inl ⟨rfl, e1⟩⟩
      cases d
      · rw [e] at t1; have := t1.mem; exact ⟨by simp [this], fun e' => n3 (e' ▸ this)⟩
      · rw [e] at t2; have := t2.mem; exact ⟨by simp [this], fun e' => n4 (e' ▸ this)⟩
    · obtain ⟨a, b⟩ := i2 n2 y hy
      refine ⟨fun d k e => ⟨by have := (a d k e).1; simp [this], (a d k e).2⟩, .inr ?_⟩
      rcases b with ⟨_, b⟩ | ⟨q, hq, b⟩
      · exact ⟨x, by simp, b⟩
      · exact ⟨q, by simp [hq], b⟩
theorem Tree.clAll {σ : Sd} {l : List Nat} {h : Int} {b : Option Nat} (t : Tree σ none b l h) (nd : l.Nodup) : Cl σ (· ∈ l) := fun y hy => by
  obtain ⟨a, b⟩ := t.cl nd y hy
  refine ⟨a, fun q e => ?_⟩
  rcases b with ⟨_, b⟩ | ⟨q', hq, b⟩
  · rw [b] at e; cases e
  · rw [b] at e; cases e; exact hq
theorem C.cl {σ : Sd} {n : Nat} : ∀ {p hole was L R}, C σ n p hole was L R → (L ++ R).Nodup → (∀ y, y ∈ L ∨ y ∈ R → hole ≠ some y) → ∀ y, y ∈ L ∨ y ∈ R → (∀ d k, σ.ch y d = some k → ((k ∈ L ∨ k ∈ R) ∨ hole = some k) ∧ k ≠ y) ∧ ∀ q, σ.par y = some q → q ∈ L ∨ q ∈ R := by
  induction n with
  | zero => intro p hole was L R c; exact c.elim
  | succ n ih =>
    intro p hole was L R c nd hh y hy
    rcases c with ⟨rfl, e, rfl, rfl⟩ | ⟨q, d, ls, ho, L', R', rfl, e1, ts, e2, e3, e4, c, e5⟩
    · simp at hy
    · have hq : q ∈ L ∨ q ∈ R := by rcases e5 with ⟨rfl, rfl, rfl⟩ | ⟨rfl, rfl, rfl⟩ <;> simp
      have hs : ∀ z ∈ ls, z ∈ L ∨ z ∈ R := fun z hz => by rcases e5 with ⟨rfl, rfl, rfl⟩ | ⟨rfl, rfl, rfl⟩ <;> simp [hz]
      have hc : ∀ z, z ∈ L' ∨ z ∈ R' → z ∈ L ∨ z ∈ R := fun z hz => by rcases e5 with ⟨rfl, rfl, rfl⟩ | ⟨rfl, rfl, rfl⟩ <;> (simp; rcases hz with hz | hz <;> simp [hz])
      have nds : ls.Nodup ∧ q ∉ ls ∧ (L' ++ R').Nodup ∧ (∀ z, z ∈ L' ∨ z ∈ R' → z ≠ q) := by
        rcases e5 with ⟨rfl, rfl, rfl⟩ | ⟨rfl, rfl, rfl⟩
        · obtain ⟨a1, a2, a3⟩ := List.nodup_append.1 nd
          obtain ⟨b1, b2⟩ := List.nodup_cons.1 a2
          obtain ⟨c1, c2, c3⟩ := List.nodup_append.1 b2
          simp at b1
          refine ⟨c1, b1.1, List.nodup_append.2 ⟨a1, c2, fun x hx z hz => a3 x hx z (by simp [hz])⟩, fun z hz e => ?_⟩
          rcases hz with hz | hz
          · exact a3 z hz q (by simp) e
          · exact b1.2 (e ▸ hz)
        · obtain ⟨a1, a2, a3⟩ := List.nodup_append.1 nd
          obtain ⟨b1, b2, b3⟩ := List.nodup_append.1 a1
          obtain ⟨c1, c2, c3⟩ := List.nodup_append.1 b2
          refine ⟨c1, fun h => c3 q h q (by simp) rfl, List.nodup_append.2 ⟨b1, a2, fun x hx z hz => a3 x (by simp [hx]) z hz⟩, fun z hz e => ?_⟩
          rcases hz with hz | hz
          · exact b3 z hz q (by simp) e
          · exact a3 q (by simp) z hz e.symm
      have hm : y = q ∨ y ∈ ls ∨ (y ∈ L' ∨ y ∈ R') := by
        rcases e5 with ⟨rfl, rfl, rfl⟩ | ⟨rfl, rfl, rfl⟩
        · simp at hy; rcases hy with h | h | h | h <;> simp [h]
        · simp at hy; rcases hy with (h | h | h) | h <;> simp [h]
      rcases hm with rfl | hy' | hy'
      · refine ⟨fun e k hk => ?_, fun z hz => ?_⟩
        · by_cases hed : e = d
          · subst hed
            rw [e1] at hk
            exact ⟨.inr hk, fun e' => hh y hq (by rw [hk, e'])⟩
          · have : e = !d := by cases e <;> cases d <;> simp_all
            subst this
            rw [hk] at ts
            have := ts.mem
            exact ⟨.inl (hs k this), fun e' => nds.2.1 (e' ▸ this)⟩
        · exact hc z (c.parIn hz)
      · obtain ⟨a, b⟩ := ts.cl nds.1 y hy'
        refine ⟨fun e k hk => ⟨.inl (hs k (a e k hk).1), (a e k hk).2⟩, fun z hz => ?_⟩
        rcases b with ⟨_, b⟩ | ⟨z', hz', b⟩
        · rw [b] at hz; cases hz; exact hq
        · rw [b] at hz; cases hz; exact hs _ hz'
      · obtain ⟨a, b⟩ := ih c nds.2.2.1 (fun z hz e => nds.2.2.2 z hz (by cases e; rfl)) y hy'
        refine ⟨fun e k hk => ⟨.inl ?_, (a e k hk).2⟩, fun z hz => hc z (b z hz)⟩
        rcases (a e k hk).1 with h | h
        · exact hc k h
        · cases h; exact hq
theorem RB.cl {σ : Sd} {n x : Nat} {l L R : List Nat} (h : RB σ n x l L R) : Cl σ (· ∈ L ++ (l ++ R)) := by
  obtain ⟨l1, l2, h1, h2, c1, c2, rfl, t1, t2, ctx, nd, e1, e2, e3, e4⟩ := h
  obtain ⟨nd1, nd2, nd3⟩ := nodup3 nd
  obtain ⟨n1, n2, n3, n4, n5⟩ := (nodup_cat (d := true) (a := l1) (x := x) (b := l2)).1 nd1
  have hx := nd2 x (by simp)
  intro y hy
  simp at hy
  have inner : ∀ {ls : List Nat} {b : Option Nat} {hb : Int}, Tree σ (some x) b ls hb → ls.Nodup → (∀ z ∈ ls, z ∈ L ++ ((l1 ++ x :: l2) ++ R)) → y ∈ ls → (∀ d k, σ.ch y d = some k → k ∈ L ++ ((l1 ++ x :: l2) ++ R) ∧ k ≠ y) ∧ ∀ q, σ.par y = some q → q ∈ L ++ ((l1 ++ x :: l2) ++ R) := fun tt hn hs hy => by
    obtain ⟨a, b⟩ := tt.cl hn y hy
    refine ⟨fun d k e => ⟨hs k (a d k e).1, (a d k e).2⟩, fun q e => ?_⟩
    rcases b with ⟨_, b⟩ | ⟨q', hq, b⟩
    · rw [b] at e; cases e; simp
    · rw [b] at e; cases e; exact hs _ hq
  have ctxc := ctx.cl nd3 (fun z hz e => by cases e; rcases hz with h | h; exact hx.1 h; exact hx.2 h) y
  have outer : (y ∈ L ∨ y ∈ R) → (∀ d k, σ.ch y d = some k → k ∈ L ++ ((l1 ++ x :: l2) ++ R) ∧ k ≠ y) ∧ ∀ q, σ.par y = some q → q ∈ L ++ ((l1 ++ x :: l2) ++ R) := fun hy => by
    obtain ⟨a, b⟩ := ctxc hy
    refine ⟨fun d k e => ⟨?_, (a d k e).2⟩, fun q e => ?_⟩
    · rcases (a d k e).1 with (h | h) | h
      · simp [h]
      · simp [h]
      · cases h; simp
    · rcases b q e with h | h <;> simp [h]
  rcases hy with h | h | h | h | h
  · exact outer (.inl h)
  · exact inner t1 n1 (fun z hz => by simp [hz]) h
  · subst h
    refine ⟨fun d k e => ?_, fun q e => ?_⟩
    · cases d
      · rw [e] at t1; have := t1.mem; exact ⟨by simp [this], fun e' => n3 (e' ▸ this)⟩
      · rw [e] at t2; have := t2.mem; exact ⟨by simp [this], fun e' => n4 (e' ▸ this)⟩
    · rcases ctx.parIn e with h | h <;> simp [h]
  · exact inner t2 n2 (fun z hz => by simp [hz]) h
  · exact outer (.inr h)

theorem cut_uniq {L R A B : List Nat} {x : Nat} (nd : (L ++ x :: R).Nodup) (h : L ++ x :: R = A ++ x :: B) : A = L ∧ B = R := by
  obtain ⟨n1, n2, n3⟩ := List.nodup_append.1 nd
  rcases cut_mid h with ⟨h1, _, h2⟩ | ⟨C, h1, _⟩ | ⟨C, h1, _⟩
  · exact ⟨h1, h2⟩
  · exact absurd rfl (n3 x (by rw [h1]; simp) x (by simp))
  · exact absurd (by rw [h1]; simp) (List.nodup_cons.1 n2).1

/-- Unlink at a level that lacks a child. -/
theorem off_one {σ : Sd} {L R : List Nat} {x : Nat} {h : Int} (t : Tree σ none σ.root (L ++ x :: R) h) (nd : (L ++ x :: R).Nodup) {c : Option Nat} {d : Bool} (hd : σ.ch x d = none) (hc : σ.ch x (!d) = c) :
    match σ.par x with
    | none => ∃ h', Tree (repl σ x c) none (repl σ x c).root (L ++ R) h'
    | some q => ∃ m l' L' R', RB (repl σ x c) m q l' L' R' ∧ L' ++ (l' ++ R') = L ++ R ∧ q ∈ L ++ R := by
  obtain ⟨m, L', R', l1, l2, h1, h2, r1, r2, r3, r4, r5, r6, r7⟩ := t.focus (n := 1) (L := []) (R := []) (.inl ⟨rfl, rfl, rfl, rfl⟩) (x := x) (by simp)
  have r7' : L ++ x :: R = (L' ++ l1) ++ x :: (l2 ++ R') := by simpa using r7
  obtain ⟨e1, e2⟩ := cut_uniq nd r7'
  have nd' : (L ++ R).Nodup := by
    obtain ⟨a, b, c⟩ := List.nodup_append.1 nd
    exact List.nodup_append.2 ⟨a, (List.nodup_cons.1 b).2, fun y hy z hz => c y hy z (by simp [hz])⟩
  have hxn : x ∉ L ++ R := by
    obtain ⟨a, b, c⟩ := List.nodup_append.1 nd
    intro hh
    rcases List.mem_append.1 hh with h | h
    · exact c x h x (by simp) rfl
    · exact (List.nodup_cons.1 b).1 h
  have p1 := r2.pos
  have p2 := r3.pos
  have key : ∀ {lc : List Nat} {hcc : Int}, Tree σ (some x) c lc hcc → σ.h x = 1 + hcc → L' ++ (lc ++ R') = L ++ R → (match σ.par x with
      | none => ∃ h', Tree (repl σ x c) none (repl σ x c).root (L ++ R) h'
      | some q => ∃ m l' L' R', RB (repl σ x c) m q l' L' R' ∧ L' ++ (l' ++ R') = L ++ R ∧ q ∈ L ++ R) := fun {lc hcc} tc hh hl => by
    have := cut_one r1 tc hh (by rw [hl]; exact nd') (by rw [hl]; exact hxn)
    cases hp : σ.par x with
    | none =>
      rw [hp] at this
      obtain ⟨rfl, rfl, t'⟩ := this
      exact ⟨hcc, by rw [← hl]; simpa using t'⟩
    | some q =>
      rw [hp] at this
      obtain ⟨m, l', L9, R9, a1, a2, a3⟩ := this
      exact ⟨m, l', L9, R9, a1, a2.trans hl, by rw [← hl]; exact a3⟩
  cases d
  · simp only [Bool.not_false] at hc
    rw [hd] at r2
    obtain ⟨rfl, rfl⟩ := r2.isN
    rw [hc] at r3
    exact key r3 (by omega) (by rw [← e1, ← e2]; simp)
  · simp only [Bool.not_true] at hc
    rw [hd] at r3
    obtain ⟨rfl, rfl⟩ := r3.isN
    rw [hc] at r2
    exact key r2 (by omega) (by rw [← e1, ← e2]; simp)

/-- Unlink at a level with two children. -/
theorem off_two {σ : Sd} {L R : List Nat} {x a b n : Nat} {h : Int} (t : Tree σ none σ.root (L ++ x :: R) h) (nd : (L ++ x :: R).Nodup) (ha : σ.ch x false = some a) (hb : σ.ch x true = some b) (hn : L.getLast? = some n) :
    ∃ q, σ.par n = some q ∧ σ.ch n true = none ∧ n ∈ L ∧ b ∈ L ++ R ∧ b ≠ n ∧ b ≠ x ∧ x ≠ n ∧ σ.par x ≠ some n ∧ (∀ k, σ.ch n false = some k → k ∈ L ++ R ∧ k ≠ n) ∧
      ((q = x ∧ ∃ m l' L' R', RB (takeOver σ x n b) m n l' L' R' ∧ L' ++ (l' ++ R') = L ++ R) ∨
       (q ≠ x ∧ q ∈ L ++ R ∧ q ≠ n ∧ a ≠ n ∧ a ∈ L ++ R ∧ a ≠ x ∧ a ≠ b ∧ ∃ m l' L' R', RB (takeOver (setPar (setCh (repl σ n (σ.ch n false)) n false (some a)) a (some n)) x n b) m q l' L' R' ∧ L' ++ (l' ++ R') = L ++ R)) := by
  have K := t.kin nd
  have hxl : x ∈ L ++ x :: R := by simp
  obtain ⟨nL, nxR, nLR⟩ := List.nodup_append.1 nd
  obtain ⟨hxR, nR⟩ := List.nodup_cons.1 nxR
  have hxL : x ∉ L := fun h => nLR x h x (by simp) rfl
  have dLR : ∀ y ∈ L, y ∉ R := fun y h1 h2 => nLR y h1 y (by simp [h2]) rfl
  obtain ⟨m, Lx, Rx, l1, l2, h1, h2, r1, r2, r3, r4, r5, r6, r7⟩ := t.focus (n := 1) (L := []) (R := []) (.inl ⟨rfl, rfl, rfl, rfl⟩) (x := x) (by simp)
  have r7' : L ++ x :: R = (Lx ++ l1) ++ x :: (l2 ++ Rx) := by simpa using r7
  obtain ⟨eL, eR⟩ := cut_uniq nd r7'
  have hal1 : a ∈ l1 := by rw [ha] at r2; exact r2.mem
  have hbl2 : b ∈ l2 := by rw [hb] at r3; exact r3.mem
  have hl1L : ∀ y ∈ l1, y ∈ L := fun y hy => by rw [← eL]; simp [hy]
  have hl2R : ∀ y ∈ l2, y ∈ R := fun y hy => by rw [← eR]; simp [hy]
  have hne : l1 ≠ [] := fun e => by rw [e] at hal1; simp at hal1
  obtain ⟨A, hA⟩ : ∃ A, l1 = A ++ [n] := by
    refine ⟨l1.dropLast, ?_⟩
    have hg : l1.getLast hne = n := by
      have := hn
      rw [← eL, List.getLast?_append, List.getLast?_eq_some_getLast hne] at this
      simpa using this
    rw [← hg]; exact (List.dropLast_concat_getLast hne).symm
  have hnl1 : n ∈ l1 := by rw [hA]; simp
  have hnL := hl1L n hnl1
  have hnll : n ∈ L ++ x :: R := by simp [hnL]
  have hxn : x ≠ n := fun e => hxL (e ▸ hnL)
  have hct := r2.highest hA
  have nl1 : l1.Nodup := by rw [← eL] at nL; exact (List.nodup_append.1 nL).2.1
  have hpx : σ.par x ≠ some n := fun e => by
    have nd9 := nd
    rw [r7'] at nd9
    have nd8 : (Lx ++ ((l1 ++ x :: l2) ++ Rx)).Nodup := by simpa using nd9
    have := (nodup3 nd8).2.1 n (by simp [hnl1])
    rcases r1.parIn e with h | h
    · exact this.1 h
    · exact this.2 h
  have inLR : ∀ y, y ∈ L ++ x :: R → y ≠ x → y ∈ L ++ R := fun y hy hne => by
    simp at hy ⊢
    rcases hy with h | h | h
    · exact .inl h
    · exact absurd h hne
    · exact .inr h
  have hbR := hl2R b hbl2
  have hbn : b ≠ n := fun e => dLR n hnL (e ▸ hbR)
  have hbx : b ≠ x := fun e => hxR (e ▸ hbR)
  have hkids : ∀ k, σ.ch n false = some k → k ∈ L ++ R ∧ k ≠ n := fun k e => by
    obtain ⟨k1, k2, k3⟩ := K.down n hnll false k e
    exact ⟨inLR k k2 (fun e' => hpx (by rw [← e']; exact k1)), k3⟩
  -- n's own place
  obtain ⟨mn, Ln, Rn, l1n, l2n, g1, g2, s1, s2, s3, s4, s5, s6, s7⟩ := t.focus (n := 1) (L := []) (R := []) (.inl ⟨rfl, rfl, rfl, rfl⟩) (x := n) hnll
  rw [hct] at s3
  obtain ⟨rfl, rfl⟩ := s3.isN
  have s7' : L ++ x :: R = (Ln ++ l1n) ++ n :: Rn := by simpa using s7
  have hL0 : L = (Lx ++ A) ++ [n] := by rw [← eL, hA]; simp
  have hll : L ++ x :: R = (Lx ++ A) ++ n :: (x :: R) := by rw [hL0]; simp
  have nd0 : ((Lx ++ A) ++ n :: (x :: R)).Nodup := by rw [← hll]; exact nd
  obtain ⟨eLn, eRn⟩ := cut_uniq nd0 (hll.symm.trans s7')
  have hlst : Ln ++ (l1n ++ Rn) = (Lx ++ A) ++ x :: R := by rw [← eLn, ← eRn]; simp
  have p1 := s2.pos
  have nd1 : ((Lx ++ A) ++ x :: R).Nodup := by
    obtain ⟨a1, a2, a3⟩ := List.nodup_append.1 nd0
    exact List.nodup_append.2 ⟨a1, (List.nodup_cons.1 a2).2, fun y hy z hz => a3 y hy z (by simp at hz ⊢; exact .inr hz)⟩
  have hn0 : n ∉ (Lx ++ A) ++ x :: R := by
    obtain ⟨a1, a2, a3⟩ := List.nodup_append.1 nd0
    intro hh
    rcases List.mem_append.1 hh with h | h
    · exact a3 n h n (by simp) rfl
    · exact (List.nodup_cons.1 a2).1 h
  have hcut := cut_one s1 s2 (by omega) (by rw [hlst]; exact nd1) (by rw [hlst]; exact hn0)
  have idm : ∀ l : List Nat, x ∉ l → l.map (ren x n) = l := fun l hl => by
    have : l.map (ren x n) = l.map id := List.map_congr_left (fun y hy => ren_ne (fun e => hl (e ▸ hy)))
    simpa using this
  have hmap : ((Lx ++ A) ++ x :: R).map (ren x n) = L ++ R := by
    rw [List.map_append, List.map_cons, ren_at, idm _ (fun h => hxL (by rw [hL0]; simp at h ⊢; rcases h with h | h <;> simp [h])), idm _ hxR, hL0]
    simp
  have nd' : (L ++ R).Nodup := List.nodup_append.2 ⟨nL, nR, fun y hy z hz => nLR y hy z (by simp [hz])⟩
  have fin : ∀ (q : Nat) (s : Sd), σ.par n = some q → ((q = x ∧ σ.ch x false = some n ∧ s = σ) ∨ (q ≠ x ∧ ∃ a, σ.ch x false = some a ∧ a ≠ n ∧ s = setPar (setCh (repl σ n (σ.ch n false)) n false (some a)) a (some n))) →
      ∃ m l' L' R', RB (takeOver s x n b) m (ren x n q) l' L' R' ∧ L' ++ (l' ++ R') = L ++ R := fun q s hq h9 => by
    rw [hq] at hcut
    obtain ⟨m', l', L', R', rb, hl', _⟩ := hcut
    obtain ⟨rt, rn⟩ := ren_of K hxl hnll hxn hb hpx (σ.ch n false) rfl hct q hq h9
    have hl9 := hl'.trans hlst
    refine ⟨m', l'.map (ren x n), L'.map (ren x n), R'.map (ren x n), rb.ren rt (fun y hy => ?_) (by rw [hl9, hmap]; exact nd'), ?_⟩
    · rw [hl9] at hy
      refine rn y ?_ (fun e => hn0 (e ▸ hy))
      rw [hll]; simp at hy ⊢; rcases hy with h | h | h | h <;> simp [h]
    · rw [← List.map_append, ← List.map_append, hl9, hmap]
  rcases (r2.cl nl1 n hnl1).2 with ⟨e1, e2⟩ | ⟨q, hq, e2⟩
  · rw [ha] at e1
    cases e1
    refine ⟨x, e2, hct, hnL, by simp [hbR], hbn, hbx, hxn, hpx, hkids, .inl ⟨rfl, ?_⟩⟩
    have := fin x σ e2 (.inl ⟨rfl, ha, rfl⟩)
    rwa [ren_at] at this
  · have hqL := hl1L q hq
    have hqx : q ≠ x := fun e => hxL (e ▸ hqL)
    have hqn : q ≠ n := by
      rcases K.up n hnll with ⟨h, _⟩ | ⟨q', d, k1, k2, _⟩
      · rw [e2] at h; cases h
      · rw [e2] at k1; cases k1; exact k2
    obtain ⟨pa, _, hax⟩ := K.down x hxl false a ha
    have han : a ≠ n := fun e => by rw [e, e2] at pa; cases pa; exact hqx rfl
    refine ⟨q, e2, hct, hnL, by simp [hbR], hbn, hbx, hxn, hpx, hkids, .inr ⟨hqx, by simp [hqL], hqn, han, by simp [hl1L a hal1], hax, fun e => dLR a (hl1L a hal1) (e ▸ hbR), ?_⟩⟩
    have := fin q _ e2 (.inr ⟨hqx, a, ha, han, rfl⟩)
    rwa [ren_ne hqx] at this

end Go.Proofs.Ybulkjrk
