/-
  OWN WORK: link keeps a side good.
-/
import Derived.Test.YbulkjrkV10
namespace Go.Proofs.Ybulkjrk
open Go.RowKit
set_option linter.unusedSimpArgs false
set_option linter.unusedVariables false

theorem cut_mid {L R A B : List Nat} {b x : Nat} (h : L ++ b :: R = A ++ x :: B) : (A = L ∧ x = b ∧ B = R) ∨ (∃ C, L = A ++ x :: C ∧ B = C ++ b :: R) ∨ ∃ C, R = C ++ x :: B ∧ A = L ++ b :: C := by
  rcases List.append_eq_append_iff.1 h with ⟨a', h1, h2⟩ | ⟨c', h1, h2⟩
  · cases a' with
    | nil => simp at h2; obtain ⟨rfl, rfl⟩ := h2; exact .inl ⟨by simpa using h1, rfl, rfl⟩
    | cons y a'' => simp at h2; obtain ⟨rfl, rfl⟩ := h2; exact .inr (.inr ⟨a'', rfl, h1⟩)
  · cases c' with
    | nil => simp at h2; obtain ⟨rfl, rfl⟩ := h2; exact .inl ⟨by simpa using h1.symm, rfl, rfl⟩
    | cons y c'' => simp at h2; obtain ⟨rfl, rfl⟩ := h2; exact .inr (.inl ⟨c'', h1, rfl⟩)
theorem last_snoc {A : List Nat} {x : Nat} {C : List Nat} : (A ++ x :: C).getLast? = some ((x :: C).getLast (by simp)) := by
  rw [List.getLast?_append, List.getLast?_eq_some_getLast (l := x :: C) (by simp)]; rfl
theorem last_mem {l : List Nat} {x : Nat} (h : l.getLast? = some x) : x ∈ l := List.mem_of_getLast? h
theorem head_mem {l : List Nat} {x : Nat} (h : l.head? = some x) : x ∈ l := List.mem_of_head? h

theorem chain_insert {σ σ' : Sd} {L R : List Nat} {b : Nat} (hc : Chain σ (L ++ R)) (nd : (L ++ b :: R).Nodup) (hb0 : σ'.nx b false = L.getLast?) (hb1 : σ'.nx b true = R.head?)
    (hl : ∀ x, L.getLast? = some x → σ'.nx x true = some b ∧ σ'.nx x false = σ.nx x false) (hr : ∀ x, R.head? = some x → σ'.nx x false = some b ∧ σ'.nx x true = σ.nx x true)
    (ho : ∀ x, x ∈ L ++ R → L.getLast? ≠ some x → R.head? ≠ some x → ∀ e, σ'.nx x e = σ.nx x e) (he0 : σ'.ends false = if L = [] then some b else σ.ends false) (he1 : σ'.ends true = if R = [] then some b else σ.ends true) : Chain σ' (L ++ b :: R) := by
  obtain ⟨nL, nbR, nLR⟩ := List.nodup_append.1 nd
  obtain ⟨hbR, nR⟩ := List.nodup_cons.1 nbR
  have dLR : ∀ x ∈ L, x ∉ R := fun x h1 h2 => nLR x h1 x (by simp [h2]) rfl
  refine ⟨fun A x B h => ?_, ?_, ?_⟩
  · rcases cut_mid h with ⟨rfl, rfl, rfl⟩ | ⟨C, rfl, rfl⟩ | ⟨C, rfl, rfl⟩
    · exact ⟨hb0, hb1⟩
    · have hx := hc.1 A x (C ++ R) (by simp)
      have hxL : x ∈ A ++ x :: C := by simp
      have hxR : R.head? ≠ some x := fun e => dLR x hxL (head_mem e)
      cases C with
      | nil =>
        have := hl x (by rw [List.getLast?_append]; simp)
        exact ⟨this.2.trans hx.1, by rw [this.1]; simp⟩
      | cons y C =>
        have hne : (A ++ x :: y :: C).getLast? ≠ some x := by
          intro e
          have e2 : (y :: C).getLast? = some x := by
            have := e
            rw [List.getLast?_append, List.getLast?_cons_cons] at this
            cases h9 : (y :: C).getLast? with
            | none => simp at h9
            | some z => rw [h9] at this; simpa using this
          have h3 := (List.nodup_append.1 nL).2.1
          exact (List.nodup_cons.1 h3).1 (last_mem e2)
        have := ho x (by simp) hne hxR
        exact ⟨(this false).trans hx.1, by rw [this true, hx.2]; simp⟩
    · have hx := hc.1 (L ++ C) x B (by simp)
      have hxR : x ∈ C ++ x :: B := by simp
      have hxL : L.getLast? ≠ some x := fun e => dLR x (last_mem e) hxR
      cases C with
      | nil =>
        have := hr x (by simp)
        exact ⟨by rw [this.1, List.getLast?_append]; simp, by rw [this.2, hx.2]⟩
      | cons y C =>
        have hne : (y :: C ++ x :: B).head? ≠ some x := by
          intro e
          simp at e
          subst e
          simp at nR
        have := ho x (by simp) hxL hne
        refine ⟨?_, by rw [this true, hx.2]⟩
        rw [this false, hx.1, List.getLast?_append, List.getLast?_append, List.getLast?_cons_cons]
  · rw [he0]
    cases L with
    | nil => simp
    | cons y L => rw [if_neg (by simp), hc.2.1]; simp
  · rw [he1]
    cases R with
    | nil => simp
    | cons y R =>
      rw [if_neg (by simp), hc.2.2, List.getLast?_append, List.getLast?_append, List.getLast?_cons_cons]

/-- The side behind link's stores: what rebalance starts from, and its chain. -/
theorem link_state {σ σ7 : Sd} {L R : List Nat} {b q n : Nat} {d : Bool} (hG : Good σ (L ++ R)) (nd : (L ++ b :: R).Nodup) (hbc : ∀ e, σ.ch b e = none) (loc : Loc σ n (some q) d none 0 L R)
    (h7 : σ7 = (let s := setNx (setNx (setNx (setCh (setH (setPar σ b (some q)) b 1) q d (some b)) b (!d) (some q)) b d (σ.nx q d)) q d (some b)
      match σ.nx q d with
      | none => setEnd s d (some b)
      | some f => setNx s f (!d) (some b))) :
    (∃ l' L' R', RB σ7 n q l' L' R' ∧ L' ++ (l' ++ R') = L ++ b :: R) ∧ Cl σ7 (· ∈ L ++ b :: R) ∧ Chain σ7 (L ++ b :: R) ∧ σ7.price = σ.price ∧ q ∈ L ++ R ∧ σ.ch q d = none ∧ ∀ f, σ.nx q d = some f → f ∈ L ++ R ∧ f ≠ q := by
  rcases loc with ⟨e, _⟩ | ⟨q', ls, ho, L', R', e0, e1, ts, e2, e3, e4, ctx, e5⟩
  · cases e
  cases e0
  have hch : σ7.ch = up2 σ.ch q d (some b) := by rw [h7]; cases σ.nx q d <;> rfl
  have hpar : σ7.par = up σ.par b (some q) := by rw [h7]; cases σ.nx q d <;> rfl
  have hh : σ7.h = up σ.h b 1 := by rw [h7]; cases σ.nx q d <;> rfl
  have hroot : σ7.root = σ.root := by rw [h7]; cases σ.nx q d <;> rfl
  have hprice : σ7.price = σ.price := by rw [h7]; cases σ.nx q d <;> rfl
  obtain ⟨nL, nbR, nLR⟩ := List.nodup_append.1 nd
  obtain ⟨hbR, nR⟩ := List.nodup_cons.1 nbR
  have hbL : b ∉ L := fun h => nLR b h b (by simp) rfl
  have hqm : q ∈ L ++ R := by rcases e5 with ⟨rfl, rfl, rfl⟩ | ⟨rfl, rfl, rfl⟩ <;> simp
  have hbq : b ≠ q := by
    intro e; subst e
    rcases List.mem_append.1 hqm with h | h
    · exact hbL h
    · exact hbR h
  have mem : ∀ y, y ∈ ls ∨ y ∈ L' ∨ y ∈ R' → y ≠ b ∧ y ≠ q := by
    intro y hy
    rcases e5 with ⟨rfl, rfl, rfl⟩ | ⟨rfl, rfl, rfl⟩
    · simp at hbR nR nLR
      have dq : ∀ z ∈ L, z ≠ q := fun z hz => (nLR z hz).2.1
      rcases hy with h | h | h
      · exact ⟨fun e => hbR.2.1 (e ▸ h), fun e => nR.1.1 (e ▸ h)⟩
      · exact ⟨fun e => hbL (e ▸ h), dq y h⟩
      · exact ⟨fun e => hbR.2.2 (e ▸ h), fun e => nR.1.2 (e ▸ h)⟩
    · simp at hbL
      obtain ⟨a1, a2, a3⟩ := List.nodup_append.1 nL
      obtain ⟨b1, b2, b3⟩ := List.nodup_append.1 a2
      have qR : q ∉ R := fun h => nLR q (by simp) q (by simp [h]) rfl
      rcases hy with h | h | h
      · exact ⟨fun e => hbL.2.1 (e ▸ h), fun e => b3 y h q (by simp) e⟩
      · exact ⟨fun e => hbL.1 (e ▸ h), fun e => a3 y h q (by simp) e⟩
      · exact ⟨fun e => hbR (e ▸ h), fun e => qR (e ▸ h)⟩
  have fr : ∀ y, y ≠ b → y ≠ q → σ7.ch y = σ.ch y ∧ σ7.par y = σ.par y ∧ σ7.h y = σ.h y := fun y h1 h2 => ⟨by rw [hch]; funext e; exact up2_ne _ _ _ _ h2, by rw [hpar]; exact up_ne _ _ _ h1, by rw [hh]; exact up_ne _ _ _ h1⟩
  have hhq : σ7.h q = σ.h q := by rw [hh]; exact up_ne _ _ _ (Ne.symm hbq)
  have hpq : σ7.par q = σ.par q := by rw [hpar]; exact up_ne _ _ _ (Ne.symm hbq)
  have hcqd : σ7.ch q d = some b := by rw [hch]; exact up2_at _ _ _ _
  have hcqn : σ7.ch q (!d) = σ.ch q (!d) := by rw [hch]; exact up2_nd _ _ _ _ (by cases d <;> simp)
  have hcb : ∀ e, σ7.ch b e = none := fun e => by rw [hch, up2_ne _ _ _ _ hbq]; exact hbc e
  have tb : Tree σ7 (some q) (σ7.ch q d) [b] 1 := by
    rw [hcqd]
    refine Tree.node (l1 := []) (l2 := []) (h1 := 0) (h2 := 0) (by rw [hpar]; exact up_at _ _ _) ?_ ?_ (by rw [hh]; exact up_at _ _ _) (by omega) (by omega) (by omega)
    · rw [hcb]; exact Tree.nil _ _
    · rw [hcb]; exact Tree.nil _ _
  have ts' : Tree σ7 (some q) (σ7.ch q (!d)) ls ho := by
    rw [hcqn]
    exact ts.frame (fun y hy => fr y (mem y (.inl hy)).1 (mem y (.inl hy)).2)
  have ctx' : C σ7 n (σ7.par q) (some q) (σ7.h q) L' R' := by
    rw [hpq, hhq]
    exact C.frame (σ := σ) (σ' := σ7) hroot ctx (fun y hy => fr y (mem y (.inr hy)).1 (mem y (.inr hy)).2)
  have hLR : L ++ b :: R = L' ++ (cat d ls q [b] ++ R') := by
    rcases e5 with ⟨rfl, rfl, rfl⟩ | ⟨rfl, rfl, rfl⟩ <;> simp [cat]
  have hRB : RB σ7 n q (cat d ls q [b]) L' R' := by
    rcases e5 with ⟨rfl, rfl, rfl⟩ | ⟨rfl, rfl, rfl⟩
    · exact ⟨[b], ls, 1, ho, 0, ho, rfl, tb, ts', ctx', by rw [← hLR]; exact nd, by rw [hhq]; exact e2, e3, e4, .inr ⟨rfl, by omega, by omega⟩⟩
    · exact ⟨ls, [b], ho, 1, ho, 0, rfl, ts', tb, ctx', by rw [← hLR]; exact nd, by rw [hhq, e2]; omega, e4, e3, .inl ⟨rfl, by omega, by omega⟩⟩
  have hmem : ∀ y, y ∈ L ++ R → y ∈ L ++ b :: R := fun y hy => by
    rcases List.mem_append.1 hy with h | h <;> simp [h]
  have hcl : Cl σ7 (· ∈ L ++ b :: R) := by
    intro y hy
    by_cases hyb : y = b
    · subst hyb
      refine ⟨fun e k hk => ?_, fun k hk => ?_⟩
      · rw [hcb] at hk; cases hk
      · rw [hpar, up_at] at hk; cases hk; exact hmem q hqm
    · have hy' : y ∈ L ++ R := by
        simp at hy ⊢
        rcases hy with h | h | h
        · exact .inl h
        · exact absurd h hyb
        · exact .inr h
      refine ⟨fun e k hk => ?_, fun k hk => ?_⟩
      · rw [hch] at hk
        unfold up2 at hk
        split at hk
        · rename_i h9; cases hk; exact ⟨by simp, by rw [h9.1]; exact hbq⟩
        · exact ⟨hmem k ((hG.cl y hy').1 e k hk).1, ((hG.cl y hy').1 e k hk).2⟩
      · rw [hpar, up_ne _ _ _ hyb] at hk
        exact hmem k ((hG.cl y hy').2 k hk)
  have far : σ.nx q d = (if d then R.head? else L.getLast?) ∧ (if d then L.getLast? = some q else R.head? = some q) := by
    rcases e5 with ⟨rfl, rfl, rfl⟩ | ⟨rfl, rfl, rfl⟩
    · exact ⟨(hG.chain.1 L q (ls ++ R') (by simp)).1, by simp⟩
    · exact ⟨(hG.chain.1 (L' ++ ls) q R (by simp)).2, by simp⟩
  have dLR : ∀ x ∈ L, x ∉ R := fun x h1 h2 => nLR x h1 x (by simp [h2]) rfl
  have hfq : ∀ f, σ.nx q d = some f → f ∈ L ++ R ∧ f ≠ q ∧ f ≠ b := by
    intro f hf
    cases d
    · simp at far
      rw [far.1] at hf
      have hfL := last_mem hf
      refine ⟨by simp [hfL], fun e => dLR f hfL (by rw [e]; exact head_mem far.2), fun e => hbL (e ▸ hfL)⟩
    · simp at far
      rw [far.1] at hf
      have hfR := head_mem hf
      refine ⟨by simp [hfR], fun e => dLR f (by rw [e]; exact last_mem far.2) hfR, fun e => hbR (e ▸ hfR)⟩
  refine ⟨⟨_, _, _, hRB, hLR.symm⟩, hcl, ?_, hprice, hqm, e1, fun f hf => ⟨(hfq f hf).1, (hfq f hf).2.1⟩⟩
  have hqb : q ≠ b := Ne.symm hbq
  cases d
  · simp at far
    have hR0 : R ≠ [] := by intro e; rw [e] at far; simp at far
    cases hf : σ.nx q false with
    | none =>
      have hL0 : L = [] := by
        have := far.1
        rw [hf] at this
        exact List.getLast?_eq_none_iff.1 this.symm
      subst hL0
      rw [hf] at h7
      refine chain_insert hG.chain nd ?_ ?_ (fun x hx => by simp at hx) (fun x hx => ?_) (fun x hx h1 h2 e => ?_) ?_ ?_
      · rw [h7]; simp [setNx, setEnd, up2, setCh, setH, setPar, hbq]
      · rw [h7]; simp [setNx, setEnd, up2, setCh, setH, setPar, hbq]; exact far.2.symm
      · rw [far.2] at hx; cases hx
        rw [h7]; simp [setNx, setEnd, up2, setCh, setH, setPar, hqb]
      · have hxq : x ≠ q := fun e => h2 (by rw [e]; exact far.2)
        have hxb : x ≠ b := fun e => by subst e; simp at hx; exact hbR hx
        rw [h7]; simp [setNx, setEnd, up2, setCh, setH, setPar, hxq, hxb]
      · rw [h7]; simp [setNx, setEnd]
      · rw [h7, if_neg hR0]; simp [setNx, setEnd, setCh, setH, setPar]
    | some f =>
      obtain ⟨f1, f2, f3⟩ := hfq f hf
      have hLf : L.getLast? = some f := by rw [← far.1, hf]
      have hL0 : L ≠ [] := by intro e; rw [e] at hLf; simp at hLf
      rw [hf] at h7
      refine chain_insert hG.chain nd ?_ ?_ (fun x hx => ?_) (fun x hx => ?_) (fun x hx h1 h2 e => ?_) ?_ ?_
      · rw [h7, hLf]; simp [setNx, setEnd, up2, setCh, setH, setPar, hbq, Ne.symm f3]
      · rw [h7]; simp [setNx, setEnd, up2, setCh, setH, setPar, hbq, Ne.symm f3]; exact far.2.symm
      · rw [hLf] at hx; cases hx
        rw [h7]; simp [setNx, setEnd, up2, setCh, setH, setPar, f2, f3]
      · rw [far.2] at hx; cases hx
        rw [h7]; simp [setNx, setEnd, up2, setCh, setH, setPar, hqb, Ne.symm f2]
      · have hxq : x ≠ q := fun e => h2 (by rw [e]; exact far.2)
        have hxf : x ≠ f := fun e => h1 (by rw [e]; exact hLf)
        have hxb : x ≠ b := fun e => by subst e; rcases List.mem_append.1 hx with h | h; exact hbL h; exact hbR h
        rw [h7]; simp [setNx, setEnd, up2, setCh, setH, setPar, hxq, hxb, hxf]
      · rw [h7, if_neg hL0]; simp [setNx, setEnd, setCh, setH, setPar]
      · rw [h7, if_neg hR0]; simp [setNx, setEnd, setCh, setH, setPar]
  · simp at far
    have hL0 : L ≠ [] := by intro e; rw [e] at far; simp at far
    cases hf : σ.nx q true with
    | none =>
      have hR0 : R = [] := by
        have := far.1
        rw [hf] at this
        exact List.head?_eq_none_iff.1 this.symm
      subst hR0
      rw [hf] at h7
      refine chain_insert hG.chain nd ?_ ?_ (fun x hx => ?_) (fun x hx => by simp at hx) (fun x hx h1 h2 e => ?_) ?_ ?_
      · rw [h7]; simp [setNx, setEnd, up2, setCh, setH, setPar, hbq]; exact far.2.symm
      · rw [h7]; simp [setNx, setEnd, up2, setCh, setH, setPar, hbq]
      · rw [far.2] at hx; cases hx
        rw [h7]; simp [setNx, setEnd, up2, setCh, setH, setPar, hqb]
      · have hxq : x ≠ q := fun e => h1 (by rw [e]; exact far.2)
        have hxb : x ≠ b := fun e => by subst e; simp at hx; exact hbL hx
        rw [h7]; simp [setNx, setEnd, up2, setCh, setH, setPar, hxq, hxb]
      · rw [h7, if_neg hL0]; simp [setNx, setEnd, setCh, setH, setPar]
      · rw [h7]; simp [setNx, setEnd]
    | some f =>
      obtain ⟨f1, f2, f3⟩ := hfq f hf
      have hRf : R.head? = some f := by rw [← far.1, hf]
      have hR0 : R ≠ [] := by intro e; rw [e] at hRf; simp at hRf
      rw [hf] at h7
      refine chain_insert hG.chain nd ?_ ?_ (fun x hx => ?_) (fun x hx => ?_) (fun x hx h1 h2 e => ?_) ?_ ?_
      · rw [h7]; simp [setNx, setEnd, up2, setCh, setH, setPar, hbq, Ne.symm f3]; exact far.2.symm
      · rw [h7, hRf]; simp [setNx, setEnd, up2, setCh, setH, setPar, hbq, Ne.symm f3]
      · rw [far.2] at hx; cases hx
        rw [h7]; simp [setNx, setEnd, up2, setCh, setH, setPar, hqb, Ne.symm f2]
      · rw [hRf] at hx; cases hx
        rw [h7]; simp [setNx, setEnd, up2, setCh, setH, setPar, f2, f3]
      · have hxq : x ≠ q := fun e => h1 (by rw [e]; exact far.2)
        have hxf : x ≠ f := fun e => h2 (by rw [e]; exact hRf)
        have hxb : x ≠ b := fun e => by subst e; rcases List.mem_append.1 hx with h | h; exact hbL h; exact hbR h
        rw [h7]; simp [setNx, setEnd, up2, setCh, setH, setPar, hxq, hxb, hxf]
      · rw [h7, if_neg hL0]; simp [setNx, setEnd, setCh, setH, setPar]
      · rw [h7, if_neg hR0]; simp [setNx, setEnd, setCh, setH, setPar]

theorem sort_insert {σ : Sd} {L R : List Nat} {b : Nat} (h : (L ++ R).Pairwise fun x y => σ.price x < σ.price y) (hL : ∀ y ∈ L, σ.price y < σ.price b) (hR : ∀ y ∈ R, σ.price b < σ.price y) : (L ++ b :: R).Pairwise fun x y => σ.price x < σ.price y := by
  obtain ⟨h1, h2, h3⟩ := List.pairwise_append.1 h
  refine List.pairwise_append.2 ⟨h1, List.pairwise_cons.2 ⟨hR, h2⟩, fun x hx y hy => ?_⟩
  rcases List.mem_cons.1 hy with rfl | hy
  · exact hL x hx
  · exact h3 x hx y hy

section
variable {S : Sid} {ex : Nat → Nat → Value} {s0 : Value}
set_option maxRecDepth 100000 in
theorem link_any {W : World} {σ : Sd} {L R : List Nat} {b n : Nat} {p : Option Nat} {d : Bool} (h : Rep S (· ∈ L ++ b :: R) ex s0 W σ) (hG : Good σ (L ++ R)) (nd : (L ++ b :: R).Nodup) (hbc : ∀ e, σ.ch b e = none) (loc : Loc σ n p d none 0 L R) (hbn : ∀ e, σ.nx b e = none)
    (hL : ∀ y ∈ L, σ.price y < σ.price b) (hR : ∀ y ∈ R, σ.price b < σ.price y) (hlen : (L ++ b :: R).length < 2 ^ 20) :
    Calls Yba.prog 20 #[.pointer (some ⟨S.b, S.o, none⟩), .pointer (some ⟨b, 0, none⟩), .agg #[.pointer none, ptr p, wv d]] W fun e w' => e = .returned (.tuple #[]) ∧ ∃ σ', Rep S (· ∈ L ++ b :: R) ex s0 w' σ' ∧ Kp S (· ∈ L ++ b :: R) W w' ∧ Good σ' (L ++ b :: R) ∧ σ'.price = σ.price := by
  have hbm : b ∈ L ++ b :: R := by simp
  cases p with
  | some q =>
    obtain ⟨σ7, h7⟩ : ∃ σ7, σ7 = (let s := setNx (setNx (setNx (setCh (setH (setPar σ b (some q)) b 1) q d (some b)) b (!d) (some q)) b d (σ.nx q d)) q d (some b)
      match σ.nx q d with
      | none => setEnd s d (some b)
      | some f => setNx s f (!d) (some b)) := ⟨_, rfl⟩
    obtain ⟨⟨l', L', R', hRB, hl'⟩, hcl, hch, hpr, hqm, hcq, hfar⟩ := link_state hG nd hbc loc h7
    have hmem : ∀ y, y ∈ L ++ R → y ∈ L ++ b :: R := fun y hy => by
      rcases List.mem_append.1 hy with h | h <;> simp [h]
    obtain ⟨nL, nbR, nLR⟩ := List.nodup_append.1 nd
    have hbLR : b ∉ L ++ R := by
      intro hh
      rcases List.mem_append.1 hh with h | h
      · exact nLR b h b (by simp) rfl
      · exact (List.nodup_cons.1 nbR).1 h
    refine link_walk (P := fun σ' => Good σ' (L ++ b :: R) ∧ σ'.price = σ.price) d h hbm (hmem q hqm) (fun e => hbLR (e ▸ hqm)) hcq (fun f hf => ⟨hmem f (hfar f hf).1, fun e => hbLR (e ▸ (hfar f hf).1), (hfar f hf).2⟩) σ7 h7 (fun w1 r => ?_)
    refine (rebalance_any r hcl hlen hRB hl').mono ?_
    rintro e w' ⟨rfl, σ', r1, r2, r3, r4, r5, r6, r7⟩
    refine ⟨rfl, σ', r1, r2, ⟨r4, nd, r3, ?_, ?_⟩, r6.trans hpr⟩
    · unfold Chain; rw [r5, r7]; exact hch
    · rw [r6, hpr]; exact sort_insert hG.sort hL hR
  | none =>
    rcases loc with ⟨_, rfl, er, rfl, rfl⟩ | ⟨q', _, _, _, _, e, _⟩
    · show Calls Yba.prog 20 #[.pointer (some ⟨S.b, S.o, none⟩), .pointer (some ⟨b, 0, none⟩), .agg #[.pointer none, .pointer none, .int .i64 0]] W _
      have hBA : Below W.heap.size W (W.alloc (.cells #[.pointer none, .pointer none, .int .i64 0] 86)) := (Below.refl _ _).alloc (Nat.le_refl _) _
      have h' := h.over hBA
      have cb6 := h'.cell b hbm 6 (by omega)
      have cb9 := h'.cell b hbm 9 (by omega)
      have fb6 := h'.fz b hbm 6
      have fb9 := h'.fz b hbm 9
      have s1 := h'.side 1 (by omega)
      have s2 := h'.side 2 (by omega)
      have s3 := h'.side 3 (by omega)
      have f1 := h'.sfz (S.o + 1)
      have f2 := h'.sfz (S.o + 2)
      have f3 := h'.sfz (S.o + 3)
      have hbS := h'.ne b hbm
      go_enter Yba.func20, Yba.ntmps20
      go_wp2
      go_quiet (fail)
      go_wp2
      have hR9 := (((((h'.drewN nq).setPar hbm none).setH hbm 1).setRoot (some b)).setEnd false (some b)).setEnd true (some b)
      have hK9 := ((((((Kp.over (S := S) (D := (· ∈ [] ++ b :: [])) hBA).drewN nq).set hbm 6 (.pointer none)).set hbm 9 (.int .i8 1)).setS 1 (by omega) (.pointer (some ⟨b, 0, none⟩))).setS 2 (by omega) (.pointer (some ⟨b, 0, none⟩))).setS 3 (by omega) (.pointer (some ⟨b, 0, none⟩))
      refine bodyPost_ret (results_none rfl _ _ _) rfl ⟨rfl, _, hR9, hK9, ⟨⟨1, ?_⟩, nd, ?_, ⟨?_, rfl, rfl⟩, by simp⟩, rfl⟩
      · refine Tree.node (l1 := []) (l2 := []) (h1 := 0) (h2 := 0) ?_ ?_ ?_ ?_ (by omega) (by omega) (by omega)
        · show up σ.par b none b = none; exact up_at _ _ _
        · show Tree _ _ (σ.ch b false) _ _; rw [hbc]; exact Tree.nil _ _
        · show Tree _ _ (σ.ch b true) _ _; rw [hbc]; exact Tree.nil _ _
        · show up σ.h b 1 b = 1; exact up_at _ _ _
      · intro y hy
        have hy : y = b := by simpa using hy
        subst hy
        refine ⟨fun e k hk => ?_, fun k hk => ?_⟩
        · have hk : σ.ch y e = some k := hk
          rw [hbc] at hk; cases hk
        · have hk : up σ.par y none y = some k := hk
          rw [up_at] at hk; cases hk
      · intro A x B hAB
        have : A = [] ∧ x = b ∧ B = [] := by
          cases A with
          | nil => simp at hAB; exact ⟨rfl, hAB.1.symm, hAB.2⟩
          | cons a A => simp at hAB
        obtain ⟨rfl, rfl, rfl⟩ := this
        exact ⟨hbn false, hbn true⟩
    · cases e
end

end Go.Proofs.Ybulkjrk
