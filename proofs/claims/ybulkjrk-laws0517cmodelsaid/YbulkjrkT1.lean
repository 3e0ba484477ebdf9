/-
  OWN WORK for LawS0517AInsert / ADelete: the tree and the chain of a side as plain functions on block numbers; the plain laws.
-/
import Derived.Test.YbulkjrkK
namespace Go.Proofs.Ybulkjrk
set_option linter.unusedSimpArgs false
set_option linter.unusedVariables false

/-- A side with its levels, as the tree and the chain see them: false is the lower way. -/
structure Sd where
  price : Nat → Int
  ch : Nat → Bool → Option Nat
  par : Nat → Option Nat
  h : Nat → Int
  nx : Nat → Bool → Option Nat
  root : Option Nat
  ends : Bool → Option Nat

def up {α : Type} (f : Nat → α) (b : Nat) (x : α) : Nat → α := fun k => if k = b then x else f k
def up2 {α : Type} (f : Nat → Bool → α) (b : Nat) (d : Bool) (x : α) : Nat → Bool → α := fun k e => if k = b ∧ e = d then x else f k e
theorem up_at {α : Type} (f : Nat → α) (b : Nat) (x : α) : up f b x b = x := by simp [up]
theorem up_ne {α : Type} (f : Nat → α) (b : Nat) (x : α) {k : Nat} (h : k ≠ b) : up f b x k = f k := by simp [up, h]
theorem up2_at {α : Type} (f : Nat → Bool → α) (b : Nat) (d : Bool) (x : α) : up2 f b d x b d = x := by simp [up2]
theorem up2_ne {α : Type} (f : Nat → Bool → α) (b : Nat) (d : Bool) (x : α) {k : Nat} {e : Bool} (h : k ≠ b) : up2 f b d x k e = f k e := by simp [up2, h]
theorem up2_nd {α : Type} (f : Nat → Bool → α) (b : Nat) (d : Bool) (x : α) {k : Nat} {e : Bool} (h : e ≠ d) : up2 f b d x k e = f k e := by simp [up2, h]

/-- The subtree at b under par: its levels in order, its height; balanced, with true heights and parents. -/
def T (σ : Sd) : Nat → Option Nat → Option Nat → List Nat → Int → Prop
  | 0, _, b, l, h => b = none ∧ l = [] ∧ h = 0
  | n + 1, par, b, l, h => (b = none ∧ l = [] ∧ h = 0) ∨ ∃ x l1 l2 h1 h2, b = some x ∧ σ.par x = par ∧ T σ n (some x) (σ.ch x false) l1 h1 ∧ T σ n (some x) (σ.ch x true) l2 h2 ∧ l = l1 ++ x :: l2 ∧ σ.h x = h ∧ h = 1 + max h1 h2 ∧ h1 - h2 ≤ 1 ∧ h2 - h1 ≤ 1

theorem T.more {σ : Sd} {n : Nat} : ∀ {par b l h}, T σ n par b l h → T σ (n + 1) par b l h := by
  induction n with
  | zero => intro par b l h ht; exact .inl ht
  | succ n ih =>
    intro par b l h ht
    rcases ht with ht | ⟨x, l1, l2, h1, h2, e1, e2, t1, t2, e3⟩
    · exact .inl ht
    · exact .inr ⟨x, l1, l2, h1, h2, e1, e2, ih t1, ih t2, e3⟩
theorem T.le {σ : Sd} {n m : Nat} (hnm : n ≤ m) {par b l h} (ht : T σ n par b l h) : T σ m par b l h := by
  induction hnm with
  | refl => exact ht
  | step _ ih => exact ih.more

def Tree (σ : Sd) (par b : Option Nat) (l : List Nat) (h : Int) : Prop := ∃ n, T σ n par b l h

theorem Tree.nil (σ : Sd) (par : Option Nat) : Tree σ par none [] 0 := ⟨0, rfl, rfl, rfl⟩
theorem Tree.node {σ : Sd} {par : Option Nat} {x : Nat} {l1 l2 : List Nat} {h1 h2 h : Int} (hp : σ.par x = par) (t1 : Tree σ (some x) (σ.ch x false) l1 h1) (t2 : Tree σ (some x) (σ.ch x true) l2 h2) (hh : σ.h x = h) (he : h = 1 + max h1 h2) (a : h1 - h2 ≤ 1) (b : h2 - h1 ≤ 1) :
    Tree σ par (some x) (l1 ++ x :: l2) h := by
  obtain ⟨n1, t1⟩ := t1
  obtain ⟨n2, t2⟩ := t2
  exact ⟨max n1 n2 + 1, .inr ⟨x, l1, l2, h1, h2, rfl, hp, t1.le (Nat.le_max_left _ _), t2.le (Nat.le_max_right _ _), rfl, hh, he, a, b⟩⟩
theorem Tree.isN {σ : Sd} {par : Option Nat} {l : List Nat} {h : Int} (t : Tree σ par none l h) : l = [] ∧ h = 0 := by
  obtain ⟨n, t⟩ := t
  cases n with
  | zero => exact t.2
  | succ n =>
    rcases t with t | ⟨x, l1, l2, h1, h2, e1, _⟩
    · exact t.2
    · cases e1
theorem Tree.isS {σ : Sd} {par : Option Nat} {x : Nat} {l : List Nat} {h : Int} (t : Tree σ par (some x) l h) :
    ∃ l1 l2 h1 h2, σ.par x = par ∧ Tree σ (some x) (σ.ch x false) l1 h1 ∧ Tree σ (some x) (σ.ch x true) l2 h2 ∧ l = l1 ++ x :: l2 ∧ σ.h x = h ∧ h = 1 + max h1 h2 ∧ h1 - h2 ≤ 1 ∧ h2 - h1 ≤ 1 := by
  obtain ⟨n, t⟩ := t
  cases n with
  | zero => cases t.1
  | succ n =>
    rcases t with t | ⟨y, l1, l2, h1, h2, e1, e2, t1, t2, e3⟩
    · cases t.1
    · cases e1; exact ⟨l1, l2, h1, h2, e2, ⟨n, t1⟩, ⟨n, t2⟩, e3⟩
/-- Induction over a subtree. -/
theorem Tree.ind {σ : Sd} {P : Option Nat → Option Nat → List Nat → Int → Prop} (h0 : ∀ par, P par none [] 0)
    (h1 : ∀ par x l1 l2 h1 h2 h, σ.par x = par → Tree σ (some x) (σ.ch x false) l1 h1 → Tree σ (some x) (σ.ch x true) l2 h2 → σ.h x = h → h = 1 + max h1 h2 → h1 - h2 ≤ 1 → h2 - h1 ≤ 1 → P (some x) (σ.ch x false) l1 h1 → P (some x) (σ.ch x true) l2 h2 → P par (some x) (l1 ++ x :: l2) h)
    {par b l h} (t : Tree σ par b l h) : P par b l h := by
  obtain ⟨n, t⟩ := t
  induction n generalizing par b l h with
  | zero => obtain ⟨rfl, rfl, rfl⟩ := t; exact h0 _
  | succ n ih =>
    rcases t with ⟨rfl, rfl, rfl⟩ | ⟨x, l1, l2, g1, g2, rfl, e2, t1, t2, rfl, e4, e5, e6, e7⟩
    · exact h0 _
    · exact h1 _ _ _ _ _ _ _ e2 ⟨n, t1⟩ ⟨n, t2⟩ e4 e5 e6 e7 (ih t1) (ih t2)

theorem Tree.frame {σ σ' : Sd} {par b l h} (t : Tree σ par b l h) : (∀ x ∈ l, σ'.ch x = σ.ch x ∧ σ'.par x = σ.par x ∧ σ'.h x = σ.h x) → Tree σ' par b l h := by
  refine Tree.ind (σ := σ) (P := fun par b l h => (∀ x ∈ l, σ'.ch x = σ.ch x ∧ σ'.par x = σ.par x ∧ σ'.h x = σ.h x) → Tree σ' par b l h) (fun _ _ => Tree.nil _ _) ?_ t
  intro par x l1 l2 h1 h2 h e1 t1 t2 e2 e3 e4 e5 i1 i2 hf
  have hx := hf x (by simp)
  refine Tree.node (hx.2.1.trans e1) ?_ ?_ (hx.2.2.trans e2) e3 e4 e5
  · rw [hx.1]; exact i1 (fun y hy => hf y (by simp [hy]))
  · rw [hx.1]; exact i2 (fun y hy => hf y (by simp [hy]))
theorem Tree.mem {σ : Sd} {par : Option Nat} {x : Nat} {l : List Nat} {h : Int} (t : Tree σ par (some x) l h) : x ∈ l := by
  obtain ⟨l1, l2, h1, h2, _, _, _, rfl, _⟩ := t.isS
  simp
/-- The subtree hung elsewhere. -/
theorem Tree.move {σ σ' : Sd} {par par' b l h} (t : Tree σ par b l h) (nd : l.Nodup) (hc : ∀ x ∈ l, σ'.ch x = σ.ch x ∧ σ'.h x = σ.h x) (hp : ∀ x ∈ l, b ≠ some x → σ'.par x = σ.par x) (hn : ∀ x, b = some x → σ'.par x = par') : Tree σ' par' b l h := by
  cases b with
  | none => obtain ⟨rfl, rfl⟩ := t.isN; exact Tree.nil _ _
  | some x =>
    obtain ⟨l1, l2, h1, h2, e1, t1, t2, rfl, e2, e3, e4, e5⟩ := t.isS
    have hx := hc x (by simp)
    have nd' := List.nodup_append.1 nd
    have nd2 := List.nodup_cons.1 nd'.2.1
    have n1 : ∀ y ∈ l1, y ≠ x := fun y hy => nd'.2.2 y hy x (by simp)
    have n2 : ∀ y ∈ l2, y ≠ x := fun y hy e => nd2.1 (e ▸ hy)
    refine Tree.node (hn x rfl) ?_ ?_ (hx.2.trans e2) e3 e4 e5
    · rw [hx.1]
      exact t1.frame (fun y hy => ⟨(hc y (by simp [hy])).1, hp y (by simp [hy]) (fun e => n1 y hy (by cases e; rfl)), (hc y (by simp [hy])).2⟩)
    · rw [hx.1]
      exact t2.frame (fun y hy => ⟨(hc y (by simp [hy])).1, hp y (by simp [hy]) (fun e => n2 y hy (by cases e; rfl)), (hc y (by simp [hy])).2⟩)
theorem Tree.pos {σ : Sd} {par b l h} (t : Tree σ par b l h) : 0 ≤ h := by
  refine Tree.ind (σ := σ) (P := fun par b l h => 0 ≤ h) (fun _ => Int.le_refl _) ?_ t
  intro par x l1 l2 h1 h2 h e1 t1 t2 e2 e3 e4 e5 i1 i2
  omega
/-- A balanced tree is flat. -/
theorem Tree.flat {σ : Sd} {par b l h} (t : Tree σ par b l h) : ∀ n : Nat, (2 * n : Int) ≤ h → 2 ^ n ≤ l.length + 1 := by
  refine Tree.ind (σ := σ) (P := fun par b l h => ∀ n : Nat, (2 * n : Int) ≤ h → 2 ^ n ≤ l.length + 1) ?_ ?_ t
  · intro _ n hn
    have : n = 0 := by omega
    subst this; simp
  · intro par x l1 l2 h1 h2 h e1 t1 t2 e2 e3 e4 e5 i1 i2 n hn
    cases n with
    | zero => simp
    | succ n =>
      have a1 := i1 n (by omega)
      have a2 := i2 n (by omega)
      rw [Nat.pow_succ]
      simp only [List.length_append, List.length_cons]
      omega
theorem Tree.low {σ : Sd} {par b l h} (t : Tree σ par b l h) (hl : l.length < 2 ^ 20) : h ≤ 41 := by
  rcases Int.lt_or_le 41 h with hh | hh
  · have := t.flat 21 (by omega)
    omega
  · exact hh

/-- What stands around a subtree: p is its parent, was the height that its ancestors count with, L and R the levels before and behind it. -/
def C (σ : Sd) : Nat → Option Nat → Option Nat → Int → List Nat → List Nat → Prop
  | 0, _, _, _, _, _ => False
  | n + 1, p, hole, was, L, R => (p = none ∧ σ.root = hole ∧ L = [] ∧ R = []) ∨ ∃ q d ls ho L' R', p = some q ∧ σ.ch q d = hole ∧ Tree σ (some q) (σ.ch q (!d)) ls ho ∧ σ.h q = 1 + max was ho ∧ was - ho ≤ 1 ∧ ho - was ≤ 1 ∧ C σ n (σ.par q) (some q) (σ.h q) L' R' ∧ (d = false ∧ L = L' ∧ R = q :: (ls ++ R') ∨ d = true ∧ L = L' ++ (ls ++ [q]) ∧ R = R')

theorem C.plug {σ : Sd} {n : Nat} : ∀ {p hole was L R l}, C σ n p hole was L R → Tree σ p hole l was → ∃ h, Tree σ none σ.root (L ++ (l ++ R)) h := by
  induction n with
  | zero => intro p hole was L R l c; exact c.elim
  | succ n ih =>
    intro p hole was L R l c t
    rcases c with ⟨rfl, e, rfl, rfl⟩ | ⟨q, d, ls, ho, L', R', rfl, e1, ts, e2, e3, e4, c, e5⟩
    · subst e; exact ⟨was, by simpa using t⟩
    · subst e1
      rcases e5 with ⟨rfl, rfl, rfl⟩ | ⟨rfl, rfl, rfl⟩
      · obtain ⟨h, th⟩ := ih c (Tree.node rfl t ts rfl e2 e3 e4)
        exact ⟨h, by simpa using th⟩
      · obtain ⟨h, th⟩ := ih c (Tree.node rfl ts t rfl (by rw [e2]; omega) e4 e3)
        exact ⟨h, by simpa using th⟩
theorem C.frame {σ σ' : Sd} {n : Nat} (hr : σ'.root = σ.root) : ∀ {p hole was L R}, C σ n p hole was L R → (∀ x, x ∈ L ∨ x ∈ R → σ'.ch x = σ.ch x ∧ σ'.par x = σ.par x ∧ σ'.h x = σ.h x) → C σ' n p hole was L R := by
  induction n with
  | zero => intro p hole was L R c; exact c.elim
  | succ n ih =>
    intro p hole was L R c hf
    rcases c with ⟨rfl, e, rfl, rfl⟩ | ⟨q, d, ls, ho, L', R', rfl, e1, ts, e2, e3, e4, c, e5⟩
    · exact .inl ⟨rfl, hr.trans e, rfl, rfl⟩
    · have hq : σ'.ch q = σ.ch q ∧ σ'.par q = σ.par q ∧ σ'.h q = σ.h q := hf q (by rcases e5 with ⟨rfl, rfl, rfl⟩ | ⟨rfl, rfl, rfl⟩ <;> simp)
      have hs : ∀ x ∈ ls, σ'.ch x = σ.ch x ∧ σ'.par x = σ.par x ∧ σ'.h x = σ.h x := fun x hx => hf x (by rcases e5 with ⟨rfl, rfl, rfl⟩ | ⟨rfl, rfl, rfl⟩ <;> simp [hx])
      have hc : ∀ x, x ∈ L' ∨ x ∈ R' → σ'.ch x = σ.ch x ∧ σ'.par x = σ.par x ∧ σ'.h x = σ.h x := fun x hx => hf x (by rcases e5 with ⟨rfl, rfl, rfl⟩ | ⟨rfl, rfl, rfl⟩ <;> (simp; rcases hx with hx | hx <;> simp [hx]))
      exact .inr ⟨q, d, ls, ho, L', R', rfl, by rw [hq.1, e1], by rw [hq.1]; exact ts.frame hs, by rw [hq.2.2, e2], e3, e4, by rw [hq.2.1, hq.2.2]; exact ih c hc, e5⟩

end Go.Proofs.Ybulkjrk
