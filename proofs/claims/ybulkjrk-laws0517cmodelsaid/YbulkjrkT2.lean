/-
  OWN WORK: what replace, setHeight, lift and balance do to a side, as plain functions, and that balance mends the tree.
-/
import Derived.Test.YbulkjrkT1
namespace Go.Proofs.Ybulkjrk
set_option linter.unusedSimpArgs false
set_option linter.unusedVariables false

def setPar (σ : Sd) (x : Nat) (p : Option Nat) : Sd := { σ with par := up σ.par x p }
def setCh (σ : Sd) (x : Nat) (d : Bool) (c : Option Nat) : Sd := { σ with ch := up2 σ.ch x d c }
def setH (σ : Sd) (x : Nat) (h : Int) : Sd := { σ with h := up σ.h x h }
def setNx (σ : Sd) (x : Nat) (d : Bool) (c : Option Nat) : Sd := { σ with nx := up2 σ.nx x d c }
def setRoot (σ : Sd) (n : Option Nat) : Sd := { σ with root := n }
def setEnd (σ : Sd) (d : Bool) (n : Option Nat) : Sd := { σ with ends := fun e => if e = d then n else σ.ends e }
def hgt (σ : Sd) : Option Nat → Int
  | none => 0
  | some x => σ.h x
def fixH (σ : Sd) (x : Nat) : Sd := setH σ x (1 + max (hgt σ (σ.ch x false)) (hgt σ (σ.ch x true)))
def parTo (σ : Sd) (n p : Option Nat) : Sd :=
  match n with
  | none => σ
  | some x => setPar σ x p
def repl (σ : Sd) (o : Nat) (n : Option Nat) : Sd :=
  match σ.par o with
  | none => setRoot (parTo σ n none) n
  | some p => if σ.ch p false = some o then setCh (parTo σ n (some p)) p false n else setCh (parTo σ n (some p)) p true n
def lift (σ : Sd) (x c : Nat) (w : Bool) : Sd :=
  fixH (fixH (setPar (setCh (repl (parTo (setCh σ x w (σ.ch c (!w))) (σ.ch c (!w)) (some x)) x (some c)) c (!w) (some x)) x (some c)) x) c
def rot (σ : Sd) (x c : Nat) (w : Bool) : Sd × Nat :=
  if hgt σ (σ.ch c w) < hgt σ (σ.ch c (!w)) then
    match σ.ch c (!w) with
    | some i => (lift (lift σ c i (!w)) x i w, i)
    | none => (σ, x)
  else (lift σ x c w, c)
def bal (σ : Sd) (x : Nat) : Sd × Nat :=
  if 1 < hgt σ (σ.ch x true) - hgt σ (σ.ch x false) then
    match σ.ch x true with
    | some c => rot σ x c true
    | none => (σ, x)
  else if 1 < hgt σ (σ.ch x false) - hgt σ (σ.ch x true) then
    match σ.ch x false with
    | some c => rot σ x c false
    | none => (σ, x)
  else (fixH σ x, x)

/-- x hangs where its parent says. -/
def Under (σ : Sd) (x : Nat) : Prop := (σ.par x = none ∧ σ.root = some x) ∨ ∃ q d, σ.par x = some q ∧ q ≠ x ∧ σ.ch q d = some x ∧ σ.ch q (!d) ≠ some x

theorem parTo_ch (σ : Sd) (n p) : (parTo σ n p).ch = σ.ch := by cases n <;> rfl
theorem parTo_h (σ : Sd) (n p) : (parTo σ n p).h = σ.h := by cases n <;> rfl
theorem parTo_root (σ : Sd) (n p) : (parTo σ n p).root = σ.root := by cases n <;> rfl
theorem parTo_par (σ : Sd) (n p : Option Nat) (k : Nat) : (parTo σ n p).par k = if n = some k then p else σ.par k := by
  cases n with
  | none => rfl
  | some x =>
    show up σ.par x p k = _
    unfold up
    by_cases e : k = x
    · subst e; simp
    · rw [if_neg e, if_neg (fun h => e (by cases h; rfl))]
theorem parTo_rest (σ : Sd) (n p) : (parTo σ n p).nx = σ.nx ∧ (parTo σ n p).price = σ.price ∧ (parTo σ n p).ends = σ.ends := by cases n <;> exact ⟨rfl, rfl, rfl⟩

theorem repl_par (σ : Sd) (o : Nat) (n : Option Nat) (k : Nat) : (repl σ o n).par k = if n = some k then σ.par o else σ.par k := by
  unfold repl
  cases hp : σ.par o with
  | none => exact parTo_par _ _ _ _
  | some p => dsimp only; split <;> exact parTo_par _ _ _ _
theorem repl_h (σ : Sd) (o : Nat) (n : Option Nat) : (repl σ o n).h = σ.h := by
  unfold repl
  cases hp : σ.par o with
  | none => exact parTo_h _ _ _
  | some p => dsimp only; split <;> exact parTo_h _ _ _
theorem repl_rest (σ : Sd) (o : Nat) (n : Option Nat) : (repl σ o n).nx = σ.nx ∧ (repl σ o n).price = σ.price ∧ (repl σ o n).ends = σ.ends := by
  unfold repl
  cases hp : σ.par o with
  | none => exact parTo_rest _ _ _
  | some p => dsimp only; split <;> exact parTo_rest _ _ _
theorem repl_root (σ : Sd) (o : Nat) (n : Option Nat) : (repl σ o n).root = if σ.par o = none then n else σ.root := by
  unfold repl
  cases hp : σ.par o with
  | none => rfl
  | some p => dsimp only; split <;> simp [setCh, parTo_root]
theorem repl_ch {σ : Sd} {o : Nat} (n : Option Nat) (hu : Under σ o) (k : Nat) (e : Bool) : (repl σ o n).ch k e = if σ.par o = some k ∧ σ.ch k e = some o then n else σ.ch k e := by
  unfold repl
  rcases hu with ⟨hp, hr⟩ | ⟨q, d, hp, hq, h1, h2⟩
  · rw [hp]; simp [setRoot, parTo_ch]
  · rw [hp]; dsimp only
    by_cases hd : σ.ch q false = some o
    · rw [if_pos hd]
      have : d = false := by cases d with
        | false => rfl
        | true => exact absurd hd h2
      subst this
      simp only [setCh, parTo_ch, up2]
      by_cases hk : k = q
      · subst hk
        cases e with
        | false => simp [hd]
        | true => simp at h2; simp [h2]
      · rw [if_neg (by simp [hk]), if_neg (by rintro ⟨h3, _⟩; cases h3; exact hk rfl)]
    · rw [if_neg hd]
      have : d = true := by cases d with
        | true => rfl
        | false => exact absurd h1 hd
      subst this
      simp only [setCh, parTo_ch, up2]
      by_cases hk : k = q
      · subst hk
        cases e with
        | true => simp [h1]
        | false => simp [hd]
      · rw [if_neg (by simp [hk]), if_neg (by rintro ⟨h3, _⟩; cases h3; exact hk rfl)]

/-- What a lift leaves. -/
theorem lift_spec {σ : Sd} {x c : Nat} {w : Bool} (hx : σ.ch x w = some c) (hxc : x ≠ c) (hu : Under σ x) (hpc : σ.par x ≠ some c) (hpx : σ.par x ≠ some x) (hcx : σ.ch c (!w) ≠ some x) (hcc : σ.ch c (!w) ≠ some c)
    (hwx : σ.ch c w ≠ some x) (hwc : σ.ch c w ≠ some c) (hax : σ.ch x (!w) ≠ some x) (hac : σ.ch x (!w) ≠ some c) (hpi : σ.par x ≠ none → σ.ch c (!w) ≠ σ.par x) :
    (∀ k e, (lift σ x c w).ch k e = if k = c ∧ e = !w then some x else if k = x ∧ e = w then σ.ch c (!w) else if σ.par x = some k ∧ σ.ch k e = some x then some c else σ.ch k e) ∧
    (∀ k, (lift σ x c w).par k = if k = x then some c else if k = c then σ.par x else if σ.ch c (!w) = some k then some x else σ.par k) ∧
    (∀ k, (lift σ x c w).h k = if k = c then 1 + max (1 + max (hgt σ (σ.ch x (!w))) (hgt σ (σ.ch c (!w)))) (hgt σ (σ.ch c w)) else if k = x then 1 + max (hgt σ (σ.ch x (!w))) (hgt σ (σ.ch c (!w))) else σ.h k) ∧
    (lift σ x c w).root = (if σ.par x = none then some c else σ.root) ∧ (lift σ x c w).nx = σ.nx ∧ (lift σ x c w).price = σ.price ∧ (lift σ x c w).ends = σ.ends := by
  unfold lift
  obtain ⟨s1, hs1⟩ : ∃ s1, s1 = parTo (setCh σ x w (σ.ch c (!w))) (σ.ch c (!w)) (some x) := ⟨_, rfl⟩
  rw [← hs1]
  have c1 : ∀ k e, s1.ch k e = if k = x ∧ e = w then σ.ch c (!w) else σ.ch k e := by intro k e; rw [hs1, parTo_ch]; rfl
  have p1 : ∀ k, s1.par k = if σ.ch c (!w) = some k then some x else σ.par k := by intro k; rw [hs1, parTo_par]; rfl
  have h1 : s1.h = σ.h := by rw [hs1, parTo_h]; rfl
  have r1 : s1.root = σ.root := by rw [hs1, parTo_root]; rfl
  have n1 : s1.nx = σ.nx ∧ s1.price = σ.price ∧ s1.ends = σ.ends := by rw [hs1]; exact parTo_rest _ _ _
  clear hs1
  have px : s1.par x = σ.par x := by rw [p1, if_neg hcx]
  have u1 : Under s1 x := by
    rcases hu with ⟨a, b⟩ | ⟨q, d, a, b, e, f⟩
    · exact .inl ⟨px.trans a, r1.trans b⟩
    · exact .inr ⟨q, d, px.trans a, b, by rw [c1, if_neg (by simp [b])]; exact e, by rw [c1, if_neg (by simp [b])]; exact f⟩
  obtain ⟨s2, hs2⟩ : ∃ s2, s2 = repl s1 x (some c) := ⟨_, rfl⟩
  rw [← hs2]
  have c2 : ∀ k e, s2.ch k e = if k = x ∧ e = w then σ.ch c (!w) else if σ.par x = some k ∧ σ.ch k e = some x then some c else σ.ch k e := by
    intro k e
    rw [hs2, repl_ch _ u1, px, c1]
    by_cases hk : k = x ∧ e = w
    · obtain ⟨rfl, rfl⟩ := hk
      rw [if_neg (by rintro ⟨a, _⟩; exact hpx a)]
      simp
    · rw [if_neg hk, if_neg hk]
  have p2 : ∀ k, s2.par k = if k = c then σ.par x else if σ.ch c (!w) = some k then some x else σ.par k := by
    intro k
    rw [hs2, repl_par, px, p1]
    by_cases hk : k = c
    · subst hk; simp
    · rw [if_neg (fun e => hk (by cases e; rfl)), if_neg hk]
  have h2 : s2.h = σ.h := by rw [hs2, repl_h, h1]
  have r2 : s2.root = if σ.par x = none then some c else σ.root := by rw [hs2, repl_root, px, r1]
  have n2 : s2.nx = σ.nx ∧ s2.price = σ.price ∧ s2.ends = σ.ends := by rw [hs2]; have := repl_rest s1 x (some c); exact ⟨this.1.trans n1.1, this.2.1.trans n1.2.1, this.2.2.trans n1.2.2⟩
  clear hs2 u1 c1 p1 h1 r1 n1 px
  obtain ⟨s3, hs3⟩ : ∃ s3, s3 = setPar (setCh s2 c (!w) (some x)) x (some c) := ⟨_, rfl⟩
  rw [← hs3]
  have c3 : ∀ k e, s3.ch k e = if k = c ∧ e = !w then some x else if k = x ∧ e = w then σ.ch c (!w) else if σ.par x = some k ∧ σ.ch k e = some x then some c else σ.ch k e := by
    intro k e; rw [← c2, hs3]; rfl
  have p3 : ∀ k, s3.par k = if k = x then some c else if k = c then σ.par x else if σ.ch c (!w) = some k then some x else σ.par k := by
    intro k; rw [← p2, hs3]; rfl
  have h3 : s3.h = σ.h := by rw [hs3]; exact h2
  have r3 : s3.root = if σ.par x = none then some c else σ.root := by rw [hs3]; exact r2
  have n3 : s3.nx = σ.nx ∧ s3.price = σ.price ∧ s3.ends = σ.ends := by rw [hs3]; exact n2
  clear hs3 c2 p2 h2 r2 n2
  have hg3 : ∀ n, hgt s3 n = hgt σ n := by intro n; cases n with
    | none => rfl
    | some y => show s3.h y = σ.h y; rw [h3]
  have mx : ∀ a b : Int, max a b = max b a := fun a b => by omega
  have hxn : s3.ch x (!w) = σ.ch x (!w) := by
    rw [c3, if_neg (by simp [hxc]), if_neg (by simp), if_neg (by rintro ⟨a, _⟩; exact hpx a)]
  have hxw : s3.ch x w = σ.ch c (!w) := by
    rw [c3, if_neg (by simp [hxc]), if_pos ⟨rfl, rfl⟩]
  have hcn : s3.ch c (!w) = some x := by rw [c3, if_pos ⟨rfl, rfl⟩]
  have hcw : s3.ch c w = σ.ch c w := by
    rw [c3, if_neg (by simp), if_neg (by simp [Ne.symm hxc]), if_neg (by rintro ⟨a, _⟩; exact hpc a)]
  have hfx : max (hgt s3 (s3.ch x false)) (hgt s3 (s3.ch x true)) = max (hgt σ (σ.ch x (!w))) (hgt σ (σ.ch c (!w))) := by
    cases w with
    | true => simp only [Bool.not_true] at hxn hxw ⊢; rw [hxn, hxw, hg3, hg3]
    | false => simp only [Bool.not_false] at hxn hxw ⊢; rw [hxn, hxw, hg3, hg3, mx]
  obtain ⟨s4, hs4⟩ : ∃ s4, s4 = fixH s3 x := ⟨_, rfl⟩
  rw [← hs4]
  have h4 : ∀ k, s4.h k = if k = x then 1 + max (hgt σ (σ.ch x (!w))) (hgt σ (σ.ch c (!w))) else σ.h k := by
    intro k; rw [hs4]; show up s3.h x _ k = _; rw [hfx, h3]; rfl
  have c4 : s4.ch = s3.ch := by rw [hs4]; rfl
  have e4 : s4.par = s3.par ∧ s4.root = s3.root ∧ s4.nx = s3.nx ∧ s4.price = s3.price ∧ s4.ends = s3.ends := by rw [hs4]; exact ⟨rfl, rfl, rfl, rfl, rfl⟩
  have hg4 : hgt s4 (s4.ch c w) = hgt σ (σ.ch c w) := by
    rw [c4, hcw]
    cases hc : σ.ch c w with
    | none => rfl
    | some y => show s4.h y = σ.h y; rw [h4, if_neg (by intro e; subst e; exact hwx hc)]
  have hg5 : hgt s4 (s4.ch c (!w)) = 1 + max (hgt σ (σ.ch x (!w))) (hgt σ (σ.ch c (!w))) := by
    rw [c4, hcn]; show s4.h x = _; rw [h4, if_pos rfl]
  have hfc : max (hgt s4 (s4.ch c false)) (hgt s4 (s4.ch c true)) = max (1 + max (hgt σ (σ.ch x (!w))) (hgt σ (σ.ch c (!w)))) (hgt σ (σ.ch c w)) := by
    cases w with
    | true => simp only [Bool.not_true] at hg4 hg5 ⊢; rw [hg4, hg5]
    | false => simp only [Bool.not_false] at hg4 hg5 ⊢; rw [hg4, hg5, mx]
  refine ⟨fun k e => ?_, fun k => ?_, fun k => ?_, ?_, ?_, ?_, ?_⟩
  · show s4.ch k e = _; rw [c4, c3]
  · show s4.par k = _; rw [e4.1, p3]
  · show up s4.h c _ k = _; rw [hfc]; unfold up; rw [h4]
  · exact e4.2.1.trans r3
  · exact e4.2.2.1.trans n3.1
  · exact e4.2.2.2.1.trans n3.2.1
  · exact e4.2.2.2.2.trans n3.2.2

end Go.Proofs.Ybulkjrk
