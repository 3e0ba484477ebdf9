/-
  OWN WORK: balance mends the tree (plain).
-/
import Derived.Test.YbulkjrkT2
namespace Go.Proofs.Ybulkjrk
set_option linter.unusedSimpArgs false
set_option linter.unusedVariables false

/-- a on the way !d of x, b on the way d. -/
def cat (d : Bool) (a : List Nat) (x : Nat) (b : List Nat) : List Nat := if d = true then a ++ x :: b else b ++ x :: a
theorem mem_cat {d : Bool} {a : List Nat} {x : Nat} {b : List Nat} {y : Nat} : y ∈ cat d a x b ↔ y ∈ a ∨ y = x ∨ y ∈ b := by
  unfold cat
  split
  · simp
  · simp; constructor
    · rintro (h | h | h) <;> simp [h]
    · rintro (h | h | h) <;> simp [h]
theorem nodup_cat {d : Bool} {a : List Nat} {x : Nat} {b : List Nat} : (cat d a x b).Nodup ↔ a.Nodup ∧ b.Nodup ∧ x ∉ a ∧ x ∉ b ∧ ∀ y ∈ a, y ∉ b := by
  have key : ∀ a b : List Nat, (a ++ x :: b).Nodup ↔ a.Nodup ∧ b.Nodup ∧ x ∉ a ∧ x ∉ b ∧ ∀ y ∈ a, y ∉ b := by
    intro a b
    rw [List.nodup_append, List.nodup_cons]
    constructor
    · rintro ⟨h1, ⟨h2, h3⟩, h4⟩
      exact ⟨h1, h3, fun h => h4 x h x (by simp) rfl, h2, fun y hy hb => h4 y hy y (by simp [hb]) rfl⟩
    · rintro ⟨h1, h2, h3, h4, h5⟩
      refine ⟨h1, ⟨h4, h2⟩, fun y hy z hz e => ?_⟩
      subst e
      rcases List.mem_cons.1 hz with h | h
      · subst h; exact h3 hy
      · exact h5 y hy h
  unfold cat
  split
  · exact key a b
  · rw [key b a]
    constructor
    · rintro ⟨h1, h2, h3, h4, h5⟩; exact ⟨h2, h1, h4, h3, fun y hy hb => h5 y hb hy⟩
    · rintro ⟨h1, h2, h3, h4, h5⟩; exact ⟨h2, h1, h4, h3, fun y hy hb => h5 y hb hy⟩
theorem cat_assoc (w : Bool) (a b c : List Nat) (x y : Nat) : cat w a x (cat w b y c) = cat w (cat w a x b) y c := by
  cases w <;> simp [cat]
theorem cat_inner (w : Bool) (b c : List Nat) (i y : Nat) (d : List Nat) : cat w (cat w b i c) y d = cat w b i (cat w c y d) := by
  cases w <;> simp [cat]
theorem cat_flip (w : Bool) (a b : List Nat) (x : Nat) : cat (!w) a x b = cat w b x a := by
  cases w <;> simp [cat]

theorem Tree.node' {σ : Sd} {par : Option Nat} {x : Nat} {d : Bool} {la lb : List Nat} {ha hb h : Int} (hp : σ.par x = par) (ta : Tree σ (some x) (σ.ch x (!d)) la ha) (tb : Tree σ (some x) (σ.ch x d) lb hb) (hh : σ.h x = h) (he : h = 1 + max ha hb) (a : ha - hb ≤ 1) (b : hb - ha ≤ 1) :
    Tree σ par (some x) (cat d la x lb) h := by
  cases d with
  | true => exact Tree.node hp ta tb hh he a b
  | false => exact Tree.node hp tb ta hh (by omega) b a
theorem Tree.isS' {σ : Sd} {par : Option Nat} {x : Nat} {l : List Nat} {h : Int} (d : Bool) (t : Tree σ par (some x) l h) :
    ∃ la lb ha hb, σ.par x = par ∧ Tree σ (some x) (σ.ch x (!d)) la ha ∧ Tree σ (some x) (σ.ch x d) lb hb ∧ l = cat d la x lb ∧ σ.h x = h ∧ h = 1 + max ha hb ∧ ha - hb ≤ 1 ∧ hb - ha ≤ 1 := by
  obtain ⟨l1, l2, h1, h2, e1, t1, t2, e2, e3, e4, e5, e6⟩ := t.isS
  cases d with
  | true => exact ⟨l1, l2, h1, h2, e1, t1, t2, e2, e3, e4, e5, e6⟩
  | false => exact ⟨l2, l1, h2, h1, e1, t2, t1, e2, e3, by omega, e6, e5⟩
theorem Tree.hgt {σ : Sd} {par b : Option Nat} {l : List Nat} {h : Int} (t : Tree σ par b l h) : hgt σ b = h := by
  cases b with
  | none => exact t.isN.2.symm
  | some x => obtain ⟨_, _, _, _, _, _, _, _, e, _⟩ := t.isS; exact e
theorem Tree.notIn {σ : Sd} {par b : Option Nat} {l : List Nat} {h : Int} (t : Tree σ par b l h) {x : Nat} (hx : x ∉ l) : b ≠ some x := by
  intro e; subst e; exact hx t.mem

/-- The hole filled by another level. -/
theorem C.hole {σ σ' : Sd} {n : Nat} {p : Option Nat} {o : Nat} {hole : Option Nat} {was : Int} {L R : List Nat} (c : C σ n p (some o) was L R) (hL : o ∉ L) (hR : o ∉ R) (nd : (L ++ R).Nodup)
    (hpar : ∀ y, y ∈ L ∨ y ∈ R → σ'.par y = σ.par y) (hh : ∀ y, y ∈ L ∨ y ∈ R → σ'.h y = σ.h y) (hch : ∀ y, y ∈ L ∨ y ∈ R → ∀ e, σ'.ch y e = if p = some y ∧ σ.ch y e = some o then hole else σ.ch y e)
    (hr : σ'.root = if p = none then hole else σ.root) : C σ' n p hole was L R := by
  cases n with
  | zero => exact c.elim
  | succ n =>
    rcases c with ⟨rfl, e, rfl, rfl⟩ | ⟨q, d, ls, ho, L', R', rfl, e1, ts, e2, e3, e4, c, e5⟩
    · exact .inl ⟨rfl, by rw [hr, if_pos rfl], rfl, rfl⟩
    · have hr' : σ'.root = σ.root := by rw [hr, if_neg (by simp)]
      have hqm : q ∈ L ∨ q ∈ R := by rcases e5 with ⟨rfl, rfl, rfl⟩ | ⟨rfl, rfl, rfl⟩ <;> simp
      have hsm : ∀ y ∈ ls, y ∈ L ∨ y ∈ R := fun y hy => by rcases e5 with ⟨rfl, rfl, rfl⟩ | ⟨rfl, rfl, rfl⟩ <;> simp [hy]
      have hcm : ∀ y, y ∈ L' ∨ y ∈ R' → y ∈ L ∨ y ∈ R := fun y hy => by rcases e5 with ⟨rfl, rfl, rfl⟩ | ⟨rfl, rfl, rfl⟩ <;> (simp; rcases hy with hy | hy <;> simp [hy])
      have hqs : q ∉ ls ∧ q ∉ L' ∧ q ∉ R' := by
        rcases e5 with ⟨rfl, rfl, rfl⟩ | ⟨rfl, rfl, rfl⟩
        · obtain ⟨a1, a2, a3⟩ := List.nodup_append.1 nd
          have b := List.nodup_cons.1 a2
          simp at b
          exact ⟨b.1.1, fun h => a3 q h q (by simp) rfl, b.1.2⟩
        · obtain ⟨a1, a2, a3⟩ := List.nodup_append.1 nd
          obtain ⟨b1, b2, b3⟩ := List.nodup_append.1 a1
          obtain ⟨c1, c2, c3⟩ := List.nodup_append.1 b2
          exact ⟨fun h => c3 q h q (by simp) rfl, fun h => b3 q h q (by simp) rfl, fun h => a3 q (by simp) q h rfl⟩
      have hsib : σ.ch q (!d) ≠ some o := ts.notIn (fun h => by rcases hsm o h with h | h; exact hL h; exact hR h)
      have k1 : σ'.ch q d = hole := by rw [hch q hqm, if_pos ⟨rfl, e1⟩]
      have k2 : σ'.ch q (!d) = σ.ch q (!d) := by rw [hch q hqm, if_neg (by simp [hsib])]
      have ke : ∀ y, y ∈ L ∨ y ∈ R → y ≠ q → σ'.ch y = σ.ch y := fun y hy hn => funext fun e => by rw [hch y hy, if_neg (by rintro ⟨h, _⟩; cases h; exact hn rfl)]
      refine .inr ⟨q, d, ls, ho, L', R', rfl, k1, ?_, by rw [hh q hqm, e2], e3, e4, ?_, e5⟩
      · rw [k2]
        exact ts.frame (fun y hy => ⟨ke y (hsm y hy) (fun e => hqs.1 (e ▸ hy)), hpar y (hsm y hy), hh y (hsm y hy)⟩)
      · rw [hpar q hqm, hh q hqm]
        exact c.frame hr' (fun y hy => ⟨ke y (hcm y hy) (fun e => by subst e; rcases hy with hy | hy; exact hqs.2.1 hy; exact hqs.2.2 hy), hpar y (hcm y hy), hh y (hcm y hy)⟩)
/-- The parent of a hole stands in the context. -/
theorem C.parIn {σ : Sd} {n : Nat} {p hole : Option Nat} {was : Int} {L R : List Nat} (c : C σ n p hole was L R) {q : Nat} (hq : p = some q) : q ∈ L ∨ q ∈ R := by
  cases n with
  | zero => exact c.elim
  | succ n =>
    rcases c with ⟨rfl, _⟩ | ⟨q', d, ls, ho, L', R', rfl, e1, ts, e2, e3, e4, c, e5⟩
    · cases hq
    · cases hq; rcases e5 with ⟨rfl, rfl, rfl⟩ | ⟨rfl, rfl, rfl⟩ <;> simp
theorem C.under {σ : Sd} {n : Nat} {o : Nat} {was : Int} {L R : List Nat} (c : C σ n (σ.par o) (some o) was L R) (hL : o ∉ L) (hR : o ∉ R) : Under σ o := by
  cases n with
  | zero => exact c.elim
  | succ n =>
    rcases c with ⟨h, e, rfl, rfl⟩ | ⟨q', d, ls, ho, L', R', hp, e1, ts, e2, e3, e4, c, e5⟩
    · exact .inl ⟨h, e⟩
    · have hq : q' ∈ L ∨ q' ∈ R := by rcases e5 with ⟨rfl, rfl, rfl⟩ | ⟨rfl, rfl, rfl⟩ <;> simp
      refine .inr ⟨q', d, hp, fun e => by subst e; rcases hq with h | h; exact hL h; exact hR h, e1, ts.notIn (fun h => ?_)⟩
      have : o ∈ L ∨ o ∈ R := by rcases e5 with ⟨rfl, rfl, rfl⟩ | ⟨rfl, rfl, rfl⟩ <;> simp [h]
      rcases this with h | h
      · exact hL h
      · exact hR h

/-- What a balance leaves. -/
structure Mended (σ σ' : Sd) (n : Nat) (p : Option Nat) (y : Nat) (was : Int) (l L R : List Nat) (h' : Int) : Prop where
  tree : Tree σ' p (some y) l h'
  ctx : C σ' n p (some y) was L R
  nx : σ'.nx = σ.nx
  price : σ'.price = σ.price
  ends : σ'.ends = σ.ends

theorem fix_mends {σ : Sd} {n x : Nat} {was : Int} {w : Bool} {la lb L R : List Nat} {ha hb : Int} (ta : Tree σ (some x) (σ.ch x (!w)) la ha) (tb : Tree σ (some x) (σ.ch x w) lb hb) (a : ha - hb ≤ 1) (b : hb - ha ≤ 1)
    (c : C σ n (σ.par x) (some x) was L R) (nd : (cat w la x lb).Nodup) (hL : x ∉ L) (hR : x ∉ R) : Mended σ (fixH σ x) n (σ.par x) x was (cat w la x lb) L R (1 + max ha hb) := by
  obtain ⟨n1, n2, n3, n4, n5⟩ := nodup_cat.1 nd
  have fr : ∀ y, y ≠ x → (fixH σ x).ch y = σ.ch y ∧ (fixH σ x).par y = σ.par y ∧ (fixH σ x).h y = σ.h y := fun y hy => ⟨rfl, rfl, up_ne _ _ _ hy⟩
  have hmx : max (hgt σ (σ.ch x false)) (hgt σ (σ.ch x true)) = max ha hb := by
    cases w with
    | true => rw [← ta.hgt, ← tb.hgt]; rfl
    | false => have := ta.hgt; have := tb.hgt; simp only [Bool.not_false] at *; omega
  refine ⟨Tree.node' rfl (ta.frame fun y hy => fr y (fun e => n3 (e ▸ hy))) (tb.frame fun y hy => fr y (fun e => n4 (e ▸ hy))) ?_ rfl a b, C.frame (σ := σ) (σ' := fixH σ x) rfl c (fun y hy => fr y (fun e => by subst e; rcases hy with h | h; exact hL h; exact hR h)), rfl, rfl, rfl⟩
  show up σ.h x _ x = _
  rw [up_at, hmx]

/-- A single lift: x's child on the way w is c; c's inner child is not the taller one. -/
theorem lift_mends {σ : Sd} {n x c : Nat} {was : Int} {w : Bool} {la lb ld L R : List Nat} {ha hb hd : Int} (ta : Tree σ (some x) (σ.ch x (!w)) la ha) (hc : σ.ch x w = some c) (tb : Tree σ (some c) (σ.ch c (!w)) lb hb) (td : Tree σ (some c) (σ.ch c w) ld hd)
    (ctx : C σ n (σ.par x) (some x) was L R) (nd : (cat w la x (cat w lb c ld)).Nodup) (hLR : ∀ y ∈ cat w la x (cat w lb c ld), y ∉ L ∧ y ∉ R) (ndLR : (L ++ R).Nodup)
    (b1 : ha - hb ≤ 1) (b2 : hb - ha ≤ 1) (b3 : 1 + max ha hb - hd ≤ 1) (b4 : hd - (1 + max ha hb) ≤ 1) :
    Mended σ (lift σ x c w) n (σ.par x) c was (cat w la x (cat w lb c ld)) L R (1 + max (1 + max ha hb) hd) := by
  obtain ⟨n1, n2, n3, n4, n5⟩ := nodup_cat.1 nd
  obtain ⟨m1, m2, m3, m4, m5⟩ := nodup_cat.1 n2
  have mem : ∀ y, (y ∈ la ∨ y = x ∨ y ∈ lb ∨ y = c ∨ y ∈ ld) → y ∉ L ∧ y ∉ R := fun y hy => hLR y (by rw [mem_cat, mem_cat]; exact hy)
  have hxc : x ≠ c := fun e => n4 (by rw [mem_cat]; exact .inr (.inl e))
  have hxlb : x ∉ lb := fun h => n4 (by rw [mem_cat]; exact .inl h)
  have hxld : x ∉ ld := fun h => n4 (by rw [mem_cat]; exact .inr (.inr h))
  have hcla : c ∉ la := fun h => n5 c h (by rw [mem_cat]; exact .inr (.inl rfl))
  have hlab : ∀ y ∈ la, y ∉ lb := fun y hy h => n5 y hy (by rw [mem_cat]; exact .inl h)
  have hlad : ∀ y ∈ la, y ∉ ld := fun y hy h => n5 y hy (by rw [mem_cat]; exact .inr (.inr h))
  have hx := mem x (.inr (.inl rfl))
  have hcL := mem c (.inr (.inr (.inr (.inl rfl))))
  have hu := ctx.under hx.1 hx.2
  have hparL : ∀ {q}, σ.par x = some q → q ∈ L ∨ q ∈ R := fun e => ctx.parIn e
  have no : ∀ y, (y ∉ L ∧ y ∉ R) → σ.par x ≠ some y := fun y hy e => by rcases hparL e with h | h; exact hy.1 h; exact hy.2 h
  obtain ⟨s1, s2, s3, s4, s5, s6, s7⟩ := lift_spec hc hxc hu (no c hcL) (no x hx) (tb.notIn hxlb) (tb.notIn m3) (td.notIn hxld) (td.notIn m4) (ta.notIn n3) (ta.notIn hcla)
    (fun hp e => by
      cases hq : σ.par x with
      | none => exact hp hq
      | some q =>
        rw [hq] at e
        have hql : q ∈ lb := by rw [e] at tb; exact tb.mem
        have := mem q (.inr (.inr (.inl hql)))
        rcases hparL hq with h | h
        · exact this.1 h
        · exact this.2 h)
  rw [ta.hgt, tb.hgt, td.hgt] at s3
  -- levels besides x, c and the parent keep their children
  have kc : ∀ y, (y ∉ L ∧ y ∉ R) → y ≠ x → y ≠ c → (lift σ x c w).ch y = σ.ch y := fun y hy h1 h2 => funext fun e => by
    rw [s1, if_neg (by simp [h2]), if_neg (by simp [h1]), if_neg (by rintro ⟨h, _⟩; exact no y hy h)]
  have kh : ∀ y, y ≠ x → y ≠ c → (lift σ x c w).h y = σ.h y := fun y h1 h2 => by rw [s3, if_neg h2, if_neg h1]
  have cxn : (lift σ x c w).ch x (!w) = σ.ch x (!w) := by rw [s1, if_neg (by simp [hxc]), if_neg (by simp), if_neg (by rintro ⟨h, _⟩; exact no x hx h)]
  have cxw : (lift σ x c w).ch x w = σ.ch c (!w) := by rw [s1, if_neg (by simp [hxc]), if_pos ⟨rfl, rfl⟩]
  have ccn : (lift σ x c w).ch c (!w) = some x := by rw [s1, if_pos ⟨rfl, rfl⟩]
  have ccw : (lift σ x c w).ch c w = σ.ch c w := by rw [s1, if_neg (by simp), if_neg (by simp [Ne.symm hxc]), if_neg (by rintro ⟨h, _⟩; exact no c hcL h)]
  have ta' : Tree (lift σ x c w) (some x) (σ.ch x (!w)) la ha := ta.frame (fun y hy => by
    have h1 : y ≠ x := fun e => n3 (e ▸ hy)
    have h2 : y ≠ c := fun e => hcla (e ▸ hy)
    refine ⟨kc y (mem y (.inl hy)) h1 h2, ?_, kh y h1 h2⟩
    rw [s2, if_neg h1, if_neg h2, if_neg (tb.notIn (fun h => hlab y hy h))])
  have tb' : Tree (lift σ x c w) (some x) (σ.ch c (!w)) lb hb := tb.move m1 (fun y hy => by
    have h1 : y ≠ x := fun e => hxlb (e ▸ hy)
    have h2 : y ≠ c := fun e => m3 (e ▸ hy)
    exact ⟨kc y (mem y (.inr (.inr (.inl hy)))) h1 h2, kh y h1 h2⟩) (fun y hy hn => by
    have h1 : y ≠ x := fun e => hxlb (e ▸ hy)
    have h2 : y ≠ c := fun e => m3 (e ▸ hy)
    rw [s2, if_neg h1, if_neg h2, if_neg hn]) (fun y hy => by
    have hm : y ∈ lb := by rw [hy] at tb; exact tb.mem
    have h1 : y ≠ x := fun e => hxlb (e ▸ hm)
    have h2 : y ≠ c := fun e => m3 (e ▸ hm)
    rw [s2, if_neg h1, if_neg h2, if_pos hy])
  have td' : Tree (lift σ x c w) (some c) (σ.ch c w) ld hd := td.frame (fun y hy => by
    have h1 : y ≠ x := fun e => hxld (e ▸ hy)
    have h2 : y ≠ c := fun e => m4 (e ▸ hy)
    refine ⟨kc y (mem y (.inr (.inr (.inr (.inr hy))))) h1 h2, ?_, kh y h1 h2⟩
    rw [s2, if_neg h1, if_neg h2, if_neg (tb.notIn (fun h => m5 y h hy))])
  refine ⟨?_, ?_, s5, s6, s7⟩
  · rw [cat_assoc]
    refine Tree.node' (d := w) ?_ ?_ ?_ ?_ rfl b3 b4
    · rw [s2, if_neg (Ne.symm hxc), if_pos rfl]
    · rw [ccn]
      refine Tree.node' (d := w) ?_ ?_ ?_ ?_ rfl b1 b2
      · rw [s2, if_pos rfl]
      · rw [cxn]; exact ta'
      · rw [cxw]; exact tb'
      · rw [s3, if_neg hxc, if_pos rfl]
    · rw [ccw]; exact td'
    · rw [s3, if_pos rfl]
  · have ne : ∀ y, y ∈ L ∨ y ∈ R → y ≠ x ∧ y ≠ c ∧ y ∉ lb := fun y hy => ⟨fun e => by subst e; rcases hy with h | h; exact hx.1 h; exact hx.2 h, fun e => by subst e; rcases hy with h | h; exact hcL.1 h; exact hcL.2 h, fun h' => by
      have := mem y (.inr (.inr (.inl h')))
      rcases hy with h | h
      · exact this.1 h
      · exact this.2 h⟩
    refine ctx.hole hx.1 hx.2 ndLR (fun y hy => ?_) (fun y hy => ?_) (fun y hy e => ?_) s4
    · obtain ⟨h1, h2, h3⟩ := ne y hy
      rw [s2, if_neg h1, if_neg h2, if_neg (tb.notIn h3)]
    · obtain ⟨h1, h2, h3⟩ := ne y hy
      exact kh y h1 h2
    · obtain ⟨h1, h2, h3⟩ := ne y hy
      rw [s1, if_neg (by simp [h2]), if_neg (by simp [h1])]

end Go.Proofs.Ybulkjrk
