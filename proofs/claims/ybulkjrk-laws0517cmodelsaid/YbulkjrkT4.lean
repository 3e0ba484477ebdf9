/-
  OWN WORK: balance mends the tree, the double turn too (plain); what rebalance keeps.
-/
import Derived.Test.YbulkjrkT3
namespace Go.Proofs.Ybulkjrk
set_option linter.unusedSimpArgs false
set_option linter.unusedVariables false

theorem Mended.of_eq {σ σ1 σ' : Sd} {n : Nat} {p : Option Nat} {y : Nat} {was : Int} {l L R : List Nat} {h' : Int} (h : Mended σ1 σ' n p y was l L R h') (e1 : σ1.nx = σ.nx) (e2 : σ1.price = σ.price) (e3 : σ1.ends = σ.ends) : Mended σ σ' n p y was l L R h' :=
  ⟨h.tree, h.ctx, h.nx.trans e1, h.price.trans e2, h.ends.trans e3⟩

/-- The double turn: c's inner child i is the taller one. -/
theorem twice_mends {σ : Sd} {n x c i : Nat} {was : Int} {w : Bool} {la lb1 lb2 ld L R : List Nat} {ha hb1 hb2 hd : Int} (ta : Tree σ (some x) (σ.ch x (!w)) la ha) (hc : σ.ch x w = some c) (hpc : σ.par c = some x)
    (hi : σ.ch c (!w) = some i) (hpi : σ.par i = some c) (tb1 : Tree σ (some i) (σ.ch i (!w)) lb1 hb1) (tb2 : Tree σ (some i) (σ.ch i w) lb2 hb2) (td : Tree σ (some c) (σ.ch c w) ld hd)
    (ctx : C σ n (σ.par x) (some x) was L R) (nd : (cat w la x (cat w (cat w lb1 i lb2) c ld)).Nodup) (hLR : ∀ y ∈ cat w la x (cat w (cat w lb1 i lb2) c ld), y ∉ L ∧ y ∉ R) (ndLR : (L ++ R).Nodup)
    (b1 : ha - hb1 ≤ 1) (b2 : hb1 - ha ≤ 1) (b3 : hb2 - hd ≤ 1) (b4 : hd - hb2 ≤ 1) (b5 : max ha hb1 - max hb2 hd ≤ 1) (b6 : max hb2 hd - max ha hb1 ≤ 1) :
    Mended σ (lift (lift σ c i (!w)) x i w) n (σ.par x) i was (cat w la x (cat w (cat w lb1 i lb2) c ld)) L R (1 + max (1 + max ha hb1) (1 + max hb2 hd)) := by
  obtain ⟨n1, n2, n3, n4, n5⟩ := nodup_cat.1 nd
  obtain ⟨m1, m2, m3, m4, m5⟩ := nodup_cat.1 n2
  obtain ⟨q1, q2, q3, q4, q5⟩ := nodup_cat.1 m1
  have mem : ∀ y, (y ∈ la ∨ y = x ∨ (y ∈ lb1 ∨ y = i ∨ y ∈ lb2) ∨ y = c ∨ y ∈ ld) → y ∉ L ∧ y ∉ R := fun y hy => hLR y (by rw [mem_cat, mem_cat, mem_cat]; exact hy)
  have inB : ∀ y, (y ∈ lb1 ∨ y = i ∨ y ∈ lb2) → y ∈ cat w lb1 i lb2 := fun y hy => by rw [mem_cat]; exact hy
  have inC : ∀ y, (y ∈ cat w lb1 i lb2 ∨ y = c ∨ y ∈ ld) → y ∈ cat w (cat w lb1 i lb2) c ld := fun y hy => by rw [mem_cat]; exact hy
  have hxc : x ≠ c := fun e => n4 (inC _ (.inr (.inl e)))
  have hxi : x ≠ i := fun e => n4 (inC _ (.inl (inB _ (.inr (.inl e)))))
  have hic : i ≠ c := fun e => m3 (inB _ (.inr (.inl e.symm)))
  have hxb1 : x ∉ lb1 := fun h => n4 (inC _ (.inl (inB _ (.inl h))))
  have hxb2 : x ∉ lb2 := fun h => n4 (inC _ (.inl (inB _ (.inr (.inr h)))))
  have hxd : x ∉ ld := fun h => n4 (inC _ (.inr (.inr h)))
  have hca : c ∉ la := fun h => n5 c h (inC _ (.inr (.inl rfl)))
  have hia : i ∉ la := fun h => n5 i h (inC _ (.inl (inB _ (.inr (.inl rfl)))))
  have hcb1 : c ∉ lb1 := fun h => m3 (inB _ (.inl h))
  have hcb2 : c ∉ lb2 := fun h => m3 (inB _ (.inr (.inr h)))
  have hid : i ∉ ld := fun h => m5 i (inB _ (.inr (.inl rfl))) h
  have hb2a : ∀ y ∈ lb2, y ∉ la := fun y hy h => n5 y h (inC _ (.inl (inB _ (.inr (.inr hy)))))
  have hb2b1 : ∀ y ∈ lb2, y ∉ lb1 := fun y hy h => q5 y h hy
  have hb2d : ∀ y ∈ lb2, y ∉ ld := fun y hy h => m5 y (inB _ (.inr (.inr hy))) h
  have hu : Under σ c := .inr ⟨x, w, hpc, hxc, hc, ta.notIn hca⟩
  have nn : (!(!w)) = w := by cases w <;> rfl
  obtain ⟨s1, s2, s3, s4, s5, s6, s7⟩ := lift_spec (w := !w) hi (Ne.symm hic) hu (by rw [hpc]; intro e; cases e; exact hxi rfl) (by rw [hpc]; intro e; cases e; exact hxc rfl) (by rw [nn]; exact tb2.notIn hcb2) (by rw [nn]; exact tb2.notIn q4)
    (tb1.notIn hcb1) (tb1.notIn q3) (by rw [nn]; exact td.notIn m4) (by rw [nn]; exact td.notIn hid) (fun _ => by rw [nn, hpc]; exact tb2.notIn hxb2)
  rw [nn] at s1 s2 s3
  rw [td.hgt, tb2.hgt, tb1.hgt] at s3
  generalize lift σ c i (!w) = σ1 at *
  have px : σ1.par x = σ.par x := by rw [s2, if_neg hxc, if_neg hxi, if_neg (tb2.notIn hxb2)]
  have kc : ∀ y, y ≠ x → y ≠ c → y ≠ i → σ1.ch y = σ.ch y := fun y h1 h2 h3 => funext fun e => by
    rw [s1, if_neg (by simp [h3]), if_neg (by simp [h2]), if_neg (by rintro ⟨h, _⟩; rw [hpc] at h; cases h; exact h1 rfl)]
  have kh : ∀ y, y ≠ c → y ≠ i → σ1.h y = σ.h y := fun y h2 h3 => by rw [s3, if_neg h3, if_neg h2]
  have kp : ∀ y, y ≠ c → y ≠ i → y ∉ lb2 → σ1.par y = σ.par y := fun y h1 h2 h3 => by rw [s2, if_neg h1, if_neg h2, if_neg (tb2.notIn h3)]
  have cxn : σ1.ch x (!w) = σ.ch x (!w) := by rw [s1, if_neg (by simp [hxi]), if_neg (by simp [hxc]), if_neg (by rintro ⟨_, h⟩; exact ta.notIn hca h)]
  have cxw : σ1.ch x w = some i := by rw [s1, if_neg (by simp [hxi]), if_neg (by simp [hxc]), if_pos ⟨hpc, hc⟩]
  have cin : σ1.ch i (!w) = σ.ch i (!w) := by rw [s1, if_neg (by simp), if_neg (by simp [hic]), if_neg (by rintro ⟨h, _⟩; rw [hpc] at h; cases h; exact hxi rfl)]
  have ciw : σ1.ch i w = some c := by rw [s1, if_pos ⟨rfl, rfl⟩]
  have ccn : σ1.ch c (!w) = σ.ch i w := by rw [s1, if_neg (by simp [Ne.symm hic]), if_pos ⟨rfl, rfl⟩]
  have ccw : σ1.ch c w = σ.ch c w := by rw [s1, if_neg (by simp [Ne.symm hic]), if_neg (by simp), if_neg (by rintro ⟨h, _⟩; rw [hpc] at h; cases h; exact hxc rfl)]
  have ta1 : Tree σ1 (some x) (σ1.ch x (!w)) la ha := by
    rw [cxn]
    exact ta.frame (fun y hy => by
      have h1 : y ≠ x := fun e => n3 (e ▸ hy)
      have h2 : y ≠ c := fun e => hca (e ▸ hy)
      have h3 : y ≠ i := fun e => hia (e ▸ hy)
      exact ⟨kc y h1 h2 h3, kp y h2 h3 (fun h => hb2a y h hy), kh y h2 h3⟩)
  have tb1' : Tree σ1 (some i) (σ1.ch i (!w)) lb1 hb1 := by
    rw [cin]
    exact tb1.frame (fun y hy => by
      have h1 : y ≠ x := fun e => hxb1 (e ▸ hy)
      have h2 : y ≠ c := fun e => hcb1 (e ▸ hy)
      have h3 : y ≠ i := fun e => q3 (e ▸ hy)
      exact ⟨kc y h1 h2 h3, kp y h2 h3 (fun h => hb2b1 y h hy), kh y h2 h3⟩)
  have tb2' : Tree σ1 (some c) (σ1.ch c (!w)) lb2 hb2 := by
    rw [ccn]
    refine tb2.move q2 (fun y hy => ?_) (fun y hy hn => ?_) (fun y hy => ?_)
    · have h1 : y ≠ x := fun e => hxb2 (e ▸ hy)
      have h2 : y ≠ c := fun e => hcb2 (e ▸ hy)
      have h3 : y ≠ i := fun e => q4 (e ▸ hy)
      exact ⟨kc y h1 h2 h3, kh y h2 h3⟩
    · have h2 : y ≠ c := fun e => hcb2 (e ▸ hy)
      have h3 : y ≠ i := fun e => q4 (e ▸ hy)
      rw [s2, if_neg h2, if_neg h3, if_neg hn]
    · have hm : y ∈ lb2 := by rw [hy] at tb2; exact tb2.mem
      have h2 : y ≠ c := fun e => hcb2 (e ▸ hm)
      have h3 : y ≠ i := fun e => q4 (e ▸ hm)
      rw [s2, if_neg h2, if_neg h3, if_pos hy]
  have td' : Tree σ1 (some c) (σ1.ch c w) ld hd := by
    rw [ccw]
    exact td.frame (fun y hy => by
      have h1 : y ≠ x := fun e => hxd (e ▸ hy)
      have h2 : y ≠ c := fun e => m4 (e ▸ hy)
      have h3 : y ≠ i := fun e => hid (e ▸ hy)
      exact ⟨kc y h1 h2 h3, kp y h2 h3 (fun h => hb2d y h hy), kh y h2 h3⟩)
  have tc' : Tree σ1 (some i) (σ1.ch i w) (cat w lb2 c ld) (1 + max hb2 hd) := by
    rw [ciw]
    refine Tree.node' (d := w) ?_ tb2' td' ?_ rfl b3 b4
    · rw [s2, if_pos rfl]
    · rw [s3, if_neg (Ne.symm hic), if_pos rfl]; omega
  have hCx : C σ1 n (σ.par x) (some x) was L R := by
    refine ctx.frame ?_ (fun y hy => ?_)
    · rw [s4, if_neg (by rw [hpc]; simp)]
    · have no : ∀ z, (z ∈ la ∨ z = x ∨ (z ∈ lb1 ∨ z = i ∨ z ∈ lb2) ∨ z = c ∨ z ∈ ld) → y ≠ z := fun z hz e => by
        have := mem z hz
        subst e
        rcases hy with h | h
        · exact this.1 h
        · exact this.2 h
      have h1 := no x (.inr (.inl rfl))
      have h2 := no c (.inr (.inr (.inr (.inl rfl))))
      have h3 := no i (.inr (.inr (.inl (.inr (.inl rfl)))))
      exact ⟨kc y h1 h2 h3, kp y h2 h3 (fun h => no y (.inr (.inr (.inl (.inr (.inr h))))) rfl), kh y h2 h3⟩
  have hcat : cat w la x (cat w (cat w lb1 i lb2) c ld) = cat w la x (cat w lb1 i (cat w lb2 c ld)) := by rw [cat_inner]
  rw [hcat] at nd hLR ⊢
  have key := lift_mends (σ := σ1) (n := n) (x := x) (c := i) (was := was) (w := w) (L := L) (R := R) ta1 cxw tb1' tc' (by rw [px]; exact hCx) nd hLR ndLR b1 b2 (by omega) (by omega)
  rw [px] at key
  exact key.of_eq s5 s6 s7

/-- The turn at x, whose subtree on the way w is two taller. -/
theorem rot_mends {σ : Sd} {n x : Nat} {was : Int} {w : Bool} {la l2 L R : List Nat} {ha h2 : Int} (ta : Tree σ (some x) (σ.ch x (!w)) la ha) (tc : Tree σ (some x) (σ.ch x w) l2 h2) (hh : h2 = ha + 2)
    (ctx : C σ n (σ.par x) (some x) was L R) (nd : (cat w la x l2).Nodup) (hLR : ∀ y ∈ cat w la x l2, y ∉ L ∧ y ∉ R) (ndLR : (L ++ R).Nodup) :
    ∃ c, σ.ch x w = some c ∧ c ∈ l2 ∧ ∃ σ' y h', rot σ x c w = (σ', y) ∧ Mended σ σ' n (σ.par x) y was (cat w la x l2) L R h' ∧ (h' = h2 ∨ h' = h2 + 1) := by
  have hpos := ta.pos
  cases hc : σ.ch x w with
  | none => rw [hc] at tc; have := tc.isN.2; omega
  | some c =>
    rw [hc] at tc
    refine ⟨c, rfl, tc.mem, ?_⟩
    obtain ⟨lb, ld, hb, hd, e1, tb, td, rfl, e3, e4, e5, e6⟩ := tc.isS' w
    unfold rot
    rw [tb.hgt, td.hgt]
    by_cases hlt : hd < hb
    · rw [if_pos hlt]
      cases hi : σ.ch c (!w) with
      | none => rw [hi] at tb; have := tb.isN.2; have := td.pos; omega
      | some i =>
        rw [hi] at tb
        obtain ⟨lb1, lb2, hb1, hb2, f1, tb1, tb2, rfl, f3, f4, f5, f6⟩ := tb.isS' w
        refine ⟨_, _, _, rfl, twice_mends ta hc e1 hi f1 tb1 tb2 td ctx nd hLR ndLR (by omega) (by omega) (by omega) (by omega) (by omega) (by omega), ?_⟩
        left; omega
    · rw [if_neg hlt]
      refine ⟨_, _, _, rfl, lift_mends ta hc tb td ctx nd hLR ndLR (by omega) (by omega) (by omega) (by omega), ?_⟩
      omega

theorem bal_mends {σ : Sd} {n x : Nat} {was : Int} {l1 l2 L R : List Nat} {h1 h2 : Int} (t1 : Tree σ (some x) (σ.ch x false) l1 h1) (t2 : Tree σ (some x) (σ.ch x true) l2 h2) (b1 : h1 - h2 ≤ 2) (b2 : h2 - h1 ≤ 2)
    (ctx : C σ n (σ.par x) (some x) was L R) (nd : (l1 ++ x :: l2).Nodup) (hLR : ∀ y ∈ l1 ++ x :: l2, y ∉ L ∧ y ∉ R) (ndLR : (L ++ R).Nodup) :
    ∃ σ' y h', bal σ x = (σ', y) ∧ Mended σ σ' n (σ.par x) y was (l1 ++ x :: l2) L R h' ∧ ((h1 - h2 ≤ 1 ∧ h2 - h1 ≤ 1 ∧ h' = 1 + max h1 h2) ∨ ((h1 - h2 = 2 ∨ h2 - h1 = 2) ∧ (h' = max h1 h2 ∨ h' = 1 + max h1 h2))) := by
  have hx := hLR x (by simp)
  unfold bal
  rw [t1.hgt, t2.hgt]
  by_cases c1 : 1 < h2 - h1
  · rw [if_pos c1]
    obtain ⟨c, hc, _, σ', y, h', e, m, hh⟩ := rot_mends (w := true) t1 t2 (by omega) ctx nd hLR ndLR
    rw [hc]
    exact ⟨σ', y, h', e, m, .inr ⟨by omega, by omega⟩⟩
  · rw [if_neg c1]
    by_cases c2 : 1 < h1 - h2
    · rw [if_pos c2]
      obtain ⟨c, hc, _, σ', y, h', e, m, hh⟩ := rot_mends (w := false) t2 t1 (by omega) ctx nd hLR ndLR
      rw [hc]
      exact ⟨σ', y, h', e, m, .inr ⟨by omega, by omega⟩⟩
    · rw [if_neg c2]
      exact ⟨_, _, _, rfl, fix_mends (w := true) t1 t2 (by omega) (by omega) ctx nd hx.1 hx.2, .inl ⟨by omega, by omega, rfl⟩⟩

/-- Where rebalance stands: at x, one of whose subtrees has turned from height c to one that differs by one at most. -/
def RB (σ : Sd) (n x : Nat) (l L R : List Nat) : Prop :=
  ∃ l1 l2 h1 h2 c1 c2, l = l1 ++ x :: l2 ∧ Tree σ (some x) (σ.ch x false) l1 h1 ∧ Tree σ (some x) (σ.ch x true) l2 h2 ∧ C σ n (σ.par x) (some x) (σ.h x) L R ∧ (L ++ (l ++ R)).Nodup ∧
    σ.h x = 1 + max c1 c2 ∧ c1 - c2 ≤ 1 ∧ c2 - c1 ≤ 1 ∧ ((c1 = h1 ∧ c2 - h2 ≤ 1 ∧ h2 - c2 ≤ 1) ∨ (c2 = h2 ∧ c1 - h1 ≤ 1 ∧ h1 - c1 ≤ 1))

theorem nodup3 {L l R : List Nat} (nd : (L ++ (l ++ R)).Nodup) : l.Nodup ∧ (∀ y ∈ l, y ∉ L ∧ y ∉ R) ∧ (L ++ R).Nodup := by
  obtain ⟨a, b, c⟩ := List.nodup_append.1 nd
  obtain ⟨d, e, f⟩ := List.nodup_append.1 b
  refine ⟨d, fun y hy => ⟨fun h => c y h y (by simp [hy]) rfl, fun h => f y hy y h rfl⟩, List.nodup_append.2 ⟨a, e, fun x hx y hy => c x hx y (by simp [hy])⟩⟩

/-- One round of rebalance: it ends with a whole tree, or stands at the parent. -/
theorem rb_step {σ : Sd} {n x : Nat} {l L R : List Nat} (h : RB σ n x l L R) : ∃ σ' y, bal σ x = (σ', y) ∧ σ'.nx = σ.nx ∧ σ'.price = σ.price ∧ σ'.ends = σ.ends ∧ y ∈ l ∧
    ((σ'.h y = σ.h x → ∃ h', Tree σ' none σ'.root (L ++ (l ++ R)) h') ∧
     (σ'.h y ≠ σ.h x → match σ'.par y with
        | none => ∃ h', Tree σ' none σ'.root (L ++ (l ++ R)) h'
        | some q => ∃ m l' L' R', n = m + 1 ∧ L' ++ (l' ++ R') = L ++ (l ++ R) ∧ RB σ' m q l' L' R')) := by
  obtain ⟨l1, l2, h1, h2, c1, c2, rfl, t1, t2, ctx, nd, e1, e2, e3, e4⟩ := h
  obtain ⟨nd1, nd2, nd3⟩ := nodup3 nd
  obtain ⟨σ', y, h', eb, m, hh⟩ := bal_mends t1 t2 (by omega) (by omega) ctx nd1 nd2 nd3
  have hy := m.tree.mem
  obtain ⟨_, _, _, _, py, _, _, _, hhy, _⟩ := m.tree.isS
  refine ⟨σ', y, eb, m.nx, m.price, m.ends, hy, fun he => ?_, fun hne => ?_⟩
  · have t := m.tree
    rw [← hhy, he] at t
    exact m.ctx.plug t
  · rw [py]
    have hc := m.ctx
    cases n with
    | zero => exact hc.elim
    | succ n =>
      rcases hc with ⟨hp, e, rfl, rfl⟩ | ⟨q, d, ls, ho, L', R', hp, f1, ts, f2, f3, f4, c, f5⟩
      · rw [hp]
        refine ⟨h', ?_⟩
        have t := m.tree
        rw [hp] at t
        rw [e]; simpa using t
      · rw [hp]
        have t := m.tree
        rw [hp] at t
        have hdiff : σ.h x - h' ≤ 1 ∧ h' - σ.h x ≤ 1 := by omega
        rcases f5 with ⟨rfl, rfl, rfl⟩ | ⟨rfl, rfl, rfl⟩
        · refine ⟨n, (l1 ++ x :: l2) ++ q :: ls, L, R', rfl, by simp, _, _, h', ho, σ.h x, ho, rfl, by rw [f1]; exact t, ts, c, by simpa using nd, f2, f3, f4, .inr ⟨rfl, hdiff.1, hdiff.2⟩⟩
        · refine ⟨n, ls ++ q :: (l1 ++ x :: l2), L', R, rfl, by simp, _, _, ho, h', ho, σ.h x, rfl, ts, by rw [f1]; exact t, c, by simpa using nd, by rw [f2]; omega, f4, f3, .inl ⟨rfl, hdiff.1, hdiff.2⟩⟩

end Go.Proofs.Ybulkjrk
