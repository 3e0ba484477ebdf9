/-
  OWN WORK: the walk of balance.
-/
import Derived.Test.YbulkjrkV6
namespace Go.Proofs.Ybulkjrk
open Go.RowKit
set_option linter.unusedSimpArgs false
set_option linter.unusedVariables false

/-- Behind the first of two lifts. -/
theorem twice_facts {σ : Sd} {x c i : Nat} {w : Bool} {la lb1 lb2 ld : List Nat} {ha hb1 hb2 hd : Int} (ta : Tree σ (some x) (σ.ch x (!w)) la ha) (hc : σ.ch x w = some c) (hpc : σ.par c = some x)
    (hi : σ.ch c (!w) = some i) (hpi : σ.par i = some c) (tb1 : Tree σ (some i) (σ.ch i (!w)) lb1 hb1) (tb2 : Tree σ (some i) (σ.ch i w) lb2 hb2) (td : Tree σ (some c) (σ.ch c w) ld hd)
    (nd : (cat w la x (cat w (cat w lb1 i lb2) c ld)).Nodup) :
    (lift σ c i (!w)).ch x w = some i ∧ (lift σ c i (!w)).par x = σ.par x ∧ (lift σ c i (!w)).ch i (!w) = σ.ch i (!w) := by
  obtain ⟨n1, n2, n3, n4, n5⟩ := nodup_cat.1 nd
  obtain ⟨m1, m2, m3, m4, m5⟩ := nodup_cat.1 n2
  obtain ⟨q1, q2, q3, q4, q5⟩ := nodup_cat.1 m1
  have inB : ∀ y, (y ∈ lb1 ∨ y = i ∨ y ∈ lb2) → y ∈ cat w lb1 i lb2 := fun y hy => by rw [mem_cat]; exact hy
  have inC : ∀ y, (y ∈ cat w lb1 i lb2 ∨ y = c ∨ y ∈ ld) → y ∈ cat w (cat w lb1 i lb2) c ld := fun y hy => by rw [mem_cat]; exact hy
  have hxc : x ≠ c := fun e => n4 (inC _ (.inr (.inl e)))
  have hxi : x ≠ i := fun e => n4 (inC _ (.inl (inB _ (.inr (.inl e)))))
  have hic : i ≠ c := fun e => m3 (inB _ (.inr (.inl e.symm)))
  have hxb1 : x ∉ lb1 := fun h => n4 (inC _ (.inl (inB _ (.inl h))))
  have hxb2 : x ∉ lb2 := fun h => n4 (inC _ (.inl (inB _ (.inr (.inr h)))))
  have hxd : x ∉ ld := fun h => n4 (inC _ (.inr (.inr h)))
  have hca : c ∉ la := fun h => n5 c h (inC _ (.inr (.inl rfl)))
  have hia : i ∉ la := fun h => n5 i h (inC _ (.inl (inB _ (.inr (.inl rfl)))))
  have hcb1 : c ∉ lb1 := fun h => m3 (inB _ (.inl h))
  have hcb2 : c ∉ lb2 := fun h => m3 (inB _ (.inr (.inr h)))
  have hid : i ∉ ld := fun h => m5 i (inB _ (.inr (.inl rfl))) h
  have hb2a : ∀ y ∈ lb2, y ∉ la := fun y hy h => n5 y h (inC _ (.inl (inB _ (.inr (.inr hy)))))
  have hb2b1 : ∀ y ∈ lb2, y ∉ lb1 := fun y hy h => q5 y h hy
  have hb2d : ∀ y ∈ lb2, y ∉ ld := fun y hy h => m5 y (inB _ (.inr (.inr hy))) h
  have hu : Under σ c := .inr ⟨x, w, hpc, hxc, hc, ta.notIn hca⟩
  have nn : (!(!w)) = w := by cases w <;> rfl
  obtain ⟨s1, s2, s3, s4, s5, s6, s7⟩ := lift_spec (w := !w) hi (Ne.symm hic) hu (by rw [hpc]; intro e; cases e; exact hxi rfl) (by rw [hpc]; intro e; cases e; exact hxc rfl) (by rw [nn]; exact tb2.notIn hcb2) (by rw [nn]; exact tb2.notIn q4)
    (tb1.notIn hcb1) (tb1.notIn q3) (by rw [nn]; exact td.notIn m4) (by rw [nn]; exact td.notIn hid) (fun _ => by rw [nn, hpc]; exact tb2.notIn hxb2)
  rw [nn] at s1 s2 s3
  rw [td.hgt, tb2.hgt, tb1.hgt] at s3
  generalize lift σ c i (!w) = σ1 at *
  have px : σ1.par x = σ.par x := by rw [s2, if_neg hxc, if_neg hxi, if_neg (tb2.notIn hxb2)]
  have kc : ∀ y, y ≠ x → y ≠ c → y ≠ i → σ1.ch y = σ.ch y := fun y h1 h2 h3 => funext fun e => by
    rw [s1, if_neg (by simp [h3]), if_neg (by simp [h2]), if_neg (by rintro ⟨h, _⟩; rw [hpc] at h; cases h; exact h1 rfl)]
  have kh : ∀ y, y ≠ c → y ≠ i → σ1.h y = σ.h y := fun y h2 h3 => by rw [s3, if_neg h3, if_neg h2]
  have kp : ∀ y, y ≠ c → y ≠ i → y ∉ lb2 → σ1.par y = σ.par y := fun y h1 h2 h3 => by rw [s2, if_neg h1, if_neg h2, if_neg (tb2.notIn h3)]
  have cxn : σ1.ch x (!w) = σ.ch x (!w) := by rw [s1, if_neg (by simp [hxi]), if_neg (by simp [hxc]), if_neg (by rintro ⟨_, h⟩; exact ta.notIn hca h)]
  have cxw : σ1.ch x w = some i := by rw [s1, if_neg (by simp [hxi]), if_neg (by simp [hxc]), if_pos ⟨hpc, hc⟩]
  have cin : σ1.ch i (!w) = σ.ch i (!w) := by rw [s1, if_neg (by simp), if_neg (by simp [hic]), if_neg (by rintro ⟨h, _⟩; rw [hpc] at h; cases h; exact hxi rfl)]
  have ciw : σ1.ch i w = some c := by rw [s1, if_pos ⟨rfl, rfl⟩]
  have ccn : σ1.ch c (!w) = σ.ch i w := by rw [s1, if_neg (by simp [Ne.symm hic]), if_pos ⟨rfl, rfl⟩]
  have ccw : σ1.ch c w = σ.ch c w := by rw [s1, if_neg (by simp [Ne.symm hic]), if_neg (by simp), if_neg (by rintro ⟨h, _⟩; rw [hpc] at h; cases h; exact hxc rfl)]
  exact ⟨cxw, px, cin⟩

theorem quiet_shift {f : FuncId} {args : Array Value} {w : World} {a n : Nat} {v : Value} (h : Calls Yba.prog f args (w.drewN (a + n)) fun e w' => e = .returned v ∧ w' = w.drewN (a + n)) :
    Calls Yba.prog f args (w.drewN (a + n)) fun e w'' => e = .returned v ∧ ∃ m, w'' = w.drewN (a + m) := h.mono fun _ _ ⟨he, hm⟩ => ⟨he, n, hm⟩
section
variable {S : Sid} {D : Nat → Prop} {ex : Nat → Nat → Value} {s0 : Value} {W : World} {σ : Sd}
set_option maxRecDepth 100000 in
set_option maxHeartbeats 1000000 in
theorem balance_any (x : Nat) {n : Int} {l1 l2 : List Nat} {h1 h2 : Int} (h : Rep S D ex s0 W σ) (hC : Cl σ D) (hH : Hb σ D n) (hn : 0 ≤ n ∧ n ≤ 80) (hx : D x) (t1 : Tree σ (some x) (σ.ch x false) l1 h1) (t2 : Tree σ (some x) (σ.ch x true) l2 h2) (b1 : h1 - h2 ≤ 2) (b2 : h2 - h1 ≤ 2) (nd : (l1 ++ x :: l2).Nodup) (hpar : ∀ y, σ.par x = some y → y ∉ l1 ++ x :: l2) :
    Calls Yba.prog 33 #[.pointer (some ⟨S.b, S.o, none⟩), .pointer (some ⟨x, 0, none⟩)] W fun e w' => e = .returned (.pointer (some ⟨(bal σ x).2, 0, none⟩)) ∧ Rep S D ex s0 w' (bal σ x).1 ∧ Kp S D W w' ∧ Cl (bal σ x).1 D ∧ Hb (bal σ x).1 D (n + 4) := by
  have c7 := h.cell x hx 7 (by omega)
  have c8 := h.cell x hx 8 (by omega)
  simp only [lv] at c7 c8
  have hw0 : IntKind.i64.wrap 0 = 0 := by rfl
  have hw1 : IntKind.i64.wrap 1 = 1 := by rfl
  have t1h := t1.hgt
  have t2h := t2.hgt
  have p1 := t1.pos
  have p2 := t2.pos
  have u1 := (hgt_bd hH hn.1 (o := σ.ch x false) (fun k e => ((hC x hx).1 _ k e).1)).2
  have u2 := (hgt_bd hH hn.1 (o := σ.ch x true) (fun k e => ((hC x hx).1 _ k e).1)).2
  rw [t1h] at u1
  rw [t2h] at u2
  rcases (by omega : h2 - h1 = 2 ∨ h1 - h2 = 2 ∨ (h2 - h1 ≤ 1 ∧ h1 - h2 ≤ 1)) with hd2 | hd2 | hd2
  · have g1 : (1 : Int) < h2 - h1 := by omega
    cases hc : σ.ch x true with
    | none => rw [hc] at t2; have := t2.isN.2; have := t1.pos; omega
    | some c =>
      rw [hc] at t2
      obtain ⟨hDc, hcne⟩ := (hC x hx).1 true c hc
      obtain ⟨lb, ld, hb, hd, e1, tb, td, e2, e3, e4, e5, e6⟩ := t2.isS' true
      subst e2
      have nd' : (cat true l1 x (cat true lb c ld)).Nodup := nd
      have hxin : ∀ y ∈ cat true lb c ld, σ.par x ≠ some y := fun y hy e => hpar y e (by simp [hy])
      obtain ⟨n1, n2, n3, n4, n5⟩ := nodup_cat.1 nd'
      obtain ⟨m1, m2, m3, m4, m5⟩ := nodup_cat.1 n2
      have hpc : σ.par x ≠ some c := hxin c (by rw [mem_cat]; exact .inr (.inl rfl))
      have k7 := h.cell c hDc 7 (by omega)
      have k8 := h.cell c hDc 8 (by omega)
      simp only [lv] at k7 k8
      have q7 := hgt_bd hH hn.1 (o := σ.ch c false) (fun k e => ((hC c hDc).1 _ k e).1)
      have q8 := hgt_bd hH hn.1 (o := σ.ch c true) (fun k e => ((hC c hDc).1 _ k e).1)
      have hbal : bal σ x = rot σ x c true := by unfold bal; rw [t1h, t2h, if_pos g1, hc]
      rw [hbal]
      unfold rot
      simp only [Bool.not_true] at tb
      by_cases hlt : hgt σ (σ.ch c true) < hgt σ (σ.ch c false)
      · simp only [Bool.not_true]
        rw [if_pos hlt]
        cases hi : σ.ch c false with
        | none => rw [hi] at hlt; have h00 : hgt σ none = 0 := rfl; omega
        | some i =>
          have tbi := tb
          rw [hi] at tbi
          obtain ⟨lb1, lb2, hb1, hb2, f1, tb1, tb2, f2, f3, f4, f5, f6⟩ := tbi.isS' true
          subst f2
          obtain ⟨a1, a2, a3⟩ := twice_facts (w := true) t1 hc e1 hi f1 tb1 tb2 td nd'
          simp only [Bool.not_true] at a1 a2 a3 tb1
          obtain ⟨q1, q2, q3, q4, q5⟩ := nodup_cat.1 m1
          have hL1 : ∀ m, Calls Yba.prog 50 #[.pointer (some ⟨S.b, S.o, none⟩), .pointer (some ⟨c, 0, none⟩), .int .i64 0] (W.drewN m) _ := fun m => lift_any c i false (h.drewN m) hC hH (by omega) hDc hi (by rw [e1]; intro e; cases e; exact n4 (by rw [mem_cat, mem_cat]; exact .inl (.inr (.inl rfl)))) (tb2.notIn (fun hh => m3 (by rw [mem_cat]; exact .inr (.inr hh))))
          have hL2 : ∀ w1, Rep S D ex s0 w1 (lift σ c i false) → Cl (lift σ c i false) D → Hb (lift σ c i false) D (n + 2) → Calls Yba.prog 50 #[.pointer (some ⟨S.b, S.o, none⟩), .pointer (some ⟨x, 0, none⟩), .int .i64 1] w1 _ := fun w1 r1 r2 r3 => lift_any (W := w1) x i true r1 r2 r3 (by omega) hx a1 (by rw [a2]; exact hxin i (by rw [mem_cat, mem_cat]; exact .inl (.inr (.inl rfl)))) (by simp only [Bool.not_true]; rw [a3]; exact tb1.notIn (fun hh => n4 (by rw [mem_cat, mem_cat]; exact .inl (.inl hh))))
          dsimp only
          have HX := hide (And.intro hpar (And.intro nd (And.intro nd' hxin)))
          clear hpar nd nd' hxin t1 t2 tb tbi tb1 tb2 td n1 n2 n3 n4 n5 m1 m2 m3 m4 m5 q1 q2 q3 q4 q5 a1 a2 a3 f1 f3 f4 f5 f6 e1 e3 e4 e5 e6 hbal b1 b2
          have Hc := hide hc
          clear hc
          have Hi := hide hi
          clear hi
          go_enter Yba.func33, Yba.ntmps33
          go_wp2
          go_quiet ((go_at_call 48; exact Calls.quiet_of_same ((height_any _ (h.drewN _) (fun k e => ((hC x hx).1 _ k e).1)))))
          simp only [t1h, t2h]
          rw [Hc.out] at c8
          simp only [ptr, Option.map_some] at c8
          go_wp2
          go_quiet ((go_at_call 48; exact quiet_shift ((height_any _ (h.drewN _) (fun k e => ((hC c hDc).1 _ k e).1)))))
          go_wp2_with
            (first
              | (go_at_call 50; refine (hL2 _ r1 r2 r3).mono ?_; rintro e w2 ⟨rfl, r4, k2, r5, r6⟩)
              | (go_at_call 50; refine (hL1 _).mono ?_; rintro e w1 ⟨rfl, r1, k1, r2, r3⟩))
          go_ret
          exact ⟨rfl, r4, (((Kp.refl S D W).drewN _).trans k1).trans k2, r5, r6.mono (by omega)⟩
      · simp only [Bool.not_true]
        rw [if_neg hlt]
        have hL1 : ∀ m, Calls Yba.prog 50 #[.pointer (some ⟨S.b, S.o, none⟩), .pointer (some ⟨x, 0, none⟩), .int .i64 1] (W.drewN m) _ := fun m => lift_any x c true (h.drewN m) hC hH (by omega) hx hc hpc (tb.notIn (fun hh => n4 (by rw [mem_cat]; exact .inl hh)))
        dsimp only
        clear hpar nd nd' hxin t1 t2 tb td n1 n2 n3 n4 n5 m1 m2 m3 m4 m5 e1 e3 e4 e5 e6 hbal b1 b2
        have Hc := hide hc
        clear hc
        go_enter Yba.func33, Yba.ntmps33
        go_wp2
        go_quiet ((go_at_call 48; exact Calls.quiet_of_same ((height_any _ (h.drewN _) (fun k e => ((hC x hx).1 _ k e).1)))))
        simp only [t1h, t2h]
        rw [Hc.out] at c8
        simp only [ptr, Option.map_some] at c8
        go_wp2
        go_quiet ((go_at_call 48; exact quiet_shift ((height_any _ (h.drewN _) (fun k e => ((hC c hDc).1 _ k e).1)))))
        go_wp2_with
          (first
            | (go_at_call 50; refine (hL1 _).mono ?_; rintro e w1 ⟨rfl, r1, k1, r2, r3⟩))
        go_ret
        exact ⟨rfl, r1, ((Kp.refl S D W).drewN _).trans k1, r2, r3.mono (by omega)⟩
  · have g1 : ¬ (1 : Int) < h2 - h1 := by omega
    have g2 : (1 : Int) < h1 - h2 := by omega
    cases hc : σ.ch x false with
    | none => rw [hc] at t1; have := t1.isN.2; have := t2.pos; omega
    | some c =>
      rw [hc] at t1
      obtain ⟨hDc, hcne⟩ := (hC x hx).1 false c hc
      obtain ⟨lb, ld, hb, hd, e1, tb, td, e2, e3, e4, e5, e6⟩ := t1.isS' false
      subst e2
      have nd' : (cat false l2 x (cat false lb c ld)).Nodup := nd
      have hxin : ∀ y ∈ cat false lb c ld, σ.par x ≠ some y := fun y hy e => hpar y e (by simp [hy])
      obtain ⟨n1, n2, n3, n4, n5⟩ := nodup_cat.1 nd'
      obtain ⟨m1, m2, m3, m4, m5⟩ := nodup_cat.1 n2
      have hpc : σ.par x ≠ some c := hxin c (by rw [mem_cat]; exact .inr (.inl rfl))
      have k7 := h.cell c hDc 7 (by omega)
      have k8 := h.cell c hDc 8 (by omega)
      simp only [lv] at k7 k8
      have q7 := hgt_bd hH hn.1 (o := σ.ch c false) (fun k e => ((hC c hDc).1 _ k e).1)
      have q8 := hgt_bd hH hn.1 (o := σ.ch c true) (fun k e => ((hC c hDc).1 _ k e).1)
      have hbal : bal σ x = rot σ x c false := by unfold bal; rw [t1h, t2h, if_neg g1, if_pos g2, hc]
      rw [hbal]
      unfold rot
      simp only [Bool.not_false] at tb
      by_cases hlt : hgt σ (σ.ch c false) < hgt σ (σ.ch c true)
      · simp only [Bool.not_false]
        rw [if_pos hlt]
        cases hi : σ.ch c true with
        | none => rw [hi] at hlt; have h00 : hgt σ none = 0 := rfl; omega
        | some i =>
          have tbi := tb
          rw [hi] at tbi
          obtain ⟨lb1, lb2, hb1, hb2, f1, tb1, tb2, f2, f3, f4, f5, f6⟩ := tbi.isS' false
          subst f2
          obtain ⟨a1, a2, a3⟩ := twice_facts (w := false) t2 hc e1 hi f1 tb1 tb2 td nd'
          simp only [Bool.not_false] at a1 a2 a3 tb1
          obtain ⟨q1, q2, q3, q4, q5⟩ := nodup_cat.1 m1
          have hL1 : ∀ m, Calls Yba.prog 50 #[.pointer (some ⟨S.b, S.o, none⟩), .pointer (some ⟨c, 0, none⟩), .int .i64 1] (W.drewN m) _ := fun m => lift_any c i true (h.drewN m) hC hH (by omega) hDc hi (by rw [e1]; intro e; cases e; exact n4 (by rw [mem_cat, mem_cat]; exact .inl (.inr (.inl rfl)))) (tb2.notIn (fun hh => m3 (by rw [mem_cat]; exact .inr (.inr hh))))
          have hL2 : ∀ w1, Rep S D ex s0 w1 (lift σ c i true) → Cl (lift σ c i true) D → Hb (lift σ c i true) D (n + 2) → Calls Yba.prog 50 #[.pointer (some ⟨S.b, S.o, none⟩), .pointer (some ⟨x, 0, none⟩), .int .i64 0] w1 _ := fun w1 r1 r2 r3 => lift_any (W := w1) x i false r1 r2 r3 (by omega) hx a1 (by rw [a2]; exact hxin i (by rw [mem_cat, mem_cat]; exact .inl (.inr (.inl rfl)))) (by simp only [Bool.not_false]; rw [a3]; exact tb1.notIn (fun hh => n4 (by rw [mem_cat, mem_cat]; exact .inl (.inl hh))))
          dsimp only
          have HX := hide (And.intro hpar (And.intro nd (And.intro nd' hxin)))
          clear hpar nd nd' hxin t1 t2 tb tbi tb1 tb2 td n1 n2 n3 n4 n5 m1 m2 m3 m4 m5 q1 q2 q3 q4 q5 a1 a2 a3 f1 f3 f4 f5 f6 e1 e3 e4 e5 e6 hbal b1 b2
          have Hc := hide hc
          clear hc
          have Hi := hide hi
          clear hi
          go_enter Yba.func33, Yba.ntmps33
          go_wp2
          go_quiet ((go_at_call 48; exact Calls.quiet_of_same ((height_any _ (h.drewN _) (fun k e => ((hC x hx).1 _ k e).1)))))
          simp only [t1h, t2h]
          rw [Hc.out] at c7
          simp only [ptr, Option.map_some] at c7
          go_wp2
          go_quiet ((go_at_call 48; exact quiet_shift ((height_any _ (h.drewN _) (fun k e => ((hC c hDc).1 _ k e).1)))))
          go_wp2_with
            (first
              | (go_at_call 50; refine (hL2 _ r1 r2 r3).mono ?_; rintro e w2 ⟨rfl, r4, k2, r5, r6⟩)
              | (go_at_call 50; refine (hL1 _).mono ?_; rintro e w1 ⟨rfl, r1, k1, r2, r3⟩))
          go_ret
          exact ⟨rfl, r4, (((Kp.refl S D W).drewN _).trans k1).trans k2, r5, r6.mono (by omega)⟩
      · simp only [Bool.not_false]
        rw [if_neg hlt]
        have hL1 : ∀ m, Calls Yba.prog 50 #[.pointer (some ⟨S.b, S.o, none⟩), .pointer (some ⟨x, 0, none⟩), .int .i64 0] (W.drewN m) _ := fun m => lift_any x c false (h.drewN m) hC hH (by omega) hx hc hpc (tb.notIn (fun hh => n4 (by rw [mem_cat]; exact .inl hh)))
        dsimp only
        clear hpar nd nd' hxin t1 t2 tb td n1 n2 n3 n4 n5 m1 m2 m3 m4 m5 e1 e3 e4 e5 e6 hbal b1 b2
        have Hc := hide hc
        clear hc
        go_enter Yba.func33, Yba.ntmps33
        go_wp2
        go_quiet ((go_at_call 48; exact Calls.quiet_of_same ((height_any _ (h.drewN _) (fun k e => ((hC x hx).1 _ k e).1)))))
        simp only [t1h, t2h]
        rw [Hc.out] at c7
        simp only [ptr, Option.map_some] at c7
        go_wp2
        go_quiet ((go_at_call 48; exact quiet_shift ((height_any _ (h.drewN _) (fun k e => ((hC c hDc).1 _ k e).1)))))
        go_wp2_with
          (first
            | (go_at_call 50; refine (hL1 _).mono ?_; rintro e w1 ⟨rfl, r1, k1, r2, r3⟩))
        go_ret
        exact ⟨rfl, r1, ((Kp.refl S D W).drewN _).trans k1, r2, r3.mono (by omega)⟩
  · have g1 : ¬ (1 : Int) < h2 - h1 := by omega
    have g2 : ¬ (1 : Int) < h1 - h2 := by omega
    have hbal : bal σ x = (fixH σ x, x) := by unfold bal; rw [t1h, t2h, if_neg g1, if_neg g2]
    rw [hbal]
    dsimp only
    have hS := fun m => setHeight_any x (h.drewN m) hx (fun d b e => (hC x hx).1 d b e) (fun b hb => by have := hH b hb; omega)
    clear hpar nd t1 t2 b1 b2 hbal
    go_enter Yba.func33, Yba.ntmps33
    go_wp2
    go_quiet ((go_at_call 48; exact Calls.quiet_of_same ((height_any _ (h.drewN _) (fun k e => ((hC x hx).1 _ k e).1)))))
    simp only [t1h, t2h]
    go_wp2_with (go_at_call 49; refine (hS _).mono ?_; rintro e w1 ⟨rfl, r1, k1⟩)
    go_ret
    exact ⟨rfl, r1, ((Kp.refl S D W).drewN _).trans k1, hC, (hH.fixH hn.1 hC hx).mono (by omega)⟩
end

end Go.Proofs.Ybulkjrk
