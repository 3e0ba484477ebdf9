/-
  OWN WORK: what the queues mean; add.
-/
import Derived.Test.YbulkjrkW8
namespace Go.Proofs.Ybulkjrk
open Go.RowKit
set_option linter.unusedSimpArgs false
set_option linter.unusedVariables false
set_option linter.unusedSectionVars false
variable [Base]
/-- A level and its queue. -/
structure Lvl (m c : Nat) (ob : Nat → Nat) (g : Gp) (q : Nat → List Nat) (tot : Nat → Int) (lev : Nat → Option Nat) (l : Nat) : Prop where
  e1 : g.ex l 1 = .int .i64 (tot l)
  e2 : g.ex l 2 = ptr ((q l).head?.map ob)
  e3 : g.ex l 3 = ptr ((q l).getLast?.map ob)
  ne : q l ≠ []
  mem : ∀ i ∈ q l, i < m ∧ lev i = some l
  nd : (q l).Nodup
  lnk : ∀ A i B, q l = A ++ i :: B → g.oc i 11 = ptr (B.head?.map ob)
  t0 : 0 ≤ tot l
  t1 : tot l ≤ 1000 * c
structure Lg (m c : Nat) (ob : Nat → Nat) (g : Gp) (q : Nat → List Nat) (tot : Nat → Int) (lev : Nat → Option Nat) : Prop where
  lv : ∀ k, k < 4 → ∀ l ∈ g.ll k, Lvl m c ob g q tot lev l
  len : g.fl.length + ((g.ll 0).length + (g.ll 1).length + (g.ll 2).length + (g.ll 3).length) ≤ c
/-- Order i lies on side k at price p. -/
def On (g : Gp) (q : Nat → List Nat) (k i : Nat) (p : Int) : Prop := ∃ l ∈ g.ll k, i ∈ q l ∧ (g.σ k).price l = p
/-- What a search answers. -/
def Place (σ : Sd) (ll : List Nat) (price : Int) (pl : Value) : Prop :=
  (∃ x ∈ ll, σ.price x = price ∧ pl = .agg #[pt x, .pointer none, .int .i64 0]) ∨ ∃ n p d L R, Loc σ n p d none 0 L R ∧ L ++ R = ll ∧ (∀ y ∈ L, σ.price y < price) ∧ (∀ y ∈ R, price < σ.price y) ∧ pl = .agg #[.pointer none, ptr p, wv d]
structure Adds (g g' : Gp) (q q' : Nat → List Nat) (lev lev' : Nat → Option Nat) (k i : Nat) (price : Int) : Prop where
  on : ∀ j, j < 4 → ∀ i' p, On g' q' j i' p ↔ (On g q j i' p ∨ (j = k ∧ i' = i ∧ p = price))
  oc : ∀ i' j, j < 9 → g'.oc i' j = g.oc i' j
  ec : ∀ j, j ≠ 6 → g'.ec j = g.ec j
  pn : g'.pn = g.pn
  px : g'.px = g.px
  lev1 : lev' i ≠ none
  lev2 : ∀ i', i' ≠ i → lev' i' = lev i'
section
variable {ob : Nat → Nat} {m c eb bb : Nat} {g : Gp} {W W' : World} {q : Nat → List Nat} {tot : Nat → Int} {lev : Nat → Option Nat}
theorem Lvl.congr {m' c' : Nat} {g' : Gp} {q' : Nat → List Nat} {tot' : Nat → Int} {lev' : Nat → Option Nat} {ob' : Nat → Nat} {l : Nat} (h : Lvl m c ob g q tot lev l) (hm : m ≤ m') (hc : c ≤ c') (hx : g'.ex l = g.ex l) (hq : q' l = q l) (ht : tot' l = tot l) (hl : ∀ i ∈ q l, lev' i = lev i) (ho : ∀ i ∈ q l, g'.oc i 11 = g.oc i 11) (hob : ∀ i, i < m → ob' i = ob i) : Lvl m' c' ob' g' q' tot' lev' l := by
  have hh : ∀ o : Option Nat, (∀ i, o = some i → i < m) → o.map ob' = o.map ob := fun o ho => by
    cases o with
    | none => rfl
    | some i => simp [hob i (ho i rfl)]
  refine ⟨by rw [hx, ht]; exact h.e1, ?_, ?_, by rw [hq]; exact h.ne, fun i hi => ?_, by rw [hq]; exact h.nd, fun A i B e => ?_, by rw [ht]; exact h.t0, ?_⟩
  · rw [hx, hq, hh _ (fun i hi => (h.mem i (List.mem_of_mem_head? hi)).1)]; exact h.e2
  · rw [hx, hq, hh _ (fun i hi => (h.mem i (List.mem_of_getLast? hi)).1)]; exact h.e3
  · rw [hq] at hi
    exact ⟨Nat.lt_of_lt_of_le (h.mem i hi).1 hm, (hl i hi).trans (h.mem i hi).2⟩
  · rw [hq] at e
    rw [ho i (by rw [e]; simp), h.lnk A i B e, hh _ (fun j hj => (h.mem j (by rw [e]; simp [List.mem_of_mem_head? hj])).1)]
  · rw [ht]
    have := h.t1
    omega
theorem Lg.lens (h : Lg m c ob g q tot lev) {k : Nat} (hk : k < 4) : (g.ll k).length ≤ c ∧ g.fl.length ≤ c := by
  have := h.len
  rcases (by omega : k = 0 ∨ k = 1 ∨ k = 2 ∨ k = 3) with rfl | rfl | rfl | rfl <;> omega

theorem last_split {l : List Nat} {t : Nat} (h : l.getLast? = some t) : ∃ A, l = A ++ [t] := by
  rcases List.eq_nil_or_concat l with rfl | ⟨A, x, rfl⟩
  · cases h
  · rw [List.concat_eq_append] at h ⊢
    simp at h
    exact ⟨A, by rw [h]⟩

theorem updN_app (f : Nat → Nat → Value) (i j : Nat) (v : Value) (i' j' : Nat) : upN f i (upd (f i) j v) i' j' = if i' = i ∧ j' = j then v else f i' j' := by
  by_cases e : i' = i
  · subst e
    rw [upN_same]
    by_cases e2 : j' = j
    · subst e2; rw [upd_same, if_pos ⟨rfl, rfl⟩]
    · rw [upd_other _ _ e2, if_neg (fun h => e2 h.2)]
  · rw [upN_other _ _ e, if_neg (fun h => e h.1)]
theorem head_app {l r : List Nat} (h : l ≠ []) : (l ++ r).head? = l.head? := by
  cases l with
  | nil => exact absurd rfl h
  | cons a b => rfl
/-- An order at the back of a queue. -/
theorem Lg.back (L : Lg m c ob g q tot lev) (h : Ph ob m eb bb g W) {k x i t : Nat} (hk : k < 4) (hx : x ∈ g.ll k) (hi : i < m) (hlev : lev i = none) (hn : g.oc i 11 = .pointer none) {qty : Int} (b0 : 0 ≤ qty) (b1 : qty ≤ 1000) (ht : (q x).getLast? = some t) :
    Lg m (c + 1) ob (backG ob g x i t (tot x + qty)) (upN q x (q x ++ [i])) (upN tot x (tot x + qty)) (upN lev i (some x)) ∧ Adds g (backG ob g x i t (tot x + qty)) q (upN q x (q x ++ [i])) lev (upN lev i (some x)) k i ((g.σ k).price x) := by
  have V := L.lv k hk x hx
  obtain ⟨A, hA⟩ := last_split ht
  have htm : t ∈ q x := by rw [hA]; simp
  have hiq : ∀ {l}, Lvl m c ob g q tot lev l → i ∉ q l := fun hv hh => by have := (hv.mem i hh).2; rw [hlev] at this; cases this
  have hti : t ≠ i := fun e => hiq V (e ▸ htm)
  have oc11 : ∀ j, j ≠ t → (backG ob g x i t (tot x + qty)).oc j 11 = g.oc j 11 := fun j hj => by
    simp only [backG, updN_app]
    rw [if_neg (fun h => hj h.1), if_neg (fun h => by omega), if_neg (fun h => by omega)]
  have oct : (backG ob g x i t (tot x + qty)).oc t 11 = pt (ob i) := by simp [backG, upN, upd]
  have exo : ∀ l, l ≠ x → (backG ob g x i t (tot x + qty)).ex l = g.ex l := fun l hl => by simp [backG, upN, hl]
  have ex1 : (backG ob g x i t (tot x + qty)).ex x 1 = .int .i64 (tot x + qty) := by simp [backG, upN, upd]
  have ex2 : (backG ob g x i t (tot x + qty)).ex x 2 = g.ex x 2 := by simp [backG, upN, upd]
  have ex3 : (backG ob g x i t (tot x + qty)).ex x 3 = pt (ob i) := by simp [backG, upN, upd]
  refine ⟨⟨fun j hj l hl => ?_, by have := L.len; show g.fl.length + ((g.ll 0).length + (g.ll 1).length + (g.ll 2).length + (g.ll 3).length) ≤ c + 1; omega⟩, ?_⟩
  · by_cases e : l = x
    · subst e
      refine ⟨by rw [ex1, upN_same], ?_, ?_, by rw [upN_same]; simp, fun i' hi' => ?_, ?_, fun A' j' B' e' => ?_, ?_, ?_⟩
      · rw [ex2, upN_same, V.e2, head_app V.ne]
      · rw [ex3, upN_same]; simp [pt, ptr]
      · rw [upN_same] at hi'
        rcases List.mem_append.1 hi' with h1 | h1
        · rw [upN_other _ _ (fun e : i' = i => hiq V (e ▸ h1))]; exact V.mem i' h1
        · simp at h1; subst h1; exact ⟨hi, by rw [upN_same]⟩
      · rw [upN_same]
        exact List.nodup_append.2 ⟨V.nd, by simp, fun a ha b hb e => by simp at hb; subst hb; exact hiq V (e ▸ ha)⟩
      · rw [upN_same] at e'
        rcases List.eq_nil_or_concat B' with rfl | ⟨B, b, rfl⟩
        · have := List.append_inj' e' rfl
          obtain ⟨_, e2⟩ := this
          simp at e2
          subst e2
          rw [oc11 i (Ne.symm hti), hn]; rfl
        · rw [List.concat_eq_append] at e' ⊢
          rw [← List.cons_append, ← List.append_assoc] at e'
          obtain ⟨e1, e2⟩ := List.append_inj' e' rfl
          simp at e2
          subst e2
          rcases List.eq_nil_or_concat B with rfl | ⟨B2, b2, rfl⟩
          · rw [hA] at e1
            obtain ⟨_, e3⟩ := List.append_inj' e1 rfl
            simp at e3
            subst e3
            rw [oct]; rfl
          · have hj : j' ≠ t := by
              rintro rfl
              have nd := V.nd
              rw [e1] at nd
              rw [List.concat_eq_append] at e1 nd
              rw [hA, ← List.cons_append, ← List.append_assoc] at e1
              obtain ⟨_, e3⟩ := List.append_inj' e1 rfl
              simp at e3
              subst e3
              have := (List.nodup_cons.1 (List.nodup_append.1 nd).2.1).1
              simp at this
            rw [oc11 j' hj, V.lnk A' j' _ e1, head_app (by simp)]
      · rw [upN_same]; have := V.t0; omega
      · rw [upN_same]; have := V.t1; omega
    · have V' := L.lv j hj l hl
      refine V'.congr (Nat.le_refl _) (by omega) (exo l e) (upN_other _ _ e) (upN_other _ _ e) (fun i' hi' => upN_other _ _ (fun e' => hiq V' (e' ▸ hi'))) (fun i' hi' => oc11 i' (fun e' => ?_)) (fun _ _ => rfl)
      subst e'
      have h1 := (V'.mem i' hi').2
      rw [(V.mem i' htm).2] at h1
      exact e (Option.some.inj h1).symm
  · refine ⟨fun j hj i' p => ⟨?_, ?_⟩, fun i' j hj => ?_, fun j _ => rfl, rfl, rfl, by rw [upN_same]; simp, fun i' hi' => upN_other _ _ hi'⟩
    · rintro ⟨l, hl, hi', hp⟩
      by_cases e : l = x
      · subst e
        rw [upN_same] at hi'
        have hjk : j = k := by
          apply Classical.byContradiction; intro hne
          exact h.dis j k hj hk hne l hl hx
        subst hjk
        rcases List.mem_append.1 hi' with h1 | h1
        · exact .inl ⟨l, hl, h1, hp⟩
        · simp at h1
          exact .inr ⟨rfl, h1, hp.symm⟩
      · rw [upN_other _ _ e] at hi'
        exact .inl ⟨l, hl, hi', hp⟩
    · rintro (⟨l, hl, hi', hp⟩ | ⟨rfl, rfl, rfl⟩)
      · refine ⟨l, hl, ?_, hp⟩
        by_cases e : l = x
        · subst e; rw [upN_same]; simp [hi']
        · rw [upN_other _ _ e]; exact hi'
      · exact ⟨x, hx, by rw [upN_same]; simp, rfl⟩
    · simp only [backG, updN_app]
      rw [if_neg (fun h => by omega), if_neg (fun h => by omega), if_neg (fun h => by omega)]

theorem exz_upd : ∀ o, exz o = if o = 1 then .int .i64 0 else .pointer none := fun _ => rfl
/-- An order as the first of a new level. -/
theorem Lg.front (L : Lg m c ob g q tot lev) {k x i : Nat} (hk : k < 4) (hxn : ∀ k, k < 4 → x ∉ g.ll k) (hi : i < m) (hlev : lev i = none) (hn : g.oc i 11 = .pointer none) {qty price : Int} (b0 : 0 ≤ qty) (b1 : qty ≤ 1000) {A R : List Nat} (hLR : A ++ R = g.ll k) {fl' : List Nat} (hfl : fl'.length ≤ g.fl.length) {v6 : Value} {σ' : Sd} (hpo : ∀ y ∈ g.ll k, σ'.price y = (g.σ k).price y) (hpx : σ'.price x = price) :
    Lg m (c + 1) ob (frontG ob (linkG g k x A R fl' v6 σ') x i qty) (upN q x [i]) (upN tot x qty) (upN lev i (some x)) ∧ Adds g (frontG ob (linkG g k x A R fl' v6 σ') x i qty) q (upN q x [i]) lev (upN lev i (some x)) k i price := by
  have hiq : ∀ {l}, Lvl m c ob g q tot lev l → i ∉ q l := fun hv hh => by have := (hv.mem i hh).2; rw [hlev] at this; cases this
  have oc11 : ∀ j, (frontG ob (linkG g k x A R fl' v6 σ') x i qty).oc j 11 = g.oc j 11 := fun j => by
    simp only [frontG, linkG, updN_app]
    rw [if_neg (fun h => by omega), if_neg (fun h => by omega)]
  have exo : ∀ l, l ≠ x → (frontG ob (linkG g k x A R fl' v6 σ') x i qty).ex l = g.ex l := fun l hl => by simp [frontG, linkG, upN, hl]
  have ex1 : (frontG ob (linkG g k x A R fl' v6 σ') x i qty).ex x 1 = .int .i64 qty := by simp [frontG, linkG, upN, upd]
  have ex2 : (frontG ob (linkG g k x A R fl' v6 σ') x i qty).ex x 2 = pt (ob i) := by simp [frontG, linkG, upN, upd]
  have ex3 : (frontG ob (linkG g k x A R fl' v6 σ') x i qty).ex x 3 = pt (ob i) := by simp [frontG, linkG, upN, upd]
  have hll : ∀ j, (frontG ob (linkG g k x A R fl' v6 σ') x i qty).ll j = upN g.ll k (A ++ x :: R) j := fun j => rfl
  have hfl' : (frontG ob (linkG g k x A R fl' v6 σ') x i qty).fl = fl' := rfl
  have hσ : ∀ j, (frontG ob (linkG g k x A R fl' v6 σ') x i qty).σ j = upN g.σ k σ' j := fun j => rfl
  have sub : ∀ l, l ∈ A ++ x :: R ↔ (l = x ∨ l ∈ g.ll k) := fun l => by
    rw [← hLR]
    simp
    constructor
    · rintro (h | h | h)
      · exact .inr (.inl h)
      · exact .inl h
      · exact .inr (.inr h)
    · rintro (h | h | h)
      · exact .inr (.inl h)
      · exact .inl h
      · exact .inr (.inr h)
  have mem : ∀ j, j < 4 → ∀ l, l ∈ upN g.ll k (A ++ x :: R) j ↔ (l ∈ g.ll j ∨ (j = k ∧ l = x)) := fun j hj l => by
    by_cases e : j = k
    · subst e
      rw [upN_same, sub]
      constructor
      · rintro (h | h)
        · exact .inr ⟨rfl, h⟩
        · exact .inl h
      · rintro (h | h)
        · exact .inr h
        · exact .inl h.2
    · rw [upN_other _ _ e]
      exact ⟨.inl, fun h => h.elim id (fun h => absurd h.1 e)⟩
  refine ⟨⟨fun j hj l hl => ?_, ?_⟩, ?_⟩
  · rw [hll, mem j hj] at hl
    by_cases e : l = x
    · subst e
      refine ⟨by rw [ex1, upN_same], by rw [ex2, upN_same]; rfl, by rw [ex3, upN_same]; rfl, by rw [upN_same]; simp, fun i' hi' => ?_, by rw [upN_same]; simp, fun A' j' B' e' => ?_, by rw [upN_same]; exact b0, by rw [upN_same]; omega⟩
      · rw [upN_same] at hi'
        simp at hi'
        subst hi'
        exact ⟨hi, by rw [upN_same]⟩
      · rw [upN_same] at e'
        cases A' with
        | nil =>
          simp at e'
          obtain ⟨rfl, rfl⟩ := e'
          rw [oc11, hn]; rfl
        | cons a A' => simp at e'
    · have V' := L.lv j hj l (hl.elim id (fun h => absurd h.2 e))
      exact V'.congr (Nat.le_refl _) (by omega) (exo l e) (upN_other _ _ e) (upN_other _ _ e) (fun i' hi' => upN_other _ _ (fun e' => hiq V' (e' ▸ hi'))) (fun i' _ => oc11 i') (fun _ _ => rfl)
  · rw [hfl']
    have h1 := L.len
    have h2 : (A ++ x :: R).length = (g.ll k).length + 1 := by have := congrArg List.length hLR; simp at this ⊢; omega
    rw [hll, hll, hll, hll]
    rcases (by omega : k = 0 ∨ k = 1 ∨ k = 2 ∨ k = 3) with rfl | rfl | rfl | rfl
    · rw [upN_same, upN_other _ _ (by omega), upN_other _ _ (by omega), upN_other _ _ (by omega)]; omega
    · rw [upN_same, upN_other _ _ (by omega), upN_other _ _ (by omega), upN_other _ _ (by omega)]; omega
    · rw [upN_same, upN_other _ _ (by omega), upN_other _ _ (by omega), upN_other _ _ (by omega)]; omega
    · rw [upN_same, upN_other _ _ (by omega), upN_other _ _ (by omega), upN_other _ _ (by omega)]; omega
  · refine ⟨fun j hj i' p => ⟨?_, ?_⟩, fun i' j hj => ?_, fun j hj => upd_other _ _ hj, rfl, rfl, by rw [upN_same]; simp, fun i' hi' => upN_other _ _ hi'⟩
    · rintro ⟨l, hl, hi', hp⟩
      rw [hll, mem j hj] at hl
      rw [hσ] at hp
      by_cases e : l = x
      · subst e
        rcases hl with hl | ⟨rfl, _⟩
        · exact absurd hl (hxn j hj)
        · rw [upN_same] at hi' hp
          simp at hi'
          rw [hpx] at hp
          exact .inr ⟨rfl, hi', hp.symm⟩
      · have hl' := hl.elim id (fun h => absurd h.2 e)
        rw [upN_other _ _ e] at hi'
        refine .inl ⟨l, hl', hi', ?_⟩
        by_cases ek : j = k
        · subst ek
          rw [upN_same, hpo l hl'] at hp
          exact hp
        · rw [upN_other _ _ ek] at hp
          exact hp
    · rintro (⟨l, hl, hi', hp⟩ | ⟨rfl, rfl, rfl⟩)
      · have e : l ≠ x := fun e => hxn j hj (e ▸ hl)
        refine ⟨l, by rw [hll, mem j hj]; exact .inl hl, by rw [upN_other _ _ e]; exact hi', ?_⟩
        rw [hσ]
        by_cases ek : j = k
        · subst ek
          rw [upN_same, hpo l hl]
          exact hp
        · rw [upN_other _ _ ek]
          exact hp
      · exact ⟨x, by rw [hll, mem j hj]; exact .inr ⟨rfl, rfl⟩, by rw [upN_same]; simp, by rw [hσ, upN_same]; exact hpx⟩
    · simp only [frontG, linkG, updN_app]
      rw [if_neg (fun h => by omega), if_neg (fun h => by omega)]

/-- 'add': an order at the back of its price. -/
theorem add_any (h : Ph ob m eb bb g W) (L : Lg m c ob g q tot lev) (hc : c ≤ 3000) {k i : Nat} (hk : k < 4) (hi : i < m) (hlev : lev i = none) (hn : g.oc i 11 = .pointer none) {qty price : Int} (hq : g.oc i 5 = .int .i64 qty) (hp : g.oc i 4 = .int .i64 price) (b0 : 0 ≤ qty) (b1 : qty ≤ 1000) {pl : Value} (hpl : Place (g.σ k) (g.ll k) price pl) :
    Calls Yba.prog 39 #[.pointer (some ⟨bb, 1 + 4 * k, none⟩), pt (ob i), pl, .pointer (some ⟨eb, 5, none⟩)] W fun e w' => e = .returned (.tuple #[]) ∧ ∃ g' q' tot' lev', Ph ob m eb bb g' w' ∧ Lg m (c + 1) ob g' q' tot' lev' ∧ Adds g g' q q' lev lev' k i price ∧ Fr (Tagged addTags W) W w' := by
  obtain ⟨l1, l2⟩ := L.lens hk
  rcases hpl with ⟨x, hx, hpx, rfl⟩ | ⟨n, pp, d, A, R, hloc, hLR, hA, hR, rfl⟩
  · have V := L.lv k hk x hx
    obtain ⟨t, ht⟩ : ∃ t, (q x).getLast? = some t := by
      cases e : (q x).getLast? with
      | none => exact absurd (List.getLast?_eq_none_iff.1 e) V.ne
      | some t => exact ⟨t, rfl⟩
    have htm : t ∈ q x := List.mem_of_getLast? ht
    have hti : t ≠ i := fun e => by have := (V.mem t htm).2; rw [e, hlev] at this; cases this
    have e3 := V.e3
    rw [ht] at e3
    refine (add_old h hk hx hi (V.mem t htm).1 hti hq e3 V.e1 b0 b1 V.t0 (by have := V.t1; omega)).mono ?_
    rintro e w' ⟨rfl, P, F⟩
    obtain ⟨L', A'⟩ := L.back h hk hx hi hlev hn b0 b1 ht
    rw [hpx] at A'
    exact ⟨rfl, _, _, _, _, P, L', A', F⟩
  · refine (add_new h hk hi hq hp b0 b1 hLR hloc hA hR (by omega) (by omega)).mono ?_
    rintro e w' ⟨rfl, x, fl', v6, σ', P, hxn, hle, hpo, hpx, F⟩
    obtain ⟨L', A'⟩ := L.front hk hxn hi hlev hn b0 b1 hLR hle (v6 := v6) hpo hpx
    exact ⟨rfl, _, _, _, _, P, L', A', F⟩
end
end Go.Proofs.Ybulkjrk
