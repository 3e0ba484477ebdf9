/-
  OWN WORK: a fresh level beside a good side; the walk of the law's own build.
-/
import Derived.Test.YbulkjrkT13
namespace Go.Proofs.Ybulkjrk
open Go.RowKit
set_option linter.unusedSimpArgs false
set_option linter.unusedVariables false

/-- The side with a fresh level b at price p. -/
def fresh (σ : Sd) (b : Nat) (p : Int) : Sd :=
  { price := up σ.price b p, ch := fun k e => if k = b then none else σ.ch k e, par := up σ.par b none, h := up σ.h b 0, nx := fun k e => if k = b then none else σ.nx k e, root := σ.root, ends := σ.ends }
theorem fresh_fr {σ : Sd} {b : Nat} {p : Int} {y : Nat} (h : y ≠ b) : (fresh σ b p).ch y = σ.ch y ∧ (fresh σ b p).par y = σ.par y ∧ (fresh σ b p).h y = σ.h y := by
  refine ⟨?_, up_ne _ _ _ h, up_ne _ _ _ h⟩
  funext e
  show (if y = b then none else σ.ch y e) = _
  rw [if_neg h]
theorem Good.fresh {σ : Sd} {ll : List Nat} (hG : Good σ ll) {b : Nat} (hb : b ∉ ll) (p : Int) : Good (fresh σ b p) ll := by
  have ne : ∀ y ∈ ll, y ≠ b := fun y hy e => hb (e ▸ hy)
  obtain ⟨h, t⟩ := hG.tree
  refine ⟨⟨h, t.frame (fun y hy => fresh_fr (ne y hy))⟩, hG.nd, fun y hy => ?_, ⟨fun A x B e => ?_, hG.chain.2⟩, ?_⟩
  · rw [(fresh_fr (p := p) (σ := σ) (ne y hy)).1, (fresh_fr (p := p) (σ := σ) (ne y hy)).2.1]; exact hG.cl y hy
  · have hx : x ≠ b := ne x (by rw [e]; simp)
    have := hG.chain.1 A x B e
    exact ⟨by show (if x = b then none else σ.nx x false) = _; rw [if_neg hx]; exact this.1, by show (if x = b then none else σ.nx x true) = _; rw [if_neg hx]; exact this.2⟩
  · refine hG.sort.imp_of_mem (fun {x y} hx hy hxy => ?_)
    show up σ.price b p x < up σ.price b p y
    rw [up_ne _ _ _ (ne x hx), up_ne _ _ _ (ne y hy)]; exact hxy
theorem Loc.fresh {σ : Sd} {n p d o was L R} (h : Loc σ n p d o was L R) {b : Nat} (hb : b ∉ L ++ R) (pr : Int) : Loc (fresh σ b pr) n p d o was L R := by
  rcases h with h | ⟨q, ls, ho, L', R', e0, e1, ts, e2, e3, e4, c, e5⟩
  · exact .inl h
  · have hm : ∀ y, (y = q ∨ y ∈ ls ∨ y ∈ L' ∨ y ∈ R') → y ≠ b := fun y hy e => hb (by
      subst e
      rcases e5 with ⟨rfl, rfl, rfl⟩ | ⟨rfl, rfl, rfl⟩ <;> (simp; rcases hy with h | h | h | h <;> simp [h]))
    have hq := fresh_fr (σ := σ) (p := pr) (hm q (.inl rfl))
    refine .inr ⟨q, ls, ho, L', R', e0, by rw [hq.1, e1], by rw [hq.1]; exact ts.frame (fun y hy => fresh_fr (hm y (.inr (.inl hy)))), by rw [hq.2.2, e2], e3, e4, ?_, e5⟩
    rw [hq.2.1, hq.2.2]
    exact C.frame (σ := σ) (σ' := Ybulkjrk.fresh σ b pr) rfl c (fun y hy => fresh_fr (hm y (.inr (.inr hy))))

/-- What a level holds besides its place: no quantity, no orders. -/
def exZ : Nat → Nat → Value := fun _ o => if o = 1 then .int .i64 0 else .pointer none

theorem Rep.add {S : Nat} {L R : List Nat} {s0 : Value} {W : World} {σ : Sd} (h : Rep S (· ∈ L ++ R) exZ s0 W σ) (p : Int) {b : Nat} (hb : b = W.heap.size) :
    Rep S (· ∈ L ++ b :: R) exZ s0 (W.alloc (.cells #[.int .i64 p, .int .i64 0, .pointer none, .pointer none, .pointer none, .pointer none, .pointer none, .pointer none, .pointer none, .int .i8 0] 37)) (fresh σ b p) := by
  subst hb
  have hsp : ∀ y, y ∈ L ++ W.heap.size :: R → y = W.heap.size ∨ y ∈ L ++ R := fun y hy => by
    simp at hy ⊢; rcases hy with h | h | h <;> simp [h]
  have hne : ∀ y, y ∈ L ++ R → y ≠ W.heap.size := fun y hy e => by have := h.lt y hy; omega
  refine ⟨fun y hy => ?_, fun y hy => ?_, by have := h.slt; simp; omega, fun y hy o ho => ?_, fun y hy o => ?_, fun o ho => ?_, fun o => ?_, fun y hy => ?_⟩
  · rcases hsp y hy with rfl | hy
    · simp
    · have := h.lt y hy; simp; omega
  · rcases hsp y hy with rfl | hy
    · have := h.slt; omega
    · exact h.ne y hy
  · rcases hsp y hy with rfl | hy
    · rw [World.cell?_alloc_at _ _ _ _ rfl]
      rcases ten ho with rfl | rfl | rfl | rfl | rfl | rfl | rfl | rfl | rfl | rfl <;> simp [lv, fresh, up, exZ, ptr]
    · rw [World.cell?_alloc_past _ _ _ (h.lt y hy), h.cell y hy o ho]
      have hn := hne y hy
      rcases ten ho with rfl | rfl | rfl | rfl | rfl | rfl | rfl | rfl | rfl | rfl <;> simp [lv, fresh, up, hn]
  · rcases hsp y hy with rfl | hy
    · exact World.frozen?_alloc_at _ _ _ _ rfl
    · rw [World.frozen?_alloc_past _ _ _ (h.lt y hy)]; exact h.fz y hy o
  · rw [World.cell?_alloc_past _ _ _ h.slt, h.side o ho]
    rcases (by omega : o = 0 ∨ o = 1 ∨ o = 2 ∨ o = 3) with rfl | rfl | rfl | rfl <;> rfl
  · rw [World.frozen?_alloc_past _ _ _ h.slt]; exact h.sfz o
  · rcases hsp y hy with rfl | hy
    · exact ⟨_, by show (W.heap.push _)[W.heap.size]? = _; simp; rfl⟩
    · obtain ⟨cs, e⟩ := h.blk y hy
      exact ⟨cs, (Below.heap_alloc W _ y (h.lt y hy)).trans e⟩
theorem Rep.grown {S : Nat} {D : Nat → Prop} {ex : Nat → Nat → Value} {s0 : Value} {W W' : World} {σ : Sd} {row : Option Nat} (h : Rep S D ex s0 W σ) (hg : W.grownBy W' row) (hr : ∀ k, row = some k → ¬ D k ∧ k ≠ S) : Rep S D ex s0 W' σ := by
  have e : ∀ b, D b → W'.heap[b]? = W.heap[b]? := fun b hb => hg.block b (h.lt b hb) (fun e => (hr b e.symm).1 hb)
  have eS : W'.heap[S]? = W.heap[S]? := hg.block S h.slt (fun e => (hr S e.symm).2 rfl)
  exact ⟨fun b hb => Nat.lt_of_lt_of_le (h.lt b hb) hg.size, h.ne, Nat.lt_of_lt_of_le h.slt hg.size, fun b hb o ho => (World.cell?_of_block (a := ⟨b, o, none⟩) (e b hb)).trans (h.cell b hb o ho), fun b hb o => (World.frozen?_of_block (a := ⟨b, o, none⟩) (e b hb)).trans (h.fz b hb o),
    fun o ho => (World.cell?_of_block (a := ⟨S, o, none⟩) eS).trans (h.side o ho), fun o => (World.frozen?_of_block (a := ⟨S, o, none⟩) eS).trans (h.sfz o), fun b hb => by
      obtain ⟨cs, h1⟩ := h.blk b hb
      exact ⟨cs, (e b hb).trans h1⟩⟩
/-- A row of numbers is no level. -/
theorem row_not {S : Nat} {D : Nat → Prop} {ex : Nat → Nat → Value} {s0 : Value} {W : World} {σ : Sd} {v : Value} {n base : Nat} {xs : List Value} (h : Rep S D ex s0 W σ) (ho : W.ownsRow base 2 1 v n xs) (hS : S < base) : ∀ k, v.ownBlock = some k → ¬ D k ∧ k ≠ S := by
  intro k hk
  rcases ho.2 with ⟨rfl, _⟩ | ⟨g, cap, cur, rfl, hb, hg, _⟩
  · cases hk
  · cases hk
    refine ⟨fun hd => ?_, by show g ≠ S; omega⟩
    obtain ⟨cs, h1⟩ := h.blk g hd
    rw [hg] at h1
    cases h1
theorem row_kept {W W' : World} {v : Value} {n base : Nat} {xs : List Value} (ho : W.ownsRow base 2 1 v n xs) (hb : ∀ k, v.ownBlock = some k → W'.heap[k]? = W.heap[k]?) : W'.ownsRow base 2 1 v n xs := by
  refine ⟨ho.1, ?_⟩
  rcases ho.2 with h | ⟨g, cap, cur, rfl, h1, h2, h3⟩
  · exact .inl h
  · exact .inr ⟨g, cap, cur, rfl, h1, (hb g rfl).trans h2, h3⟩

section
set_option maxRecDepth 100000 in
set_option maxHeartbeats 4000000 in
theorem abuild_any {W : World} {pp : Option Addr} {n cp bp op : Nat} {p : Nat → Int} (hn : n ≤ 1024) (hpp : 0 < n → pp = some ⟨bp, op, none⟩ ∧ bp < W.heap.size) (hp : ∀ i, i < n → W.cell? ⟨bp, op + i, none⟩ = some (.int .i64 (p i))) :
    Calls Yba.prog 8 #[.slice pp n cp] W fun e w' => Below W.heap.size W w' ∧ ∃ (ll : List Nat) (σ : Sd) (s0 v : Value) (xs : List Value), e = .returned (.tuple #[.pointer (some ⟨W.heap.size, 0, none⟩), v]) ∧ Rep W.heap.size (· ∈ ll) exZ s0 w' σ ∧ Good σ ll ∧ ll.length ≤ n ∧
      w'.ownsRow (W.heap.size + 1) 2 1 v ll.length xs ∧ (∀ j, j < ll.length → ∃ y, y ∈ ll ∧ xs[j]? = some (.int .i64 (σ.price y))) ∧ ∀ y ∈ ll, W.heap.size ≤ y := by
  obtain ⟨i2', hi2, hz2, hs2, hb2⟩ := info_parts info2'
  go_enter Yba.func8, Yba.ntmps8
  go_wp2
  go_loopw [5, 13] (fun kv i ws => ∃ (t : Nat) (ll : List Nat) (σ : Sd) (xs : List Value), t ≤ n ∧ i = .int .i64 t ∧ Below W.heap.size W ws ∧ Rep W.heap.size (· ∈ ll) exZ (.int .u8 0) ws σ ∧ Good σ ll ∧ ll.length ≤ t ∧ ws.ownsRow (W.heap.size + 1) 2 1 kv ll.length xs ∧ (∀ j, j < ll.length → ∃ y, y ∈ ll ∧ xs[j]? = some (.int .i64 (σ.price y))) ∧ ∀ y ∈ ll, W.heap.size ≤ y) (fun _ i _ => n - (intOf i).toNat)
  case atStart =>
    refine ⟨0, [], ⟨fun _ => 0, fun _ _ => none, fun _ => none, fun _ => 0, fun _ _ => none, none, fun _ => none⟩, [], by omega, rfl, (Below.refl _ _).alloc (Nat.le_refl _) _, ?_, ?_, Nat.le_refl _, World.ownsRow_nil _ _ _ _, fun j hj => by simp at hj, fun y hy => by simp at hy⟩
    · refine ⟨fun y hy => by simp at hy, fun y hy => by simp at hy, by simp, fun y hy => by simp at hy, fun y hy => by simp at hy, fun o ho => ?_, fun o => World.frozen?_alloc_at _ _ _ _ rfl, fun y hy => by simp at hy⟩
      rw [World.cell?_alloc_at _ _ _ _ rfl]
      rcases (by omega : o = 0 ∨ o = 1 ∨ o = 2 ∨ o = 3) with rfl | rfl | rfl | rfl <;> rfl
    · refine ⟨⟨0, Tree.nil _ _⟩, by simp, fun y hy => by simp at hy, ⟨fun A x B e => by simp at e, rfl, rfl⟩, by simp⟩
  case round =>
    obtain ⟨t, ll, σ, xs, ht, rfl, hBs, hR, hG, hlt, hown, hxs, hge⟩ := hrel
    by_cases htl : t < n
    · have htI : (t : Int) < (n : Int) := by omega
      obtain ⟨hpe, hbz⟩ := hpp (by omega)
      subst hpe
      have c0 := (hBs.cell (p := ⟨bp, op + t, none⟩) hbz).trans (hp t htl)
      obtain ⟨hT, tree⟩ := hG.tree
      have hs := search_any (p t) hR tree hG.sort
      have hrn := row_not hR hown (by omega)
      have hlink : ∀ w2, Below wr.heap.size wr w2 → ∀ n9 pq d L R, Loc σ n9 pq d none 0 L R → L ++ R = ll → (∀ y ∈ L, σ.price y < p t) → (∀ y ∈ R, p t < σ.price y) →
          Calls Yba.prog 20 #[.pointer (some ⟨W.heap.size, 0, none⟩), .pointer (some ⟨w2.heap.size + 1, 0, none⟩), .agg #[.pointer none, ptr pq, wv d]] ((w2.alloc (.cells #[.pointer none, ptr pq, wv d] 86)).alloc (.cells #[.int .i64 (p t), .int .i64 0, .pointer none, .pointer none, .pointer none, .pointer none, .pointer none, .pointer none, .pointer none, .int .i8 0] 37))
            fun e w' => e = .returned (.tuple #[]) ∧ ∃ σ', Below W.heap.size W w' ∧ Rep W.heap.size (· ∈ L ++ (w2.heap.size + 1) :: R) exZ (.int .u8 0) w' σ' ∧ Good σ' (L ++ (w2.heap.size + 1) :: R) ∧ w'.ownsRow (W.heap.size + 1) 2 1 u5 ll.length xs ∧ (∀ y ∈ ll, σ'.price y = σ.price y) ∧ σ'.price (w2.heap.size + 1) = p t := by
        intro w2 hB2 n9 pq d L R hloc hLR hL hR'
        have hRa := (hR.over hB2).over ((Below.refl w2.heap.size w2).alloc (Nat.le_refl _) (.cells #[.pointer none, ptr pq, wv d] 86))
        subst hLR
        have hbn : w2.heap.size + 1 ∉ L ++ R := fun hh => by have := hR.lt _ hh; have := hB2.size; omega
        have hRb := hRa.add (p t) (b := w2.heap.size + 1) (by simp)
        have nd : (L ++ (w2.heap.size + 1) :: R).Nodup := by
          obtain ⟨a, b, c⟩ := List.nodup_append.1 hG.nd
          simp at hbn
          refine List.nodup_append.2 ⟨a, List.nodup_cons.2 ⟨hbn.2, b⟩, fun x hx y hy => ?_⟩
          rcases List.mem_cons.1 hy with rfl | hy
          · intro e; exact hbn.1 (e ▸ hx)
          · exact c x hx y hy
        have hne : ∀ y ∈ L ++ R, y ≠ w2.heap.size + 1 := fun y hy e => hbn (e ▸ hy)
        have hpf : ∀ y ∈ L ++ R, (fresh σ (w2.heap.size + 1) (p t)).price y = σ.price y := fun y hy => up_ne _ _ _ (hne y hy)
        have hpb : (fresh σ (w2.heap.size + 1) (p t)).price (w2.heap.size + 1) = p t := up_at _ _ _
        refine (link_any hRb (hG.fresh hbn (p t)) nd (fun e => by show (if w2.heap.size + 1 = w2.heap.size + 1 then none else σ.ch _ e) = none; rw [if_pos rfl]) (hloc.fresh hbn (p t)) (fun e => by show (if w2.heap.size + 1 = w2.heap.size + 1 then none else σ.nx _ e) = none; rw [if_pos rfl])
          (fun y hy => by rw [hpf y (by simp [hy]), hpb]; exact hL y hy) (fun y hy => by rw [hpf y (by simp [hy]), hpb]; exact hR' y hy) (by simp at hlt ⊢; omega)).mono ?_
        rintro e w9 ⟨rfl, σ9, R9, K9, G9, P9⟩
        have hBW3 : Below W.heap.size W ((w2.alloc (.cells #[.pointer none, ptr pq, wv d] 86)).alloc (.cells #[.int .i64 (p t), .int .i64 0, .pointer none, .pointer none, .pointer none, .pointer none, .pointer none, .pointer none, .pointer none, .int .i8 0] 37)) :=
          ((hBs.trans (hB2.mono hBs.size)).alloc (Nat.le_trans hBs.size hB2.size) _).alloc (by have := hBs.size; have := hB2.size; simp; omega) _
        refine ⟨rfl, σ9, hBW3.trans (K9.below hBW3.size (Nat.le_refl _) (fun y hy => ?_)), R9, G9, ?_, fun y hy => by rw [P9]; exact hpf y hy, by rw [P9]; exact hpb⟩
        · have hw := hB2.size
          have hw0 := hBs.size
          simp at hy
          rcases hy with h | h | h
          · exact hge y (by simp [h])
          · omega
          · exact hge y (by simp [h])
        · refine row_kept hown (fun k hk => ?_)
          have hkl := hown.lt k hk
          obtain ⟨h1, h2⟩ := hrn k hk
          have hw := hB2.size
          rw [K9.block k (by simp; omega) h2 (fun hh => by
            simp at hh h1
            rcases hh with h | h | h
            · exact h1.1 h
            · omega
            · exact h1.2 h), Below.heap_alloc _ _ k (by simp; omega), Below.heap_alloc _ _ k (by omega)]
          exact hB2.block k hkl.2
      have HS := hide (And.intro hrn hxs)
      clear hrn hxs
      go_wp2_with
        (first
          | (go_at_call 19; refine hs.mono ?_; rintro e w2 ⟨hB2, hcase⟩; rcases hcase with ⟨x, hx, hpx, rfl⟩ | ⟨n9, pq, d, L, R, hloc, hLR, hL, hR', rfl⟩; all_goals (try simp only [ptr, wv]))
          | (go_at_call 20; refine (hlink _ hB2 _ _ _ _ _ hloc hLR hL hR').mono ?_; rintro e w9 ⟨rfl, σ9, hB9, R9, G9, O9, P9, Pb⟩)
          | (at_builtin; refine wpList_append_own _ rfl _ _ 22 rfl (W.heap.size + 1) 2 i2' (.int .i64 0) 1 8 Yba.underlying22 hi2 hz2 hs2 hb2 rfl (by decide) _ ll.length xs rfl (O9.alloc _) _ 1 1 [.int .i64 (p t)] rfl rfl (lit_cells _ _ _ (by simp)) (by simp [Value.oneCell']) (by unfold maxLen; omega) (by omega) (by have := R9.slt; simp; omega) ?_; intro v5 w5 hown5 hgrow5 hnil5))
      · have hBa : Below wr.heap.size wr (w2.alloc (.cells #[.pointer (some ⟨x, 0, none⟩), .pointer none, .int .i64 0] 86)) := hB2.alloc hB2.size _
        refine ⟨⟨t + 1, ll, σ, xs, by omega, by go_num, hBs.trans (hBa.mono hBs.size), hR.over hBa, hG, by omega, row_kept hown (fun k hk => hBa.block k (hown.lt k hk).2), HS.out.2, hge⟩, by simp [intOf]; omega⟩
      · have hwb := hB2.size
        have hws := hBs.size
        have hrn9 := row_not R9 O9 (by omega)
        have R5 := (R9.over ((Below.refl w9.heap.size w9).alloc (Nat.le_refl _) (.cells #[.int .i64 (p t)] 2))).grown hgrow5 hrn9
        have hlen9 : (L ++ (w2.heap.size + 1) :: R).length = ll.length + 1 := by rw [← hLR]; simp; omega
        have hmem : ∀ y ∈ ll, y ∈ L ++ (w2.heap.size + 1) :: R := fun y hy => by rw [← hLR] at hy; simp at hy ⊢; rcases hy with h | h <;> simp [h]
        refine ⟨⟨t + 1, L ++ (w2.heap.size + 1) :: R, σ9, _, by omega, by go_num, (hB9.alloc hB9.size _).grown hgrow5 (by have := hB9.size; simp; omega) (fun k e => by have := (O9.lt k e).1; omega), R5, G9, by omega, by rw [hlen9]; exact hown5, fun j hj => ?_, fun y hy => ?_⟩, by simp [intOf]; omega⟩
        · rw [hlen9] at hj
          by_cases hjl : j < ll.length
          · obtain ⟨y, hy, hx⟩ := HS.out.2 j hjl
            refine ⟨y, hmem y hy, ?_⟩
            rw [List.getElem?_append_left (List.getElem?_eq_some_iff.1 hx).1, hx, P9 y hy]
          · have hje : j = ll.length := by omega
            have hl := O9.1
            rw [Nat.mul_one] at hl
            refine ⟨w2.heap.size + 1, by simp, ?_⟩
            rw [Pb, hje, List.getElem?_append_right (by omega), hl]
            simp
        · simp at hy
          rcases hy with h | h | h
          · exact hge y (by rw [← hLR]; simp [h])
          · omega
          · exact hge y (by rw [← hLR]; simp [h])
    · have htI : ¬ (t : Int) < (n : Int) := by omega
      go_wp2
      go_ret2
      refine ⟨hBs, ?_⟩
      refine ⟨ll, ?_⟩
      refine ⟨σ, ?_⟩
      refine ⟨.int .u8 0, ?_⟩
      refine ⟨u5, ?_⟩
      exact ⟨rfl, hR, hG, by omega, xs, hown, hxs, hge⟩
end

end Go.Proofs.Ybulkjrk
