/-
  OWN WORK: the build with the keys counted; the walk of LawS0517ADelete.
-/
import Derived.Test.YbulkjrkU5
namespace Go.Proofs.Ybulkjrk
open Go.RowKit
set_option linter.unusedSimpArgs false
set_option linter.unusedVariables false

section
set_option maxRecDepth 100000 in
set_option maxHeartbeats 4000000 in
theorem abuild_perm {W : World} {pp : Option Addr} {n cp bp op : Nat} {p : Nat → Int} (hn : n ≤ 1024) (hpp : 0 < n → pp = some ⟨bp, op, none⟩ ∧ bp < W.heap.size) (hp : ∀ i, i < n → W.cell? ⟨bp, op + i, none⟩ = some (.int .i64 (p i))) :
    Calls Yba.prog 8 #[.slice pp n cp] W fun e w' => Below W.heap.size W w' ∧ ∃ (ll : List Nat) (σ : Sd) (v : Value) (ks : List Int), e = .returned (.tuple #[.pointer (some ⟨W.heap.size, 0, none⟩), v]) ∧ Rep W.heap.size (· ∈ ll) exZ (.int .u8 0) w' σ ∧ Good σ ll ∧ ll.length ≤ n ∧
      w'.ownsRow (W.heap.size + 1) 2 1 v ll.length (ks.map (Value.int .i64)) ∧ ks.Perm (ll.map σ.price) ∧ ∀ y ∈ ll, W.heap.size ≤ y := by
  obtain ⟨i2', hi2, hz2, hs2, hb2⟩ := info_parts info2'
  go_enter Yba.func8, Yba.ntmps8
  go_wp2
  go_loopw [5, 13] (fun kv i ws => ∃ (t : Nat) (ll : List Nat) (σ : Sd) (ks : List Int), t ≤ n ∧ i = .int .i64 t ∧ Below W.heap.size W ws ∧ Rep W.heap.size (· ∈ ll) exZ (.int .u8 0) ws σ ∧ Good σ ll ∧ ll.length ≤ t ∧ ws.ownsRow (W.heap.size + 1) 2 1 kv ll.length (ks.map (Value.int .i64)) ∧ ks.Perm (ll.map σ.price) ∧ ∀ y ∈ ll, W.heap.size ≤ y) (fun _ i _ => n - (intOf i).toNat)
  case atStart =>
    refine ⟨0, [], ⟨fun _ => 0, fun _ _ => none, fun _ => none, fun _ => 0, fun _ _ => none, none, fun _ => none⟩, [], by omega, rfl, (Below.refl _ _).alloc (Nat.le_refl _) _, ?_, ?_, Nat.le_refl _, World.ownsRow_nil _ _ _ _, List.Perm.nil, fun y hy => by simp at hy⟩
    · refine ⟨fun y hy => by simp at hy, fun y hy => by simp at hy, by simp, fun y hy => by simp at hy, fun y hy => by simp at hy, fun o ho => ?_, fun o => World.frozen?_alloc_at _ _ _ _ rfl, fun y hy => by simp at hy⟩
      rw [World.cell?_alloc_at _ _ _ _ rfl]
      rcases (by omega : o = 0 ∨ o = 1 ∨ o = 2 ∨ o = 3) with rfl | rfl | rfl | rfl <;> rfl
    · refine ⟨⟨0, Tree.nil _ _⟩, by simp, fun y hy => by simp at hy, ⟨fun A x B e => by simp at e, rfl, rfl⟩, by simp⟩
  case round =>
    obtain ⟨t, ll, σ, ks, ht, rfl, hBs, hR, hG, hlt, hown, hxs, hge⟩ := hrel
    by_cases htl : t < n
    · have htI : (t : Int) < (n : Int) := by omega
      obtain ⟨hpe, hbz⟩ := hpp (by omega)
      subst hpe
      have c0 := (hBs.cell (p := ⟨bp, op + t, none⟩) hbz).trans (hp t htl)
      obtain ⟨hT, tree⟩ := hG.tree
      have hs := search_any (p t) hR tree hG.sort
      have hrn := row_not hR hown (by omega)
      have hlink : ∀ w2, Below wr.heap.size wr w2 → ∀ n9 pq d L R, Loc σ n9 pq d none 0 L R → L ++ R = ll → (∀ y ∈ L, σ.price y < p t) → (∀ y ∈ R, p t < σ.price y) →
          Calls Yba.prog 20 #[.pointer (some ⟨W.heap.size, 0, none⟩), .pointer (some ⟨w2.heap.size + 1, 0, none⟩), .agg #[.pointer none, ptr pq, wv d]] ((w2.alloc (.cells #[.pointer none, ptr pq, wv d] 86)).alloc (.cells #[.int .i64 (p t), .int .i64 0, .pointer none, .pointer none, .pointer none, .pointer none, .pointer none, .pointer none, .pointer none, .int .i8 0] 37))
            fun e w' => e = .returned (.tuple #[]) ∧ ∃ σ', Below W.heap.size W w' ∧ Rep W.heap.size (· ∈ L ++ (w2.heap.size + 1) :: R) exZ (.int .u8 0) w' σ' ∧ Good σ' (L ++ (w2.heap.size + 1) :: R) ∧ w'.ownsRow (W.heap.size + 1) 2 1 u5 ll.length (ks.map (Value.int .i64)) ∧ (∀ y ∈ ll, σ'.price y = σ.price y) ∧ σ'.price (w2.heap.size + 1) = p t := by
        intro w2 hB2 n9 pq d L R hloc hLR hL hR'
        have hRa := (hR.over hB2).over ((Below.refl w2.heap.size w2).alloc (Nat.le_refl _) (.cells #[.pointer none, ptr pq, wv d] 86))
        subst hLR
        have hbn : w2.heap.size + 1 ∉ L ++ R := fun hh => by have := hR.lt _ hh; have := hB2.size; omega
        have hRb := hRa.add (p t) (b := w2.heap.size + 1) (by simp)
        have nd : (L ++ (w2.heap.size + 1) :: R).Nodup := by
          obtain ⟨a, b, c⟩ := List.nodup_append.1 hG.nd
          simp at hbn
          refine List.nodup_append.2 ⟨a, List.nodup_cons.2 ⟨hbn.2, b⟩, fun x hx y hy => ?_⟩
          rcases List.mem_cons.1 hy with rfl | hy
          · intro e; exact hbn.1 (e ▸ hx)
          · exact c x hx y hy
        have hne : ∀ y ∈ L ++ R, y ≠ w2.heap.size + 1 := fun y hy e => hbn (e ▸ hy)
        have hpf : ∀ y ∈ L ++ R, (fresh σ (w2.heap.size + 1) (p t)).price y = σ.price y := fun y hy => up_ne _ _ _ (hne y hy)
        have hpb : (fresh σ (w2.heap.size + 1) (p t)).price (w2.heap.size + 1) = p t := up_at _ _ _
        refine (link_any hRb (hG.fresh hbn (p t)) nd (fun e => by show (if w2.heap.size + 1 = w2.heap.size + 1 then none else σ.ch _ e) = none; rw [if_pos rfl]) (hloc.fresh hbn (p t)) (fun e => by show (if w2.heap.size + 1 = w2.heap.size + 1 then none else σ.nx _ e) = none; rw [if_pos rfl])
          (fun y hy => by rw [hpf y (by simp [hy]), hpb]; exact hL y hy) (fun y hy => by rw [hpf y (by simp [hy]), hpb]; exact hR' y hy) (by simp at hlt ⊢; omega)).mono ?_
        rintro e w9 ⟨rfl, σ9, R9, K9, G9, P9⟩
        have hBW3 : Below W.heap.size W ((w2.alloc (.cells #[.pointer none, ptr pq, wv d] 86)).alloc (.cells #[.int .i64 (p t), .int .i64 0, .pointer none, .pointer none, .pointer none, .pointer none, .pointer none, .pointer none, .pointer none, .int .i8 0] 37)) :=
          ((hBs.trans (hB2.mono hBs.size)).alloc (Nat.le_trans hBs.size hB2.size) _).alloc (by have := hBs.size; have := hB2.size; simp; omega) _
        refine ⟨rfl, σ9, hBW3.trans (K9.below hBW3.size (Nat.le_refl _) (fun y hy => ?_)), R9, G9, ?_, fun y hy => by rw [P9]; exact hpf y hy, by rw [P9]; exact hpb⟩
        · have hw := hB2.size
          have hw0 := hBs.size
          simp at hy
          rcases hy with h | h | h
          · exact hge y (by simp [h])
          · omega
          · exact hge y (by simp [h])
        · refine row_kept hown (fun k hk => ?_)
          have hkl := hown.lt k hk
          obtain ⟨h1, h2⟩ := hrn k hk
          have hw := hB2.size
          rw [K9.block k (by simp; omega) h2 (fun hh => by
            simp at hh h1
            rcases hh with h | h | h
            · exact h1.1 h
            · omega
            · exact h1.2 h), Below.heap_alloc _ _ k (by simp; omega), Below.heap_alloc _ _ k (by omega)]
          exact hB2.block k hkl.2
      have HS := hide (And.intro hrn hxs)
      clear hrn hxs
      go_wp2_with
        (first
          | (go_at_call 19; refine hs.mono ?_; rintro e w2 ⟨hB2, hcase⟩; rcases hcase with ⟨x, hx, hpx, rfl⟩ | ⟨n9, pq, d, L, R, hloc, hLR, hL, hR', rfl⟩; all_goals (try simp only [ptr, wv]))
          | (go_at_call 20; refine (hlink _ hB2 _ _ _ _ _ hloc hLR hL hR').mono ?_; rintro e w9 ⟨rfl, σ9, hB9, R9, G9, O9, P9, Pb⟩)
          | (at_builtin; refine wpList_append_own _ rfl _ _ 22 rfl (W.heap.size + 1) 2 i2' (.int .i64 0) 1 8 Yba.underlying22 hi2 hz2 hs2 hb2 rfl (by decide) _ ll.length (ks.map (Value.int .i64)) rfl (O9.alloc _) _ 1 1 [.int .i64 (p t)] rfl rfl (lit_cells _ _ _ (by simp)) (by simp [Value.oneCell']) (by unfold maxLen; omega) (by omega) (by have := R9.slt; simp; omega) ?_; intro v5 w5 hown5 hgrow5 hnil5))
      · have hBa : Below wr.heap.size wr (w2.alloc (.cells #[.pointer (some ⟨x, 0, none⟩), .pointer none, .int .i64 0] 86)) := hB2.alloc hB2.size _
        refine ⟨⟨t + 1, ll, σ, ks, by omega, by go_num, hBs.trans (hBa.mono hBs.size), hR.over hBa, hG, by omega, row_kept hown (fun k hk => hBa.block k (hown.lt k hk).2), HS.out.2, hge⟩, by simp [intOf]; omega⟩
      · have hwb := hB2.size
        have hws := hBs.size
        have hrn9 := row_not R9 O9 (by omega)
        have R5 := (R9.over ((Below.refl w9.heap.size w9).alloc (Nat.le_refl _) (.cells #[.int .i64 (p t)] 2))).grown hgrow5 hrn9
        have hlen9 : (L ++ (w2.heap.size + 1) :: R).length = ll.length + 1 := by rw [← hLR]; simp; omega
        have hmem : ∀ y ∈ ll, y ∈ L ++ (w2.heap.size + 1) :: R := fun y hy => by rw [← hLR] at hy; simp at hy ⊢; rcases hy with h | h <;> simp [h]
        refine ⟨⟨t + 1, L ++ (w2.heap.size + 1) :: R, σ9, ks ++ [p t], by omega, by go_num, (hB9.alloc hB9.size _).grown hgrow5 (by have := hB9.size; simp; omega) (fun k e => by have := (O9.lt k e).1; omega), R5, G9, by omega, by rw [hlen9, List.map_append]; exact hown5, ?_, fun y hy => ?_⟩, by simp [intOf]; omega⟩
        · have hm : (L ++ (w2.heap.size + 1) :: R).map σ9.price = L.map σ.price ++ p t :: R.map σ.price := by
            rw [List.map_append, List.map_cons, Pb]
            congr 1
            · exact List.map_congr_left (fun y hy => P9 y (by rw [← hLR]; simp [hy]))
            · congr 1
              exact List.map_congr_left (fun y hy => P9 y (by rw [← hLR]; simp [hy]))
          rw [hm]
          have hp9 := HS.out.2
          rw [← hLR, List.map_append] at hp9
          exact (hp9.append_right [p t]).trans (by rw [List.append_assoc]; exact List.Perm.append_left _ (List.perm_append_singleton _ _))
        · simp at hy
          rcases hy with h | h | h
          · exact hge y (by rw [← hLR]; simp [h])
          · omega
          · exact hge y (by rw [← hLR]; simp [h])
    · have htI : ¬ (t : Int) < (n : Int) := by omega
      go_wp2
      go_ret2
      exact ⟨hBs, ll, σ, u5, rfl, hR, hG, by omega, ks, hown, hxs, hge⟩
end

theorem row_base {W : World} {v : Value} {n base base' : Nat} {xs : List Value} (h : W.ownsRow base' 2 1 v n xs) (hb : base ≤ base') : W.ownsRow base 2 1 v n xs := by
  refine ⟨h.1, ?_⟩
  rcases h.2 with h | ⟨g, cap, cur, rfl, h1, h2⟩
  · exact .inl h
  · exact .inr ⟨g, cap, cur, rfl, Nat.le_trans hb h1, h2⟩
theorem valid_perm {S : Nat} {ex : Nat → Nat → Value} {s0 v : Value} {ll : List Nat} {W : World} {σ : Sd} {base : Nat} {ks : List Int} (h : Rep S (· ∈ ll) ex s0 W σ) (hG : Good σ ll) (hlen : ll.length ≤ 1100) (hown : W.ownsRow base 2 1 v ll.length (ks.map (Value.int .i64)))
    (hp : ks.Perm (ll.map σ.price)) : Calls Yba.prog 9 #[.pointer (some ⟨S, 0, none⟩), v] W fun e w' => e = .returned (.bool true) ∧ Below W.heap.size W w' := by
  refine valid_of h hG hlen hown (fun j hj => ?_)
  have hl : ks.length = ll.length := by rw [hp.length_eq]; simp
  have hm : ks[j] ∈ ll.map σ.price := hp.mem_iff.1 (List.getElem_mem (by omega))
  obtain ⟨y, hy, e⟩ := List.mem_map.1 hm
  exact ⟨y, hy, by simp [List.getElem?_eq_getElem (show j < ks.length by omega), e]⟩
theorem perm_off {σ : Sd} {A B : List Nat} {x : Nat} {ks : List Int} (hp : ks.Perm ((A ++ x :: B).map σ.price)) (hs : (A ++ x :: B).Pairwise fun x y => σ.price x < σ.price y) : (ks.filter fun z => decide (z ≠ σ.price x)).Perm ((A ++ B).map σ.price) := by
  obtain ⟨a, b, c⟩ := List.pairwise_append.1 hs
  have hb := (List.pairwise_cons.1 b).1
  have h1 := hp.filter (fun z => decide (z ≠ σ.price x))
  have fA : (A.map σ.price).filter (fun z => decide (z ≠ σ.price x)) = A.map σ.price := List.filter_eq_self.2 (fun z hz => by
    obtain ⟨y, hy, rfl⟩ := List.mem_map.1 hz
    have := c y hy x (by simp)
    simp; omega)
  have fB : (B.map σ.price).filter (fun z => decide (z ≠ σ.price x)) = B.map σ.price := List.filter_eq_self.2 (fun z hz => by
    obtain ⟨y, hy, rfl⟩ := List.mem_map.1 hz
    have := hb y hy
    simp; omega)
  rw [List.map_append, List.map_cons, List.filter_append, List.filter_cons_of_neg (by simp), fA, fB] at h1
  rw [List.map_append]; exact h1

end Go.Proofs.Ybulkjrk
