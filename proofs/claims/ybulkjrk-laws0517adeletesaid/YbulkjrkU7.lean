/-
  OWN WORK: the walk of LawS0517ADelete.
-/
import Derived.Test.YbulkjrkU6
namespace Go.Proofs.Ybulkjrk
open Go.RowKit
set_option linter.unusedSimpArgs false
set_option linter.unusedVariables false

theorem row_form {W : World} {v : Value} {n base : Nat} {xs : List Value} (h : W.ownsRow base 2 1 v n xs) : ∃ pk ck bk, v = .slice pk n ck ∧ (0 < n → pk = some ⟨bk, 0, none⟩ ∧ bk < W.heap.size) ∧ ∀ j, j < n → W.cell? ⟨bk, j, none⟩ = xs[j]? := by
  have h2 := h
  rcases h.2 with ⟨rfl, hz⟩ | ⟨g, cap, cur, rfl, hb, hg, _⟩
  · exact ⟨none, 0, 0, by rw [hz], fun h => by omega, fun j hj => by omega⟩
  · exact ⟨_, _, g, rfl, fun _ => ⟨rfl, (Array.getElem?_eq_some_iff.1 hg).1⟩, fun j hj => h2.cellAt j (by omega)⟩

set_option maxRecDepth 100000 in
set_option maxHeartbeats 1600000 in
theorem del_walk {W : World} {pp pd : Option Addr} {n cp bp op nd cd bd od : Nat} {p : Nat → Int} {dn : Nat → Nat} (hn : n ≤ 1024) (hnd : nd ≤ 1024) (hpp : 0 < n → pp = some ⟨bp, op, none⟩ ∧ bp < W.heap.size) (hp : ∀ i, i < n → W.cell? ⟨bp, op + i, none⟩ = some (.int .i64 (p i)))
    (hpd : 0 < nd → pd = some ⟨bd, od, none⟩ ∧ bd < W.heap.size) (hd : ∀ i, i < nd → W.cell? ⟨bd, od + i, none⟩ = some (.int .u8 (dn i))) (hdn : ∀ i, i < nd → dn i ≤ 255) :
    Calls Yba.prog 4 #[.slice pp n cp, .slice pd nd cd] W fun e w' => e = .returned (.bool true) ∧ Below W.heap.size W w' := by
  have hnI : ¬ (1024 : Int) < (n : Int) := by omega
  have hndI : ¬ (1024 : Int) < (nd : Int) := by omega
  obtain ⟨i2', hi2, hz2, hs2, hb2⟩ := info_parts info2'
  have hbld := abuild_perm (cp := cp) hn hpp hp
  go_enter Yba.func4, Yba.ntmps4
  go_wp2_with (go_at_call 8; refine hbld.mono ?_; rintro e w1 ⟨hB1, ll, σ, v, ks, rfl, hR, hG, hl, hown, hperm, hge⟩)
  go_loopw [6, 31] (fun kv i ws => ∃ (t : Nat) (ll : List Nat) (σ : Sd) (ks : List Int), t ≤ nd ∧ i = .int .i64 t ∧ Below W.heap.size W ws ∧ Rep W.heap.size (· ∈ ll) exZ (.int .u8 0) ws σ ∧ Good σ ll ∧ ll.length ≤ 1024 ∧ ws.ownsRow (W.heap.size + 1) 2 1 kv ll.length (ks.map (Value.int .i64)) ∧ ks.Perm (ll.map σ.price) ∧ ∀ y ∈ ll, W.heap.size ≤ y) (fun _ i _ => nd - (intOf i).toNat)
  case atStart => exact ⟨0, ll, σ, ks, by omega, rfl, hB1, hR, hG, by omega, hown, hperm, hge⟩
  case round =>
    clear hbld hB1 hR hG hl hown hperm hge
    obtain ⟨t, ll, σ, ks, ht, rfl, hBs, hR, hG, hl, hown, hperm, hge⟩ := hrel
    obtain ⟨pk, ck, bk, rfl, hpk, hkc⟩ := row_form hown
    have hval := valid_perm hR hG (by omega) hown hperm
    by_cases htl : t < nd
    · have htI : (t : Int) < (nd : Int) := by omega
      obtain ⟨hpe, hbz⟩ := hpd (by omega)
      subst hpe
      have c0 := (hBs.cell (p := ⟨bd, od + t, none⟩) hbz).trans (hd t htl)
      have hdt := hdn t htl
      by_cases hz : ll.length = 0
      · have hzI : ((ll.length : Nat) : Int) = 0 := by omega
        rw [hz] at hval
        clear hown hkc hpk hperm hG
        go_wp2_with (go_at_call 9; refine hval.mono ?_; rintro e w2 ⟨rfl, hB2⟩)
        go_ret
        exact ⟨rfl, hBs.trans (hB2.mono hBs.size)⟩
      · have hzI : ¬ ((ll.length : Nat) : Int) = 0 := by omega
        obtain ⟨hpke, hbk⟩ := hpk (by omega)
        subst hpke
        obtain ⟨kk, hkk, hkl⟩ : ∃ kk : Nat, (dn t : Int) % (ll.length : Int) = kk ∧ kk < ll.length := ⟨dn t % ll.length, by simp, Nat.mod_lt _ (by omega)⟩
        have e0 := hR.side 2 (by omega)
        simp only [sv] at e0
        rw [hG.chain.2.1] at e0
        have hkI : ((kk : Nat) : Int) < (ll.length : Int) := by omega
        have hlI : ((ll.length : Nat) : Int) ≤ 1024 := by omega
        have HX := hide (And.intro hG (And.intro hperm (And.intro hown (And.intro hkc hval))))
        clear hG hperm hown hkc hval
        go_wp2
        go_loopw [10, 11] (fun lv' i ws => ∃ A B : List Nat, ll = A ++ B ∧ A.length ≤ kk ∧ lv' = ptr B.head? ∧ i = .int .i64 A.length ∧ ws = wr) (fun _ i _ => kk + 1 - (intOf i).toNat)
        case atStart => exact ⟨[], ll, rfl, by simp, rfl, rfl, rfl⟩
        case round =>
          obtain ⟨A, B, hAB, hAk, rfl, rfl, rfl⟩ := hrel
          cases B with
          | nil => rw [hAB] at hkl; simp at hkl; omega
          | cons x B =>
            have hx : x ∈ ll := by rw [hAB]; simp
            have c5 := hR.cell x hx 5 (by omega)
            have c1 := hR.cell x hx 0 (by omega)
            simp only [lv] at c5 c1
            rw [(HX.out.1.chain.1 A x B hAB).2] at c5
            have hpx2 : ptr (some x) = .pointer (some ⟨x, 0, none⟩) := rfl
            simp only [List.head?_cons, hpx2]
            by_cases hA : A.length < kk
            · have hAI : ((A.length : Nat) : Int) < (kk : Int) := by omega
              go_wp2
              go_roundw
              case rel => exact ⟨A ++ [x], B, by rw [hAB]; simp, by simp; omega, rfl, by simp, by first | exact trivial | rfl⟩
              case measure => simp [intOf]; omega
            · have hAI : ¬ ((A.length : Nat) : Int) < (kk : Int) := by omega
              generalize wr = w0 at *
              have HAB := hide hAB
              have hunl := unlink_any (L := A) (x := x) (R := B) (by rw [← hAB]; exact hR) (by rw [← hAB]; exact HX.out.1) (by rw [← hAB]; omega)
              clear hAB
              have hrn := row_not hR HX.out.2.2.1 (by omega)
              obtain ⟨pz, hpz⟩ : ∃ pz, pz = σ.price x := ⟨_, rfl⟩
              rw [← hpz] at c1
              go_wp2_with (go_at_call 10; refine hunl.mono ?_; rintro e w2 ⟨rfl, σ2, R2, K2, G2, P2⟩)
              have hB2 : Below W.heap.size W w2 := hBs.trans (K2.below hBs.size (Nat.le_refl _) (fun y hy => hge y (by rw [HAB.out]; exact hy)))
              have hown2 : w2.ownsRow (W.heap.size + 1) 2 1 (.slice (some ⟨bk, 0, none⟩) ll.length ck) ll.length (ks.map (Value.int .i64)) := row_kept HX.out.2.2.1 (fun k hk => K2.block k (HX.out.2.2.1.lt k hk).2 (hrn k hk).2 (fun hh => (hrn k hk).1 (by rw [HAB.out]; exact hh)))
              have hkc2 : ∀ j, j < ll.length → w2.cell? ⟨bk, j, none⟩ = (ks.map (Value.int .i64))[j]? := fun j hj => hown2.cellAt j (by omega)
              have hbk2 : bk < w2.heap.size := Nat.lt_of_lt_of_le hbk K2.size
              have hkl2 : ks.length = ll.length := by rw [HX.out.2.1.length_eq]; simp
              have zS := R2.slt
              have hpf := perm_off (σ := σ) (ks := ks) (A := A) (x := x) (B := B) (by rw [← HAB.out]; exact HX.out.2.1) (by rw [← HAB.out]; exact HX.out.1.sort)
              rw [← hpz] at hpf
              go_loopw [13, 71] (fun rv i ws => ∃ u : Nat, u ≤ ll.length ∧ i = .int .i64 u ∧ Below w2.heap.size w2 ws ∧ ws.ownsRow w2.heap.size 2 1 rv ((ks.take u).filter fun z => decide (z ≠ pz)).length (((ks.take u).filter fun z => decide (z ≠ pz)).map (Value.int .i64))) (fun _ i _ => ll.length - (intOf i).toNat)
              case atStart => exact ⟨0, by omega, rfl, Below.refl _ _, World.ownsRow_nil _ _ _ _⟩
              case round =>
                obtain ⟨u, hu, rfl, hBu, hownu⟩ := hrel
                by_cases hul : u < ll.length
                · have huI : (u : Int) < (ll.length : Int) := by omega
                  have huk : u < ks.length := by omega
                  have cu : wr.cell? ⟨bk, u, none⟩ = some (.int .i64 ks[u]) := (hBu.cell (p := ⟨bk, u, none⟩) hbk2).trans ((hkc2 u hul).trans (by simp [List.getElem?_eq_getElem huk]))
                  have htk : ks.take (u + 1) = ks.take u ++ [ks[u]] := (List.take_append_getElem huk).symm
                  have hfl : ((ks.take u).filter fun z => decide (z ≠ pz)).length ≤ 1024 := Nat.le_trans (List.length_filter_le _ _) (by simp; omega)
                  generalize ks[u] = kv at *
                  by_cases hq : kv = pz
                  · have hfe : ((ks.take (u + 1)).filter fun z => decide (z ≠ pz)) = (ks.take u).filter fun z => decide (z ≠ pz) := by rw [htk, List.filter_append]; simp [hq]
                    have hq' := hq
                    subst hq
                    go_wp2
                    go_roundw
                    case rel => exact ⟨u + 1, by omega, by go_num, hBu, by rw [hfe]; exact hownu⟩
                    case measure => simp [intOf]; omega
                  · have hfe : ((ks.take (u + 1)).filter fun z => decide (z ≠ pz)) = ((ks.take u).filter fun z => decide (z ≠ pz)) ++ [kv] := by rw [htk, List.filter_append]; simp [hq]
                    have HF := hide hfe
                    clear hfe htk
                    generalize ((ks.take u).filter fun z => decide (z ≠ pz)) = fl at *
                    go_wp2_with
                      (first
                        | (at_builtin; refine wpList_append_own _ rfl _ _ 22 rfl w2.heap.size 2 i2' (.int .i64 0) 1 8 Yba.underlying22 hi2 hz2 hs2 hb2 rfl (by decide) _ fl.length (fl.map (Value.int .i64)) rfl (hownu.alloc _) _ 1 1 [.int .i64 kv] rfl rfl (lit_cells _ _ _ (by simp)) (by simp [Value.oneCell']) (by unfold maxLen; omega) (by omega) (by have := hBu.size; simp; omega) ?_; intro v5 w5 hown5 hgrow5 hnil5))
                    have hB5 : Below w2.heap.size w2 w5 := (hBu.alloc hBu.size _).grown hgrow5 (by have := hBu.size; simp; omega) (fun k e => (hownu.lt k e).1)
                    have hown6 : w5.ownsRow w2.heap.size 2 1 v5 ((ks.take (u + 1)).filter fun z => decide (z ≠ pz)).length (((ks.take (u + 1)).filter fun z => decide (z ≠ pz)).map (Value.int .i64)) := by rw [HF.out]; simpa using hown5
                    first
                      | (refine ⟨⟨u + 1, by omega, by go_num, hB5, hown6⟩, by simp [intOf]; omega⟩)
                      | (refine ⟨⟨v5, _, _, ⟨u + 1, by omega, rfl, hB5, hown6⟩, rfl, rfl, by go_num⟩, by simp [intOf]; omega⟩)
                · have huI : ¬ (u : Int) < (ll.length : Int) := by omega
                  have htk : ks.take u = ks := List.take_of_length_le (by omega)
                  rw [htk] at hownu
                  have hfl : (ks.filter fun z => decide (z ≠ pz)).length = (A ++ B).length := by rw [hpf.length_eq]; simp
                  rw [hfl] at hownu
                  have R9 := R2.over hBu
                  have hpf2 : (ks.filter fun z => decide (z ≠ pz)).Perm ((A ++ B).map σ2.price) := by rw [P2]; exact hpf
                  have hlen9 : (A ++ B).length ≤ 1024 := by have := congrArg List.length HAB.out; simp at this ⊢; omega
                  have hval9 := valid_perm R9 G2 (by omega) hownu hpf2
                  have HY := hide (And.intro hownu (And.intro R9 (And.intro hpf2 (And.intro G2 hpf))))
                  clear hownu R9 hpf2 hpf hown2 hkc2 R2 K2 hrn hR hfl htk
                  go_wp2_with (go_at_call 9; refine hval9.mono ?_; rintro e w5 ⟨rfl, hB5⟩)
                  obtain ⟨hownu, R9, hpf2, G2, hpf⟩ := HY.out
                  have hw2 := hBu.size
                  have hw3 := hB2.size
                  have hBf : Below W.heap.size W w5 := (hB2.trans (hBu.mono hB2.size)).trans (hB5.mono (Nat.le_trans hB2.size hBu.size))
                  have hrow9 : w5.ownsRow (W.heap.size + 1) 2 1 u13 (A ++ B).length ((ks.filter fun z => decide (z ≠ pz)).map (Value.int .i64)) := row_base (row_kept hownu (fun k hk => hB5.block k (hownu.lt k hk).2)) (by omega)
                  have hge9 : ∀ y ∈ A ++ B, W.heap.size ≤ y := fun y hy => hge y (by rw [HAB.out]; simp at hy ⊢; rcases hy with h | h <;> simp [h])
                  first
                    | (refine ⟨⟨t + 1, A ++ B, σ2, ks.filter fun z => decide (z ≠ pz), by omega, by go_num, hBf, R9.over hB5, G2, hlen9, hrow9, hpf2, hge9⟩, by simp [intOf]; omega⟩)
                    | (go_roundw
                       case rel => exact ⟨t + 1, A ++ B, σ2, ks.filter fun z => decide (z ≠ pz), by omega, by go_num, hBf, R9.over hB5, G2, hlen9, hrow9, hpf2, hge9⟩
                       case measure => simp [intOf]; omega)
    · have htI : ¬ (t : Int) < (nd : Int) := by omega
      go_wp2_with (go_at_call 9; refine hval.mono ?_; rintro e w2 ⟨rfl, hB2⟩)
      go_ret
      exact ⟨rfl, hBs.trans (hB2.mono hBs.size)⟩

end Go.Proofs.Ybulkjrk
