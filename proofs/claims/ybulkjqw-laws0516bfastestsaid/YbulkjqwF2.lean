import Derived.Test.YbulkjqwF1
import Derived.Deep.DeepCutAuto
namespace Go.Proofs.Ybulkjqw
open Go.RowKit
set_option linter.unusedSimpArgs false
set_option linter.unusedVariables false

theorem int_eq {k : IntKind} {a b : Int} (h : a = b) : Value.int k a = .int k b := by rw [h]
theorem ret_int {k : IntKind} {a b : Int} (h : a = b) : Ending.returned (.int k a) = .returned (.int k b) := by rw [h]

/-- What zzs0516bnode answers. -/
def nodeOf (req : Nat → Int) (h B N : Nat) (cv cs : Int) (v s : Nat → Int) : Int :=
  if 0 ≤ (prevTo (cntTo req h B) N).1 ∧ cv ≤ v (prevTo (cntTo req h B) N).1.toNat ∧ cs ≤ s (prevTo (cntTo req h B) N).1.toNat then (prevTo (cntTo req h B) N).1 else (pickTo cv cs v s N).1

theorem info3 : (Yba.prog.info? 3).map (fun i => (i.zero.map Value.cells, i.size, i.bytes)) = some (some ⟨[.int .i64 0]⟩, 1, 8) := by kernel_rfl

/-- What a round of the loops of zzs0516bnode knows of the world: the counts lie in block C; what lay below C is as it was. -/
structure BW (C N : Nat) (w1 wr : World) (cnt : Int → Int) : Prop where
  below : Below C w1 wr
  size : C < wr.heap.size
  ct : ∀ k : Nat, k < N → wr.cell? ⟨C, k, none⟩ = some (.int .i64 (cnt k))
  fz : ∀ k, wr.frozen? ⟨C, k, none⟩ = false
theorem BW.put {C N : Nat} {w1 wr : World} {cnt cnt' : Int → Int} (h : BW C N w1 wr cnt) {q : Nat} (hq : q < N) {x : Int} (hx : x = cnt' q) (he : ∀ k : Nat, k < N → k ≠ q → cnt' k = cnt k) : BW C N w1 (wr.setCell ⟨C, q, none⟩ (.int .i64 x)) cnt' := by
  refine ⟨h.below.setCell (Nat.le_refl _) _, by simpa using h.size, fun k hk => ?_, fun k => by rw [World.frozen?_setCell]; exact h.fz k⟩
  by_cases e : k = q
  · subst e; rw [World.cell?_setCell_same _ _ _ (h.ct k hk), hx]
  · rw [World.cell?_setCell_other _ _ _ _ (by simp only [ne_eq, Addr.mk.injEq]; omega), h.ct k hk, he k hk e]
theorem BW.same {C N : Nat} {w1 wr : World} {cnt cnt' : Int → Int} (h : BW C N w1 wr cnt) (he : ∀ k : Nat, k < N → cnt' k = cnt k) : BW C N w1 wr cnt' :=
  ⟨h.below, h.size, fun k hk => by rw [he k hk]; exact h.ct k hk, h.fz⟩
theorem BW.drewN {C N : Nat} {w1 wr : World} {cnt : Int → Int} (h : BW C N w1 wr cnt) (n : Nat) : BW C N w1 (wr.drewN n) cnt := ⟨below_draws h.below n, h.size, h.ct, h.fz⟩
theorem cntTo_neg (req : Nat → Int) (h j : Nat) (hj : h ≤ j) (hr : req j < 0) (k : Nat) : cntTo req h (j + 1 - h) k = cntTo req h (j - h) k := by
  rw [show j + 1 - h = (j - h) + 1 from by omega, cntTo, show h + (j - h) = j from by omega, if_neg (by omega)]; omega
theorem cntTo_hit (req : Nat → Int) (h j : Nat) (hj : h ≤ j) (q : Nat) (hr : req j = q) : cntTo req h (j - h) q + 1 = cntTo req h (j + 1 - h) q := by
  rw [show j + 1 - h = (j - h) + 1 from by omega, cntTo, show h + (j - h) = j from by omega, if_pos hr]
theorem cntTo_miss (req : Nat → Int) (h j : Nat) (hj : h ≤ j) (q : Nat) (hr : req j = q) (k : Nat) (hk : k ≠ q) : cntTo req h (j + 1 - h) k = cntTo req h (j - h) k := by
  rw [show j + 1 - h = (j - h) + 1 from by omega, cntTo, show h + (j - h) = j from by omega, if_neg (by omega)]; omega

set_option maxRecDepth 100000 in
set_option maxHeartbeats 1000000 in
theorem bnode_any (br bn m N h B : Nat) (req : Nat → Int) (cv cs L : Int) (v s : Nat → Int) (w : World) (hbr : br < w.heap.size) (hbn : bn < w.heap.size) (hN : N ≤ 256) (hB : B ≤ 11) (hm : h + B ≤ m) (hm2 : m ≤ 100)
    (hreq : ∀ j, j < m → w.cell? ⟨br, j * 4 + 3, none⟩ = some (.int .i64 (req j))) (hrq : ∀ j, j < m → -1 ≤ req j ∧ req j < N)
    (hv : ∀ k, k < N → w.cell? ⟨bn, k * 5, none⟩ = some (.int .i64 (v k))) (hs : ∀ k, k < N → w.cell? ⟨bn, k * 5 + 1, none⟩ = some (.int .i64 (s k))) :
    Calls Yba.prog 13 #[.slice (some ⟨br, 0, none⟩) m m, .slice (some ⟨bn, 0, none⟩) N N, .int .i64 h, .agg #[.int .i64 B, .int .i64 cv, .int .i64 cs, .int .i64 L]] w
      fun e w' => e = .returned (.int .i64 (nodeOf req h B N cv cs v s)) ∧ Below w.heap.size w w' := by
  obtain ⟨w1, hr, hB1, hz1, hc1, hf1⟩ := make_gen 46 3 1 8 [.int .i64 0] Yba.underlying46 info3 rfl N N (Nat.le_refl _) (by omega) (by omega) (w.alloc (.cells #[.int .i64 B, .int .i64 cv, .int .i64 cs, .int .i64 L] 45))
  rw [World.size_alloc] at hB1 hz1 hc1 hf1
  have HR : Hid _ := hr
  clear hr
  have hB1' : Below w.heap.size w w1 := ((Below.refl _ _).alloc (Nat.le_refl _) _).trans (hB1.mono (by omega))
  have hx0 : w1.cell? ⟨w.heap.size, 0, none⟩ = some (.int .i64 B) := by rw [hB1.cell (p := ⟨w.heap.size, 0, none⟩) (by simp)]; simp
  have hx1 : w1.cell? ⟨w.heap.size, 1, none⟩ = some (.int .i64 cv) := by rw [hB1.cell (p := ⟨w.heap.size, 1, none⟩) (by simp)]; simp
  have hx2 : w1.cell? ⟨w.heap.size, 2, none⟩ = some (.int .i64 cs) := by rw [hB1.cell (p := ⟨w.heap.size, 2, none⟩) (by simp)]; simp
  have hreq1 : ∀ j, j < m → w1.cell? ⟨br, j * 4 + 3, none⟩ = some (.int .i64 (req j)) := fun j hj => ((bcell hB1').1 _ _ hbr).trans (hreq j hj)
  have hv1 : ∀ k, k < N → w1.cell? ⟨bn, k * 5, none⟩ = some (.int .i64 (v k)) := fun j hj => ((bcell hB1').1 _ _ hbn).trans (hv j hj)
  have hs1 : ∀ k, k < N → w1.cell? ⟨bn, k * 5 + 1, none⟩ = some (.int .i64 (s k)) := fun j hj => ((bcell hB1').1 _ _ hbn).trans (hs j hj)
  have hct : ∀ k, k < N → w1.cell? ⟨w.heap.size + 1, k, none⟩ = some (.int .i64 0) := fun k hk => by rw [hc1 k (by omega)]; simp [Nat.mod_one]
  clear hc1 hreq hv hs
  go_enter Yba.func13, Yba.ntmps13
  go_wp2_with (at_make; refine wpList_make_gen HR.out rfl _ _ rfl rfl rfl ?_)
  go_loopw [11] (fun j wr => ∃ jn : Nat, h ≤ jn ∧ jn ≤ h + B ∧ j = .int .i64 jn ∧ BW (w.heap.size + 1) N w1 wr (cntTo req h (jn - h))) (fun j _ => h + B - (intOf j).toNat)
  case atStart => exact ⟨h, Nat.le_refl _, by omega, rfl, Below.refl _ _, by omega, fun k hk => by rw [Nat.sub_self]; exact hct k hk, hf1⟩
  case round =>
    obtain ⟨j, hj1, hj2, rfl, hW⟩ := hrel
    have a0 : wr.cell? ⟨w.heap.size, 0, none⟩ = some (.int .i64 B) := (hW.below.cell (p := ⟨w.heap.size, 0, none⟩) (by simp)).trans hx0
    clear hf1 hct HR hx0
    by_cases hlt : j < h + B
    · have hltI : (j : Int) < (h : Int) + (B : Int) := by omega
      have r0 : wr.cell? ⟨br, j * 4 + 3, none⟩ = some (.int .i64 (req j)) := (hW.below.cell (p := ⟨br, j * 4 + 3, none⟩) (by simp; omega)).trans (hreq1 j (by omega))
      have hjm : (j : Int) < (m : Int) := by omega
      have hq1 := (hrq j (by omega)).1
      have hq2 := (hrq j (by omega)).2
      clear hreq1 hv1 hs1 hrq hx1 hx2
      by_cases hneg : req j < 0
      · go_wp2
        go_roundw
        case rel => exact ⟨j + 1, by omega, by omega, by go_num, hW.same fun k hk => cntTo_neg req h j hj1 hneg k⟩
        case measure => simp [intOf]; omega
      · obtain ⟨q, hq⟩ := Int.eq_ofNat_of_zero_le (by omega : 0 ≤ req j)
        have hqN : q < N := by omega
        have hqI : (q : Int) < (N : Int) := by omega
        have c0 := hW.ct q hqN
        have f0 := hW.fz q
        have hbd := cntTo_bd req h (j - h) q
        have hh := cntTo_hit req h j hj1 q hq
        have HQ : Hid (req j = q) := hq
        generalize cntTo req h (j - h) q = x at *
        have HH : Hid (x + 1 = cntTo req h (j + 1 - h) q) := hh
        rw [hq] at r0
        clear hh hq hq1 hq2 hneg
        have hb1 := hbd.1
        have hb2 : x ≤ 11 := by omega
        go_wp2
        go_roundw
        case rel => exact ⟨j + 1, by omega, by omega, by go_num, hW.put hqN HH.out fun k hk hne => cntTo_miss req h j hj1 q HQ.out k hne⟩
        case measure => simp [intOf]; omega
    · have hge : ¬ (j : Int) < (h : Int) + (B : Int) := by omega
      have hje : j = h + B := by omega
      subst hje
      rw [show h + B - h = B from by omega] at hW
      have e1 : ∀ k : Nat, k < N → wr.cell? ⟨bn, k * 5, none⟩ = some (.int .i64 (v k)) := fun k hk => (hW.below.cell (p := ⟨bn, k * 5, none⟩) (by simp; omega)).trans (hv1 k hk)
      have e2 : ∀ k : Nat, k < N → wr.cell? ⟨bn, k * 5 + 1, none⟩ = some (.int .i64 (s k)) := fun k hk => (hW.below.cell (p := ⟨bn, k * 5 + 1, none⟩) (by simp; omega)).trans (hs1 k hk)
      have a1 : wr.cell? ⟨w.heap.size, 1, none⟩ = some (.int .i64 cv) := (hW.below.cell (p := ⟨w.heap.size, 1, none⟩) (by simp)).trans hx1
      have a2 : wr.cell? ⟨w.heap.size, 2, none⟩ = some (.int .i64 cs) := (hW.below.cell (p := ⟨w.heap.size, 2, none⟩) (by simp)).trans hx2
      have hBr : Below w.heap.size w wr := hB1'.trans (hW.below.mono (by omega))
      have hcc := hW.ct
      have hnb : nodeOf req h B N cv cs v s = if 0 ≤ (prevTo (cntTo req h B) N).1 ∧ cv ≤ v (prevTo (cntTo req h B) N).1.toNat ∧ cs ≤ s (prevTo (cntTo req h B) N).1.toNat then (prevTo (cntTo req h B) N).1 else (pickTo cv cs v s N).1 := rfl
      have HB : Hid (nodeOf req h B N cv cs v s = _) := hnb
      clear hv1 hs1 hx1 hx2 hB1' hB1 hreq1 hrq hnb hW hz1
      go_wp2
      generalize cntTo req h B = cnt at *
      go_loopw [13, 14, 15] (fun p q k wr2 => ∃ kn n : Nat, kn ≤ N ∧ k = .int .i64 kn ∧ p = .int .i64 (prevTo cnt kn).1 ∧ q = .int .i64 (prevTo cnt kn).2 ∧ wr2 = wr.drewN n) (fun _ _ k _ => N - (intOf k).toNat)
      case atStart => exact ⟨0, 0, by omega, rfl, rfl, rfl, rfl⟩
      case round =>
        obtain ⟨k, n, hk, rfl, rfl, rfl, rfl⟩ := hrel
        by_cases hkl : k < N
        · have hkI : (k : Int) < (N : Int) := by omega
          have c0 := hcc k hkl
          clear e1 e2 hcc
          by_cases hgt : (prevTo cnt k).2 < cnt k
          · have hst : prevTo cnt (k + 1) = ((k : Int), cnt k) := by simp [prevTo, hgt]
            have HS : Hid (prevTo cnt (k + 1) = ((k : Int), cnt k)) := hst
            clear hst
            go_wp2
            go_quiet (fail)
            go_wp2
            go_roundw
            case rel => exact ⟨k + 1, _, by omega, by go_num, by rw [HS.out], by rw [HS.out], rfl⟩
            case measure => simp [intOf]; omega
          · have hst : prevTo cnt (k + 1) = prevTo cnt k := by simp [prevTo, hgt]
            have HS : Hid (prevTo cnt (k + 1) = prevTo cnt k) := hst
            clear hst
            go_wp2
            go_roundw
            case rel => exact ⟨k + 1, _, by omega, by go_num, by rw [HS.out], by rw [HS.out], rfl⟩
            case measure => simp [intOf]; omega
        · have hkI : ¬ (k : Int) < (N : Int) := by omega
          have hkN : k = N := by omega
          subst hkN
          have hbd := prevTo_bd cnt k
          generalize hP : (prevTo cnt k).1 = P at *
          generalize (prevTo cnt k).2 = P2 at *
          clear hP hcc
          have hb1 := hbd.1
          have hb2 := hbd.2
          clear hbd
          obtain ⟨D, hD⟩ : ∃ D : Bool, D = decide (0 ≤ P ∧ cv ≤ v P.toNat ∧ cs ≤ s P.toNat) := ⟨_, rfl⟩
          have HD : Hid (D = decide (0 ≤ P ∧ cv ≤ v P.toNat ∧ cs ≤ s P.toNat)) := hD
          clear hD
          go_wp2
          go_cut [87] (fun d wc => d = .bool D ∧ ∃ n : Nat, wc = wr.drewN n)
          case first =>
            by_cases h0 : 0 ≤ P
            · obtain ⟨q, rfl⟩ := Int.eq_ofNat_of_zero_le h0
              have hq : q < k := by omega
              have g1 := e1 q hq
              have g2 := e2 q hq
              by_cases h1 : cv ≤ v q
              · by_cases h2 : cs ≤ s q
                · have hd : D = true := by rw [HD.out]; simp [h1, h2]
                  clear e1 e2
                  go_quiet (fail)
                  go_wp2
                  go_meet
                  case rel => exact ⟨by rw [hd], (by first | exact ⟨_, rfl⟩ | exact ⟨_, World.drewN_drewN _ _ _⟩)⟩
                · have hd : D = false := by rw [HD.out]; simp [h1, h2]
                  clear e1 e2
                  go_quiet (fail)
                  go_wp2
                  go_meet
                  case rel => exact ⟨by rw [hd], (by first | exact ⟨_, rfl⟩ | exact ⟨_, World.drewN_drewN _ _ _⟩)⟩
              · have hd : D = false := by rw [HD.out]; simp [h1]
                have hdd : decide (cv ≤ v q) = false := decide_eq_false h1
                clear e1 e2
                go_quiet (fail)
                go_wp2
                go_meet
                case rel => exact ⟨by rw [hd], (by first | exact ⟨_, rfl⟩ | exact ⟨_, World.drewN_drewN _ _ _⟩)⟩
            · have hd : D = false := by rw [HD.out]; simp [h0]
              have hdd : decide (0 ≤ P) = false := decide_eq_false h0
              clear e1 e2
              go_quiet (fail)
              go_wp2
              go_meet
              case rel => exact ⟨by rw [hd], (by first | exact ⟨_, rfl⟩ | exact ⟨_, World.drewN_drewN _ _ _⟩)⟩
          case rest =>
            obtain ⟨rfl, n2, rfl⟩ := hcut
            by_cases hDt : D = true
            · have hans : nodeOf req h B k cv cs v s = P := by
                have h2 := HD.out
                rw [hDt] at h2
                rw [HB.out, if_pos (of_decide_eq_true h2.symm)]
              subst hDt
              have HA : Hid (nodeOf req h B k cv cs v s = P) := hans
              clear hans HB e1 e2
              go_wp2
              go_ret
              exact ⟨ret_int HA.out.symm, below_draws hBr _⟩
            · have hDf : D = false := by simpa using hDt
              have hans : nodeOf req h B k cv cs v s = (pickTo cv cs v s k).1 := by
                have h2 := HD.out
                rw [hDf] at h2
                rw [HB.out, if_neg (of_decide_eq_false h2.symm)]
              subst hDf
              have HA : Hid (nodeOf req h B k cv cs v s = (pickTo cv cs v s k).1) := hans
              clear hans HB HD hDt
              go_wp2
              go_loopw [16, 17, 18, 19] (fun p q r j wr2 => ∃ jn n : Nat, jn ≤ k ∧ j = .int .i64 jn ∧ p = .int .i64 (pickTo cv cs v s jn).1 ∧ q = .int .i64 (pickTo cv cs v s jn).2.1 ∧ r = .int .i64 (pickTo cv cs v s jn).2.2 ∧ wr2 = wr.drewN n) (fun _ _ _ j _ => k - (intOf j).toNat)
              case atStart => exact ⟨0, _, by omega, rfl, rfl, rfl, rfl, rfl⟩
              case round =>
                obtain ⟨j, n3, hj, rfl, rfl, rfl, rfl, rfl⟩ := hrel
                by_cases hjl : j < k
                · have hjI : (j : Int) < (k : Int) := by omega
                  have g1 := e1 j hjl
                  have g2 := e2 j hjl
                  clear e1 e2
                  by_cases hyes : (cv ≤ v j ∧ cs ≤ s j) ∧ ((pickTo cv cs v s j).1 < 0 ∨ (pickTo cv cs v s j).2.1 < s j ∨ (s j = (pickTo cv cs v s j).2.1 ∧ (pickTo cv cs v s j).2.2 < v j))
                  · have HS : Hid (pickTo cv cs v s (j + 1) = ((j : Int), s j, v j)) := by show _ = _; rw [pickTo, if_pos hyes]
                    go_wp2
                    go_quiet (fail)
                    go_wp2
                    all_goals
                      go_roundw
                      case rel => exact ⟨j + 1, _, by omega, by go_num, int_eq (by rw [HS.out]), int_eq (by first | (rw [HS.out]; done) | (rw [HS.out]; omega) | (rw [HS.out]; simp_all; done)), int_eq (by rw [HS.out]), rfl⟩
                      case measure => simp [intOf]; omega
                  · have HS : Hid (pickTo cv cs v s (j + 1) = pickTo cv cs v s j) := by show _ = _; rw [pickTo, if_neg hyes]
                    go_wp2
                    go_quiet (fail)
                    go_wp2
                    all_goals
                      go_roundw
                      case rel => exact ⟨j + 1, _, by omega, by go_num, int_eq (by rw [HS.out]), int_eq (by first | (rw [HS.out]; done) | (rw [HS.out]; omega) | (rw [HS.out]; simp_all; done)), int_eq (by rw [HS.out]), rfl⟩
                      case measure => simp [intOf]; omega
                · have hjI : ¬ (j : Int) < (k : Int) := by omega
                  have hjk : j = k := by omega
                  subst hjk
                  go_wp2
                  go_ret
                  exact ⟨ret_int HA.out.symm, below_draws hBr _⟩

end Go.Proofs.Ybulkjqw
