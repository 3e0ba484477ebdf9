import Derived.Test.YbulkjqwG3a
namespace Go.Proofs.Ybulkjqw
open Go.RowKit Go.Shelf
set_option linter.unusedSimpArgs false
set_option linter.unusedVariables false

set_option maxRecDepth 100000 in
set_option maxHeartbeats 4000000 in
theorem law_all (pc po pr pf : Option Addr) (F cF M cM Q cQ N cN : Nat) (bcf ocf bor oor brn orn bfr ofr : Nat) (x0 x1 x2 : Nat → Nat) (x3 : Nat → Int) (ou ru f0 f1 : Nat → Nat) (wt hd0 : Nat) (rest : Int) (w : World)
    (hF : F ≤ 1024) (hM : M ≤ 1024) (hQ : Q ≤ 1024) (hN : N ≤ 256)
    (hx0 : ∀ i, x0 i ≤ 255) (hx1 : ∀ i, x1 i ≤ 255) (hx2 : ∀ i, x2 i ≤ 255) (hou : ∀ i, ou i ≤ 255) (hru : ∀ i, ru i ≤ 255) (hf0 : ∀ i, f0 i ≤ 255) (hf1 : ∀ i, f1 i ≤ 255) (hwt : wt ≤ 255) (hhd : hd0 ≤ 255)
    (hpc : InRow w pc F 4 bcf ocf fun i k => if k = 0 then .int .u8 (x0 i) else if k = 1 then .int .u8 (x1 i) else if k = 2 then .int .u8 (x2 i) else .int .i64 (x3 i))
    (hpo : InRow w po M 1 bor oor fun i _ => .int .u8 (ou i)) (hpr : InRow w pr Q 1 brn orn fun i _ => .int .u8 (ru i))
    (hpf : InRow w pf N 2 bfr ofr fun i k => if k = 0 then .int .u8 (f0 i) else .int .u8 (f1 i)) :
    Calls Yba.prog 5 #[.slice pc F cF, .slice po M cM, .int .u8 wt, .int .u8 hd0, .slice pr Q cQ, .slice pf N cN, .int .i64 rest] w
      fun e w' => e = .returned (.bool true) ∧ Below w.heap.size w w' := by
  have hFI : ¬ (1024 : Int) < (F : Int) := by omega
  have hMI : ¬ (1024 : Int) < (M : Int) := by omega
  have hQI : ¬ (1024 : Int) < (Q : Int) := by omega
  have hNI : ¬ (256 : Int) < (N : Int) := by omega
  obtain ⟨w1, hr, hB1, hz1, ho1⟩ := make_row 40 45 4 32 _ Yba.underlying40 info45 rfl F (by omega) (by omega) w
  have HR1 : Hid _ := hr
  clear hr
  obtain ⟨i45, hi45, hz45, hs45, hb45⟩ := info_parts info45'
  obtain ⟨i3, hi3, hz3, hs3, hb3⟩ := info_parts info3'
  go_enter Yba.func5, Yba.ntmps5
  go_wp2_with (at_make; refine wpList_make_gen HR1.out rfl _ _ rfl rfl rfl ?_)
  go_loopw [15, 64] (fun fv i wr => ∃ j : Nat, j ≤ F ∧ i = .int .i64 j ∧ fv = .slice (some ⟨w.heap.size, 0, none⟩) j F ∧ Below w.heap.size w wr ∧ w.heap.size < wr.heap.size ∧ ∃ xs, wr.ownsRow w.heap.size 45 4 (.slice (some ⟨w.heap.size, 0, none⟩) j F) j xs ∧
      ∀ k, k < j → xs[k * 4]? = some (.int .i64 ((x0 k : Int) % 12)) ∧ xs[k * 4 + 1]? = some (.int .i64 ((x1 k : Int) % 8)) ∧ xs[k * 4 + 2]? = some (.int .i64 ((x2 k : Int) % 8)) ∧ xs[k * 4 + 3]? = some (.int .i64 (x3 k))) (fun _ i _ => F - (intOf i).toNat)
  case atStart => exact ⟨0, by omega, rfl, rfl, hB1, by omega, [], ho1, fun k hk => by omega⟩
  case round =>
    obtain ⟨j, hj, rfl, rfl, hBr, hzr, xs, hown, hxs⟩ := hrel
    by_cases hjl : j < F
    · have hjI : (j : Int) < (F : Int) := by omega
      obtain ⟨hpe, hbc, hcell⟩ := hpc (by omega)
      subst hpe
      have d0 := ((bcell hBr).1 _ _ hbc).trans (hcell j hjl 0 (by omega))
      have d1 := ((bcell hBr).1 _ _ hbc).trans (hcell j hjl 1 (by omega))
      have d2 := ((bcell hBr).1 _ _ hbc).trans (hcell j hjl 2 (by omega))
      have d3 := ((bcell hBr).1 _ _ hbc).trans (hcell j hjl 3 (by omega))
      simp at d0 d1 d2 d3
      have e0 := hx0 j
      have e1 := hx1 j
      have e2 := hx2 j
      go_wp2_with
        (first
          | (at_builtin; refine wpList_append_fits _ rfl _ _ 40 rfl w.heap.size 45 i45 4 Yba.underlying40 hi45 hs45 w.heap.size j F xs rfl ((hown.alloc _).alloc _) _ 1 1 [.int .i64 ((x0 j : Int) % 12), .int .i64 ((x1 j : Int) % 8), .int .i64 ((x2 j : Int) % 8), .int .i64 (x3 j)] rfl rfl (lit_cells _ _ _ (by simp)) (by simp [Value.oneCell']) (by omega) ?_; intro w5 hown5 hgrow5))
      have hB5 : Below w.heap.size w w5 := ((hBr.alloc hBr.size _).alloc (by simp; omega) _).grown hgrow5 (by simp; omega) (fun k e => by cases e; exact Nat.le_refl _)
      go_roundw
      case rel =>
        refine ⟨j + 1, by omega, by go_num, rfl, hB5, by have := hgrow5.size; simp at this; omega, _, hown5, fun k hk => ?_⟩
        rcases Nat.lt_succ_iff_lt_or_eq.1 hk with h | h
        · obtain ⟨a0, a1, a2, a3⟩ := hxs k h
          exact ⟨get_left a0, get_left a1, get_left a2, get_left a3⟩
        · subst h
          exact ⟨(get_right (j := 0) hown.1).trans rfl, (get_right (j := 1) hown.1).trans rfl, (get_right (j := 2) hown.1).trans rfl, (get_right (j := 3) hown.1).trans rfl⟩
      case measure => simp [intOf]; omega
    · have hjI : ¬ (j : Int) < (F : Int) := by omega
      have hjF : j = F := by omega
      subst hjF
      clear HR1 hpc ho1 hB1 hz1
      have ht0 : ∀ i, i < j → wr.cell? ⟨w.heap.size, i * 4, none⟩ = some (.int .i64 ((x0 i : Int) % 12)) := fun i hi => (hown.cellAt _ (by omega)).trans (hxs i hi).1
      have ht1 : ∀ i, i < j → wr.cell? ⟨w.heap.size, i * 4 + 1, none⟩ = some (.int .i64 ((x1 i : Int) % 8)) := fun i hi => (hown.cellAt _ (by omega)).trans (hxs i hi).2.1
      have ht2 : ∀ i, i < j → wr.cell? ⟨w.heap.size, i * 4 + 2, none⟩ = some (.int .i64 ((x2 i : Int) % 8)) := fun i hi => (hown.cellAt _ (by omega)).trans (hxs i hi).2.2.1
      have ht3 : ∀ i, i < j → wr.cell? ⟨w.heap.size, i * 4 + 3, none⟩ = some (.int .i64 (x3 i)) := fun i hi => (hown.cellAt _ (by omega)).trans (hxs i hi).2.2.2
      clear hxs hown hj hjI hjl hFI
      generalize wr = wA at *
      go_upto_if 89 with (fail)
      go_cut [18] (fun bv wc => ∃ (M' oc bo : Nat) (pb : Option Addr), bv = .slice pb M' oc ∧ M' ≤ 1024 ∧ Below wA.heap.size wA wc ∧ (0 < M' → pb = some ⟨bo, 0, none⟩ ∧ bo < wc.heap.size ∧ 0 < j) ∧ (wA.heap.size ≤ bo) ∧ ∀ t, t < M' → wc.cell? ⟨bo, t, none⟩ = some (.int .i64 ((ou t : Int) % (j : Int))))
      case first =>
        by_cases hj0 : 0 < j
        · have hj0I : (0 : Int) < (j : Int) := by omega
          have hjne : ¬ (j : Int) = 0 := by omega
          go_wp2
          go_loopw [18, 92] (fun bv i ws => ∃ (t : Nat), t ≤ M ∧ i = .int .i64 t ∧ Below wA.heap.size wA ws ∧ ∃ xs, ws.ownsRow wA.heap.size 3 1 bv t xs ∧ ∀ k, k < t → xs[k]? = some (.int .i64 ((ou k : Int) % (j : Int)))) (fun _ i _ => M - (intOf i).toNat)
          case atStart => exact ⟨0, by omega, rfl, Below.refl _ _, [], World.ownsRow_nil _ _ _ _, fun k hk => by omega⟩
          case round =>
            obtain ⟨t, ht, rfl, hBs, xs, hown, hxs⟩ := hrel
            by_cases htl : t < M
            · have htI : (t : Int) < (M : Int) := by omega
              obtain ⟨hpe, hbc, hcell⟩ := hpo (by omega)
              subst hpe
              have d0 := ((bcell hBs).1 _ _ (Nat.lt_of_lt_of_le hbc hBr.size)).trans (((bcell hBr).1 _ _ hbc).trans (hcell t htl 0 (by omega)))
              simp at d0
              have e0 := hou t
              have ezz := hBs.size
              go_wp2_with
                (first
                  | (at_builtin; refine wpList_append_own _ rfl _ _ 46 rfl wA.heap.size 3 i3 (.int .i64 0) 1 8 Yba.underlying46 hi3 hz3 hs3 hb3 rfl (by decide) _ t xs rfl (hown.alloc _) _ 1 1 [.int .i64 ((ou t : Int) % (j : Int))] rfl rfl (lit_cells _ _ _ (by simp)) (by simp [Value.oneCell']) (by unfold maxLen; omega) (by omega) (by simp; omega) ?_; intro v5 w5 hown5 hgrow5 hnil5))
              have hB5 : Below wA.heap.size wA w5 := (hBs.alloc hBs.size _).grown hgrow5 (by simp; omega) (fun k e => (hown.lt k e).1)
              refine ⟨⟨v5, _, _, ⟨t + 1, by omega, rfl, hB5, _, hown5, fun k hk => ?_⟩, rfl, rfl, by go_num⟩, ?_⟩
              · rcases Nat.lt_succ_iff_lt_or_eq.1 hk with h | h
                · exact get_left (hxs k h)
                · subst h
                  have hl := hown.1
                  rw [Nat.mul_one] at hl
                  exact (get_right (j := 0) hl).trans rfl
              · simp [intOf]; omega
            · have htI : ¬ (t : Int) < (M : Int) := by omega
              have htM : t = M := by omega
              subst htM
              by_cases ht0 : 0 < t
              · obtain ⟨g, cap, rfl⟩ : ∃ g cap, u18 = .slice (some ⟨g, 0, none⟩) t cap := by
                  obtain ⟨t', rfl⟩ : ∃ t', t = t' + 1 := ⟨t - 1, by omega⟩
                  exact ownsRow_succ hown
                have hg := hown.lt g rfl
                go_wp2
                go_meet
                case rel => exact ⟨t, cap, g, _, rfl, by omega, hBs, fun _ => ⟨rfl, hg.2, hj0⟩, hg.1, fun k hk => (hown.cellAt k (by omega)).trans (hxs k hk)⟩
              · have ht0' : t = 0 := by omega
                subst ht0'
                obtain ⟨a9, c9, rfl⟩ : ∃ a c, u18 = .slice a 0 c := by
                  rcases hown.2 with ⟨h, _⟩ | ⟨g, cap, cur, h, _⟩
                  · exact ⟨_, _, h⟩
                  · exact ⟨_, _, h⟩
                go_wp2
                go_meet
                case rel => exact ⟨0, c9, wA.heap.size, a9, rfl, by omega, hBs, fun h => by omega, Nat.le_refl _, fun k hk => by omega⟩
        · have hj0I : ¬ (0 : Int) < (j : Int) := by omega
          go_wp2
          go_meet
          case rel => exact ⟨0, 0, wA.heap.size, none, rfl, by omega, Below.refl _ _, fun h => by omega, Nat.le_refl _, fun t ht => by omega⟩
      case rest =>
        obtain ⟨M', oc, bo, pb, rfl, hM', hBc, hpb, hbo, hbc⟩ := hcut
        generalize wc = wB at *
        obtain ⟨n, hn, hn15⟩ : ∃ n : Nat, (wt : Int) % 16 = n ∧ n ≤ 15 := ⟨wt % 16, by omega, by omega⟩
        obtain ⟨h, hh, hh3⟩ : ∃ h : Nat, (hd0 : Int) % 4 = h ∧ h ≤ 3 := ⟨hd0 % 4, by omega, by omega⟩
        obtain ⟨m, hm⟩ : ∃ m : Nat, m = h + n := ⟨_, rfl⟩
        have hmI : (h : Int) + (n : Int) = (m : Int) := by omega
        have hm18 : m ≤ 18 := by omega
        have hm18I : (m : Int) ≤ 18 := by omega
        have Hm := hide hm
        clear hm
        obtain ⟨w3, hr3, hB3, hz3', hc3, hf3⟩ := make_gen 47 50 2 16 _ Yba.underlying47 info50 rfl m m (Nat.le_refl _) (by omega) (by omega) wB
        obtain ⟨w4, hr4, hB4, hz4, hc4, hf4⟩ := make_gen 48 52 4 32 _ Yba.underlying48 info52 rfl m m (Nat.le_refl _) (by omega) (by omega) w3
        have HR3 : Hid _ := hr3
        have HR4 : Hid _ := hr4
        clear hr3 hr4
        rw [hz3'] at hc4 hf4 hz4
        have hJR : JR wB.heap.size m (reqOf ru Q N) wB w4 0 := by
          have c := (bcell hB4)
          rw [hz3'] at hB4
          refine ⟨hB3.trans (hB4.mono (by omega)), by omega, fun k hk => ?_, fun k hk => ?_, fun k => (c.2 _ _ (by omega)).trans (hf3 k), fun k => hf4 k, fun k hk => by omega, fun k hk => by omega, fun k hk => by omega⟩
          · rw [c.1 _ _ (by omega), hc3 k hk]
            rcases (by omega : k % 2 = 0 ∨ k % 2 = 1) with e | e <;> rw [e] <;> exact ⟨_, rfl⟩
          · rw [hc4 k hk]
            rcases (by omega : k % 4 = 0 ∨ k % 4 = 1 ∨ k % 4 = 2 ∨ k % 4 = 3) with e | e | e | e <;> rw [e] <;> exact ⟨_, rfl⟩
        clear hB3 hB4 hc3 hc4 hf3 hf4
        go_upto_region 19 with (fail)
        simp only [hn, hh]
        go_wp2_with (at_make; (first | refine wpList_make_gen HR3.out rfl _ _ rfl (by first | rfl | exact int_eq hmI) (by first | rfl | exact int_eq hmI) ?_ | refine wpList_make_gen HR4.out rfl _ _ rfl (by first | rfl | exact int_eq hmI) (by first | rfl | exact int_eq hmI) ?_))
        try simp only [hz3']
        clear HR3 HR4
        go_loopw [123] (fun i ws => ∃ (t : Nat), t ≤ m ∧ i = .int .i64 t ∧ JR wB.heap.size m (reqOf ru Q N) wB ws t) (fun i _ => m - (intOf i).toNat)
        case atStart => exact ⟨0, by omega, rfl, hJR⟩
        case round =>
          obtain ⟨t, ht, rfl, hJ⟩ := hrel
          clear hJR hz3' hz4
          by_cases htl : t < m
          · have htI : (t : Int) < (m : Int) := by omega
            obtain ⟨y0, g0⟩ := hJ.ej (t * 2) (by omega)
            obtain ⟨y1, g1⟩ := hJ.ej (t * 2 + 1) (by omega)
            obtain ⟨y2, g2⟩ := hJ.er (t * 4) (by omega)
            obtain ⟨y3, g3⟩ := hJ.er (t * 4 + 1) (by omega)
            obtain ⟨y4, g4⟩ := hJ.er (t * 4 + 2) (by omega)
            obtain ⟨y5, g5⟩ := hJ.er (t * 4 + 3) (by omega)
            have k0 := hJ.fj (t * 2)
            have k1 := hJ.fj (t * 2 + 1)
            have k2 := hJ.fr (t * 4)
            have k3 := hJ.fr (t * 4 + 1)
            have k4 := hJ.fr (t * 4 + 2)
            have k5 := hJ.fr (t * 4 + 3)
            have zJ := hJ.size
            by_cases hN0 : 0 < N
            · have hN0I : (0 : Int) < (N : Int) := by omega
              by_cases hQ0 : 0 < Q
              · have hQ0I : (0 : Int) < (Q : Int) := by omega
                have hQne : ¬ (Q : Int) = 0 := by omega
                have hNne : ¬ (N : Int) + 1 = 0 := by omega
                obtain ⟨hpe, hbc9, hcell⟩ := hpr hQ0
                subst hpe
                obtain ⟨r, hr⟩ : ∃ r, r = t % Q := ⟨_, rfl⟩
                have hrQ : r < Q := by rw [hr]; exact Nat.mod_lt _ hQ0
                have hBw9 : Below w.heap.size w wr := hBr.trans ((hBc.mono hBr.size).trans (hJ.below.mono (Nat.le_trans hBr.size hBc.size)))
                have d0 := ((bcell hBw9).1 _ _ hbc9).trans (hcell r hrQ 0 (by omega))
                simp at d0
                have e0 := hru r
                have hbz : brn < wB.heap.size := Nat.lt_of_lt_of_le hbc9 (Nat.le_trans hBr.size hBc.size)
                have hbn1 : ¬ brn = wB.heap.size := by omega
                have hbn2 : ¬ wB.heap.size = brn := by omega
                have hrI : (t : Int) % (Q : Int) = (r : Int) := by rw [hr]; simp
                have hrQI : (r : Int) < (Q : Int) := by omega
                have HX : Hid (reqOf ru Q N t = (ru r : Int) % ((N : Int) + 1) - 1) := by show _ = _; unfold reqOf; rw [if_pos ⟨hN0, hQ0⟩, hr]
                clear hr
                have hq1 := Int.emod_nonneg (ru r : Int) (show ((N : Int) + 1) ≠ 0 by omega)
                have hq2 := Int.emod_lt_of_pos (ru r : Int) (show (0 : Int) < (N : Int) + 1 by omega)
                go_wp2
                go_roundw
                case rel => exact ⟨t + 1, by omega, by go_num, hJ.next htl _ _ _ (by first | (rw [HX.out]; done) | (rw [HX.out]; exact wrap64_in _ ⟨by omega, by omega⟩))⟩
                case measure => simp [intOf]; omega
              · have hQ0I : ¬ (0 : Int) < (Q : Int) := by omega
                have HX : reqOf ru Q N t = -1 := by unfold reqOf; rw [if_neg (by omega)]
                go_wp2
                go_roundw
                case rel => exact ⟨t + 1, by omega, by go_num, hJ.next htl _ _ _ (by rw [HX])⟩
                case measure => simp [intOf]; omega
            · have hN0I : ¬ (0 : Int) < (N : Int) := by omega
              have HX : reqOf ru Q N t = -1 := by unfold reqOf; rw [if_neg (by omega)]
              go_wp2
              go_roundw
              case rel => exact ⟨t + 1, by omega, by go_num, hJ.next htl _ _ _ (by rw [HX])⟩
              case measure => simp [intOf]; omega
          · have htI : ¬ (t : Int) < (m : Int) := by omega
            have htm : m = t := by omega
            subst htm
            generalize wr = wC at *
            obtain ⟨w5, hr5, hB5, hz5, hc5, hf5⟩ := make_gen 53 61 5 64 _ Yba.underlying53 info61 rfl N N (Nat.le_refl _) (by omega) (by omega) wC
            obtain ⟨w6, hr6, hB6, hz6, ho6⟩ := make_row 54 62 1 8 _ Yba.underlying54 info62 rfl N (by omega) (by omega) w5
            have HR5 : Hid _ := hr5
            have HR6 : Hid _ := hr6
            clear hr5 hr6
            go_wp2_with (at_make; (first | refine wpList_make_gen HR5.out rfl _ _ rfl rfl rfl ?_ | refine wpList_make_gen HR6.out rfl _ _ rfl rfl rfl ?_))
            try simp only [hz5]
            obtain ⟨i62, hi62, hz62, hs62, hb62⟩ := info_parts info62'
            have hND : ND wC.heap.size N (fun k => (f0 k : Int) % 8) (fun k => (f1 k : Int) % 8) w6 0 := by
              have c := bcell hB6
              refine ⟨by omega, fun k hk => ?_, fun k => (c.2 _ _ (by omega)).trans (hf5 k), fun k hk => by omega, fun k hk => by omega, fun k hk => by omega⟩
              rw [c.1 _ _ (by omega), hc5 k hk]
              rcases (by omega : k % 5 = 0 ∨ k % 5 = 1 ∨ k % 5 = 2 ∨ k % 5 = 3 ∨ k % 5 = 4) with e | e | e | e | e <;> rw [e] <;> exact ⟨_, rfl⟩
            have hPR : PR (wC.heap.size + 1) N (fun _ => 0) (fun _ => 0) (fun k => (f0 k : Int) % 8) (fun k => (f1 k : Int) % 8) w6 0 :=
              ⟨⟨[], by rw [hz5] at ho6; exact ho6, fun k hk => by omega⟩, fun k hk => by omega, fun k hk => by omega, fun k hk => by omega, fun k hk => by omega, fun k hk => by omega, fun k hk => by omega, fun k hk => by omega⟩
            have hB56 : Below wC.heap.size wC w6 := hB5.trans (hB6.mono (by omega))
            have hzD : wC.heap.size + 1 < w6.heap.size := by omega
            clear HR5 HR6 hB5 hB6 hc5 hf5 ho6
            go_loopw [29, 162] (fun pv i ws => ∃ (t : Nat) (bc bd : Nat → Nat), t ≤ N ∧ i = .int .i64 t ∧ pv = .slice (some ⟨wC.heap.size + 1, 0, none⟩) t N ∧ Below wC.heap.size wC ws ∧ wC.heap.size + 1 < ws.heap.size ∧ ND wC.heap.size N (fun k => (f0 k : Int) % 8) (fun k => (f1 k : Int) % 8) ws t ∧ PR (wC.heap.size + 1) N bc bd (fun k => (f0 k : Int) % 8) (fun k => (f1 k : Int) % 8) ws t) (fun _ i _ => N - (intOf i).toNat)
            case atStart => exact ⟨0, _, _, by omega, rfl, rfl, hB56, hzD, hND, hPR⟩
            case round =>
              obtain ⟨t, bc, bd, ht, rfl, rfl, hBs, hzs, hD, hP⟩ := hrel
              clear hND hPR hB56 hzD hz5 hz6
              by_cases htl : t < N
              · have htI : (t : Int) < (N : Int) := by omega
                obtain ⟨hpe, hbc9, hcell⟩ := hpf (by omega)
                subst hpe
                have hBw9 : Below w.heap.size w wr := hBr.trans ((hBc.mono hBr.size).trans ((hJ.below.mono (Nat.le_trans hBr.size hBc.size)).trans (hBs.mono (Nat.le_trans hBr.size (Nat.le_trans hBc.size hJ.below.size)))))
                have d0 := ((bcell hBw9).1 _ _ hbc9).trans (hcell t htl 0 (by omega))
                have d1 := ((bcell hBw9).1 _ _ hbc9).trans (hcell t htl 1 (by omega))
                simp at d0 d1
                have e0 := hf0 t
                have e1 := hf1 t
                obtain ⟨y0, g0⟩ := hD.en (t * 5) (by omega)
                obtain ⟨y1, g1⟩ := hD.en (t * 5 + 1) (by omega)
                obtain ⟨y2, g2⟩ := hD.en (t * 5 + 2) (by omega)
                have k0 := hD.fn (t * 5)
                have k1 := hD.fn (t * 5 + 1)
                have k2 := hD.fn (t * 5 + 2)
                have zD := hD.size
                have hDp := hD.put (x := (f0 t : Int) % 8) (y := (f1 t : Int) % 8) htl rfl rfl
                have hPp := hP.via (grown_set3 wr wC.heap.size (t * 5) (t * 5 + 1) (t * 5 + 2) (.int .i64 ((f0 t : Int) % 8)) (.int .i64 ((f1 t : Int) % 8)) (.string ⟨#[0]⟩)) (fun k e => by cases e; omega)
                have hBp : Below wC.heap.size wC (((wr.setCell ⟨wC.heap.size, t * 5, none⟩ (.int .i64 ((f0 t : Int) % 8))).setCell ⟨wC.heap.size, t * 5 + 1, none⟩ (.int .i64 ((f1 t : Int) % 8))).setCell ⟨wC.heap.size, t * 5 + 2, none⟩ (.string ⟨#[0]⟩)) := ((hBs.setCell (p := ⟨wC.heap.size, t * 5, none⟩) (Nat.le_refl _) _).setCell (p := ⟨wC.heap.size, t * 5 + 1, none⟩) (Nat.le_refl _) _).setCell (p := ⟨wC.heap.size, t * 5 + 2, none⟩) (Nat.le_refl _) _
                have hzp : (((wr.setCell ⟨wC.heap.size, t * 5, none⟩ (.int .i64 ((f0 t : Int) % 8))).setCell ⟨wC.heap.size, t * 5 + 1, none⟩ (.int .i64 ((f1 t : Int) % 8))).setCell ⟨wC.heap.size, t * 5 + 2, none⟩ (.string ⟨#[0]⟩)).heap.size = wr.heap.size := by simp
                have hBF : ∀ Wp : World, Wp.heap.size = wr.heap.size → Below Wp.heap.size Wp (((((Wp.alloc (.cells #[.int .u8 (f0 t), .int .u8 (f1 t)] 56)).alloc (.cells #[.int .i64 ((f0 t : Int) % 8), .int .i64 ((f1 t : Int) % 8), .string ⟨#[0]⟩] 58)).alloc (.cells #[.int .i64 t] 3)).alloc (.cells #[.int .i64 ((f0 t : Int) % 8), .int .i64 ((f1 t : Int) % 8), .string ⟨#[0]⟩, .int .i64 t, .slice (some ⟨wr.heap.size + 1 + 1, 0, none⟩) 1 1, .slice none 0 0, .nilFunc] 67)).alloc (.cells #[.pointer (some ⟨wr.heap.size + 1 + 1 + 1, 0, none⟩)] 62)) := fun Wp hz => (((((Below.refl _ _).alloc (Nat.le_refl _) _).alloc (by simp) _).alloc (by simp; omega) _).alloc (by simp; omega) _).alloc (by simp; omega) _
                have hcF : ∀ Wp : World, Wp.heap.size = wr.heap.size → (wr.heap.size + 1 + 1 + 1 + 1 < (((((Wp.alloc (.cells #[.int .u8 (f0 t), .int .u8 (f1 t)] 56)).alloc (.cells #[.int .i64 ((f0 t : Int) % 8), .int .i64 ((f1 t : Int) % 8), .string ⟨#[0]⟩] 58)).alloc (.cells #[.int .i64 t] 3)).alloc (.cells #[.int .i64 ((f0 t : Int) % 8), .int .i64 ((f1 t : Int) % 8), .string ⟨#[0]⟩, .int .i64 t, .slice (some ⟨wr.heap.size + 1 + 1, 0, none⟩) 1 1, .slice none 0 0, .nilFunc] 67)).alloc (.cells #[.pointer (some ⟨wr.heap.size + 1 + 1 + 1, 0, none⟩)] 62)).heap.size ∧ (((((Wp.alloc (.cells #[.int .u8 (f0 t), .int .u8 (f1 t)] 56)).alloc (.cells #[.int .i64 ((f0 t : Int) % 8), .int .i64 ((f1 t : Int) % 8), .string ⟨#[0]⟩] 58)).alloc (.cells #[.int .i64 t] 3)).alloc (.cells #[.int .i64 ((f0 t : Int) % 8), .int .i64 ((f1 t : Int) % 8), .string ⟨#[0]⟩, .int .i64 t, .slice (some ⟨wr.heap.size + 1 + 1, 0, none⟩) 1 1, .slice none 0 0, .nilFunc] 67)).alloc (.cells #[.pointer (some ⟨wr.heap.size + 1 + 1 + 1, 0, none⟩)] 62)).cell? ⟨wr.heap.size + 1 + 1 + 1, 0, none⟩ = some (.int .i64 ((f0 t : Int) % 8)) ∧ (((((Wp.alloc (.cells #[.int .u8 (f0 t), .int .u8 (f1 t)] 56)).alloc (.cells #[.int .i64 ((f0 t : Int) % 8), .int .i64 ((f1 t : Int) % 8), .string ⟨#[0]⟩] 58)).alloc (.cells #[.int .i64 t] 3)).alloc (.cells #[.int .i64 ((f0 t : Int) % 8), .int .i64 ((f1 t : Int) % 8), .string ⟨#[0]⟩, .int .i64 t, .slice (some ⟨wr.heap.size + 1 + 1, 0, none⟩) 1 1, .slice none 0 0, .nilFunc] 67)).alloc (.cells #[.pointer (some ⟨wr.heap.size + 1 + 1 + 1, 0, none⟩)] 62)).cell? ⟨wr.heap.size + 1 + 1 + 1, 1, none⟩ = some (.int .i64 ((f1 t : Int) % 8)) ∧ (((((Wp.alloc (.cells #[.int .u8 (f0 t), .int .u8 (f1 t)] 56)).alloc (.cells #[.int .i64 ((f0 t : Int) % 8), .int .i64 ((f1 t : Int) % 8), .string ⟨#[0]⟩] 58)).alloc (.cells #[.int .i64 t] 3)).alloc (.cells #[.int .i64 ((f0 t : Int) % 8), .int .i64 ((f1 t : Int) % 8), .string ⟨#[0]⟩, .int .i64 t, .slice (some ⟨wr.heap.size + 1 + 1, 0, none⟩) 1 1, .slice none 0 0, .nilFunc] 67)).alloc (.cells #[.pointer (some ⟨wr.heap.size + 1 + 1 + 1, 0, none⟩)] 62)).cell? ⟨wr.heap.size + 1 + 1 + 1, 2, none⟩ = some (.string ⟨#[0]⟩) ∧ (((((Wp.alloc (.cells #[.int .u8 (f0 t), .int .u8 (f1 t)] 56)).alloc (.cells #[.int .i64 ((f0 t : Int) % 8), .int .i64 ((f1 t : Int) % 8), .string ⟨#[0]⟩] 58)).alloc (.cells #[.int .i64 t] 3)).alloc (.cells #[.int .i64 ((f0 t : Int) % 8), .int .i64 ((f1 t : Int) % 8), .string ⟨#[0]⟩, .int .i64 t, .slice (some ⟨wr.heap.size + 1 + 1, 0, none⟩) 1 1, .slice none 0 0, .nilFunc] 67)).alloc (.cells #[.pointer (some ⟨wr.heap.size + 1 + 1 + 1, 0, none⟩)] 62)).cell? ⟨wr.heap.size + 1 + 1 + 1, 4, none⟩ = some (.slice (some ⟨wr.heap.size + 1 + 1, 0, none⟩) 1 1) ∧ (((((Wp.alloc (.cells #[.int .u8 (f0 t), .int .u8 (f1 t)] 56)).alloc (.cells #[.int .i64 ((f0 t : Int) % 8), .int .i64 ((f1 t : Int) % 8), .string ⟨#[0]⟩] 58)).alloc (.cells #[.int .i64 t] 3)).alloc (.cells #[.int .i64 ((f0 t : Int) % 8), .int .i64 ((f1 t : Int) % 8), .string ⟨#[0]⟩, .int .i64 t, .slice (some ⟨wr.heap.size + 1 + 1, 0, none⟩) 1 1, .slice none 0 0, .nilFunc] 67)).alloc (.cells #[.pointer (some ⟨wr.heap.size + 1 + 1 + 1, 0, none⟩)] 62)).cell? ⟨wr.heap.size + 1 + 1, 0, none⟩ = some (.int .i64 t)) := fun Wp hz => by
                  refine ⟨by simp [hz], ?_, ?_, ?_, ?_, ?_⟩
                  · rw [World.cell?_alloc_past _ _ _ (by simp [hz]), World.cell?_alloc_at _ _ _ _ (by simp [hz])]; rfl
                  · rw [World.cell?_alloc_past _ _ _ (by simp [hz]), World.cell?_alloc_at _ _ _ _ (by simp [hz])]; rfl
                  · rw [World.cell?_alloc_past _ _ _ (by simp [hz]), World.cell?_alloc_at _ _ _ _ (by simp [hz])]; rfl
                  · rw [World.cell?_alloc_past _ _ _ (by simp [hz]), World.cell?_alloc_at _ _ _ _ (by simp [hz])]; rfl
                  · rw [World.cell?_alloc_past _ _ _ (by simp [hz]), World.cell?_alloc_past _ _ _ (by simp [hz]), World.cell?_alloc_at _ _ _ _ (by simp [hz])]; rfl
                have hBF' := hBF _ hzp
                obtain ⟨kz, kc0, kc1, kc2, kc4, kd0⟩ := hcF _ hzp
                have hDF := hDp.via (grown_below hBF' none) (by simp)
                have hPF := hPp.via (grown_below hBF' none) (fun k e => by cases e)
                have hBF9 := hBp.trans (hBF'.mono (by rw [hzp]; omega))
                clear hBF hcF hDp hPp
                obtain ⟨xs, hown, hxs⟩ := hPF.own
                have HH := hide (And.intro hDF (And.intro hPF (And.intro hBF9 (And.intro kz (And.intro kc0 (And.intro kc1 (And.intro kc2 (And.intro kc4 kd0))))))))
                have HO := hide (And.intro hown hxs)
                clear hDF hPF hBF9 kz kc0 kc1 kc2 kc4 kd0 hown hxs hBF' hBp hzp
                go_wp2_with
                  (first
                    | (at_builtin; refine wpList_append_fits _ rfl _ _ 54 rfl (wC.heap.size + 1) 62 i62 1 Yba.underlying54 hi62 hs62 (wC.heap.size + 1) t N xs rfl HO.out.1 _ 1 1 [.pointer (some ⟨wr.heap.size + 1 + 1 + 1, 0, none⟩)] rfl rfl (lit_cells _ _ _ (by simp)) (by simp [Value.oneCell']) (by omega) ?_; intro w9 hown9 hgrow9))
                obtain ⟨hDF, hPF, hBF9, kz, kc0, kc1, kc2, kc4, kd0⟩ := HH.out
                go_roundw
                case rel =>
                  exact ⟨t + 1, _, _, by omega, by go_num, rfl, hBF9.grown hgrow9 (by omega) (fun k e => by cases e; omega), Nat.lt_of_lt_of_le (by omega) hgrow9.size, hDF.via hgrow9 (by simp), hPF.next hgrow9 HO.out.1.1 HO.out.2 hown9 ⟨by omega, by omega⟩ ⟨by omega, by omega⟩ kc0 kc1 kc2 kc4 kd0⟩
                case measure => simp [intOf]; omega
              · have htI : ¬ (t : Int) < (N : Int) := by omega
                have htN : N = t := by omega
                subst htN
                generalize wr = wD at *
                have hal := allocs_below [([.int .i64 0], 3), ([.string ⟨#[]⟩, .slice (some ⟨wD.heap.size, 0, none⟩) 1 1, .int .i64 0, .int .i64 0], 71), ([.int .i64 0, .int .i64 0, .int .i64 0, .float .f64 0, .float .f64 0, .int .i64 0, .int .i64 0, .int .i64 0, .float .f64 0, .float .f64 0, .int .i64 0, .float .f64 0, .slice none 0 0, .slice (some ⟨wD.heap.size + 1, 0, none⟩) 1 1], 76), ([.slice (some ⟨w.heap.size, 0, none⟩) j j], 40), ([.int .i64 0, .int .i64 0, .int .i64 0, .slice (some ⟨wB.heap.size, 0, none⟩) m m, .int .i64 h, .int .i64 0], 82), ([.pointer (some ⟨wD.heap.size + 1 + 1, 0, none⟩), .int .i64 0, .slice (some ⟨wC.heap.size, 0, none⟩) N N, .map none, .slice (some ⟨wC.heap.size + 1, 0, none⟩) N N, .slice none 0 0, .slice none 0 0, .slice none 0 0, .slice none 0 0, .slice none 0 0, .nilFunc, .slice none 0 0, .slice (some ⟨wD.heap.size + 1 + 1 + 1, 0, none⟩) 1 1, .slice none 0 0, .slice (some ⟨wD.heap.size + 1 + 1 + 1 + 1, 0, none⟩) 1 1, .slice none 0 0, .slice (some ⟨wB.heap.size + 1, 0, none⟩) m m, .slice none 0 0, .int .i64 0, .pointer none, .pointer none, .int .i64 0, .pointer none, .slice none 0 0, .nilFunc], 92), ([.slice pb M' oc], 46), ([.slice none 0 0, .int .i64 rest], 97), ([.slice (some ⟨wD.heap.size + 1 + 1 + 1 + 1 + 1 + 1 + 1, 0, none⟩) 1 1], 98), ([.slice none 0 0, .slice none 0 0, .slice (some ⟨wD.heap.size + 1 + 1 + 1 + 1 + 1 + 1, 0, none⟩) 1 1, .slice none 0 0, .slice (some ⟨wD.heap.size + 1 + 1 + 1 + 1 + 1 + 1 + 1 + 1, 0, none⟩) 1 1, .slice none 0 0, .int .i64 0, .int .i64 0, .int .i64 0, .int .i64 0, .int .i64 0, .int .i64 0, .int .i64 0, .int .i64 0, .int .i64 0, .int .i64 0, .int .i64 0, .int .i64 0, .int .i64 0, .int .i64 0, .int .i64 0, .int .i64 0, .int .i64 0, .int .i64 0, .int .i64 0, .int .i64 0, .int .i64 0, .int .i64 0, .int .i64 0, .int .i64 0, .int .i64 0, .int .i64 0, .int .i64 0, .int .i64 0, .int .i64 0, .int .i64 0, .slice none 0 0], 106)] wD
                have hac := allocs_cell [([.int .i64 0], 3), ([.string ⟨#[]⟩, .slice (some ⟨wD.heap.size, 0, none⟩) 1 1, .int .i64 0, .int .i64 0], 71), ([.int .i64 0, .int .i64 0, .int .i64 0, .float .f64 0, .float .f64 0, .int .i64 0, .int .i64 0, .int .i64 0, .float .f64 0, .float .f64 0, .int .i64 0, .float .f64 0, .slice none 0 0, .slice (some ⟨wD.heap.size + 1, 0, none⟩) 1 1], 76), ([.slice (some ⟨w.heap.size, 0, none⟩) j j], 40), ([.int .i64 0, .int .i64 0, .int .i64 0, .slice (some ⟨wB.heap.size, 0, none⟩) m m, .int .i64 h, .int .i64 0], 82), ([.pointer (some ⟨wD.heap.size + 1 + 1, 0, none⟩), .int .i64 0, .slice (some ⟨wC.heap.size, 0, none⟩) N N, .map none, .slice (some ⟨wC.heap.size + 1, 0, none⟩) N N, .slice none 0 0, .slice none 0 0, .slice none 0 0, .slice none 0 0, .slice none 0 0, .nilFunc, .slice none 0 0, .slice (some ⟨wD.heap.size + 1 + 1 + 1, 0, none⟩) 1 1, .slice none 0 0, .slice (some ⟨wD.heap.size + 1 + 1 + 1 + 1, 0, none⟩) 1 1, .slice none 0 0, .slice (some ⟨wB.heap.size + 1, 0, none⟩) m m, .slice none 0 0, .int .i64 0, .pointer none, .pointer none, .int .i64 0, .pointer none, .slice none 0 0, .nilFunc], 92), ([.slice pb M' oc], 46), ([.slice none 0 0, .int .i64 rest], 97), ([.slice (some ⟨wD.heap.size + 1 + 1 + 1 + 1 + 1 + 1 + 1, 0, none⟩) 1 1], 98), ([.slice none 0 0, .slice none 0 0, .slice (some ⟨wD.heap.size + 1 + 1 + 1 + 1 + 1 + 1, 0, none⟩) 1 1, .slice none 0 0, .slice (some ⟨wD.heap.size + 1 + 1 + 1 + 1 + 1 + 1 + 1 + 1, 0, none⟩) 1 1, .slice none 0 0, .int .i64 0, .int .i64 0, .int .i64 0, .int .i64 0, .int .i64 0, .int .i64 0, .int .i64 0, .int .i64 0, .int .i64 0, .int .i64 0, .int .i64 0, .int .i64 0, .int .i64 0, .int .i64 0, .int .i64 0, .int .i64 0, .int .i64 0, .int .i64 0, .int .i64 0, .int .i64 0, .int .i64 0, .int .i64 0, .int .i64 0, .int .i64 0, .int .i64 0, .int .i64 0, .int .i64 0, .int .i64 0, .int .i64 0, .int .i64 0, .slice none 0 0], 106)] wD
                have haf := allocs_frozen [([.int .i64 0], 3), ([.string ⟨#[]⟩, .slice (some ⟨wD.heap.size, 0, none⟩) 1 1, .int .i64 0, .int .i64 0], 71), ([.int .i64 0, .int .i64 0, .int .i64 0, .float .f64 0, .float .f64 0, .int .i64 0, .int .i64 0, .int .i64 0, .float .f64 0, .float .f64 0, .int .i64 0, .float .f64 0, .slice none 0 0, .slice (some ⟨wD.heap.size + 1, 0, none⟩) 1 1], 76), ([.slice (some ⟨w.heap.size, 0, none⟩) j j], 40), ([.int .i64 0, .int .i64 0, .int .i64 0, .slice (some ⟨wB.heap.size, 0, none⟩) m m, .int .i64 h, .int .i64 0], 82), ([.pointer (some ⟨wD.heap.size + 1 + 1, 0, none⟩), .int .i64 0, .slice (some ⟨wC.heap.size, 0, none⟩) N N, .map none, .slice (some ⟨wC.heap.size + 1, 0, none⟩) N N, .slice none 0 0, .slice none 0 0, .slice none 0 0, .slice none 0 0, .slice none 0 0, .nilFunc, .slice none 0 0, .slice (some ⟨wD.heap.size + 1 + 1 + 1, 0, none⟩) 1 1, .slice none 0 0, .slice (some ⟨wD.heap.size + 1 + 1 + 1 + 1, 0, none⟩) 1 1, .slice none 0 0, .slice (some ⟨wB.heap.size + 1, 0, none⟩) m m, .slice none 0 0, .int .i64 0, .pointer none, .pointer none, .int .i64 0, .pointer none, .slice none 0 0, .nilFunc], 92), ([.slice pb M' oc], 46), ([.slice none 0 0, .int .i64 rest], 97), ([.slice (some ⟨wD.heap.size + 1 + 1 + 1 + 1 + 1 + 1 + 1, 0, none⟩) 1 1], 98), ([.slice none 0 0, .slice none 0 0, .slice (some ⟨wD.heap.size + 1 + 1 + 1 + 1 + 1 + 1, 0, none⟩) 1 1, .slice none 0 0, .slice (some ⟨wD.heap.size + 1 + 1 + 1 + 1 + 1 + 1 + 1 + 1, 0, none⟩) 1 1, .slice none 0 0, .int .i64 0, .int .i64 0, .int .i64 0, .int .i64 0, .int .i64 0, .int .i64 0, .int .i64 0, .int .i64 0, .int .i64 0, .int .i64 0, .int .i64 0, .int .i64 0, .int .i64 0, .int .i64 0, .int .i64 0, .int .i64 0, .int .i64 0, .int .i64 0, .int .i64 0, .int .i64 0, .int .i64 0, .int .i64 0, .int .i64 0, .int .i64 0, .int .i64 0, .int .i64 0, .int .i64 0, .int .i64 0, .int .i64 0, .int .i64 0, .slice none 0 0], 106)] wD
                have e9 : allocs wD [([.int .i64 0], 3), ([.string ⟨#[]⟩, .slice (some ⟨wD.heap.size, 0, none⟩) 1 1, .int .i64 0, .int .i64 0], 71), ([.int .i64 0, .int .i64 0, .int .i64 0, .float .f64 0, .float .f64 0, .int .i64 0, .int .i64 0, .int .i64 0, .float .f64 0, .float .f64 0, .int .i64 0, .float .f64 0, .slice none 0 0, .slice (some ⟨wD.heap.size + 1, 0, none⟩) 1 1], 76), ([.slice (some ⟨w.heap.size, 0, none⟩) j j], 40), ([.int .i64 0, .int .i64 0, .int .i64 0, .slice (some ⟨wB.heap.size, 0, none⟩) m m, .int .i64 h, .int .i64 0], 82), ([.pointer (some ⟨wD.heap.size + 1 + 1, 0, none⟩), .int .i64 0, .slice (some ⟨wC.heap.size, 0, none⟩) N N, .map none, .slice (some ⟨wC.heap.size + 1, 0, none⟩) N N, .slice none 0 0, .slice none 0 0, .slice none 0 0, .slice none 0 0, .slice none 0 0, .nilFunc, .slice none 0 0, .slice (some ⟨wD.heap.size + 1 + 1 + 1, 0, none⟩) 1 1, .slice none 0 0, .slice (some ⟨wD.heap.size + 1 + 1 + 1 + 1, 0, none⟩) 1 1, .slice none 0 0, .slice (some ⟨wB.heap.size + 1, 0, none⟩) m m, .slice none 0 0, .int .i64 0, .pointer none, .pointer none, .int .i64 0, .pointer none, .slice none 0 0, .nilFunc], 92), ([.slice pb M' oc], 46), ([.slice none 0 0, .int .i64 rest], 97), ([.slice (some ⟨wD.heap.size + 1 + 1 + 1 + 1 + 1 + 1 + 1, 0, none⟩) 1 1], 98), ([.slice none 0 0, .slice none 0 0, .slice (some ⟨wD.heap.size + 1 + 1 + 1 + 1 + 1 + 1, 0, none⟩) 1 1, .slice none 0 0, .slice (some ⟨wD.heap.size + 1 + 1 + 1 + 1 + 1 + 1 + 1 + 1, 0, none⟩) 1 1, .slice none 0 0, .int .i64 0, .int .i64 0, .int .i64 0, .int .i64 0, .int .i64 0, .int .i64 0, .int .i64 0, .int .i64 0, .int .i64 0, .int .i64 0, .int .i64 0, .int .i64 0, .int .i64 0, .int .i64 0, .int .i64 0, .int .i64 0, .int .i64 0, .int .i64 0, .int .i64 0, .int .i64 0, .int .i64 0, .int .i64 0, .int .i64 0, .int .i64 0, .int .i64 0, .int .i64 0, .int .i64 0, .int .i64 0, .int .i64 0, .int .i64 0, .slice none 0 0], 106)] = ((((((((((wD.alloc (.cells #[.int .i64 0] 3)).alloc (.cells #[.string ⟨#[]⟩, .slice (some ⟨wD.heap.size, 0, none⟩) 1 1, .int .i64 0, .int .i64 0] 71)).alloc (.cells #[.int .i64 0, .int .i64 0, .int .i64 0, .float .f64 0, .float .f64 0, .int .i64 0, .int .i64 0, .int .i64 0, .float .f64 0, .float .f64 0, .int .i64 0, .float .f64 0, .slice none 0 0, .slice (some ⟨wD.heap.size + 1, 0, none⟩) 1 1] 76)).alloc (.cells #[.slice (some ⟨w.heap.size, 0, none⟩) j j] 40)).alloc (.cells #[.int .i64 0, .int .i64 0, .int .i64 0, .slice (some ⟨wB.heap.size, 0, none⟩) m m, .int .i64 h, .int .i64 0] 82)).alloc (.cells #[.pointer (some ⟨wD.heap.size + 1 + 1, 0, none⟩), .int .i64 0, .slice (some ⟨wC.heap.size, 0, none⟩) N N, .map none, .slice (some ⟨wC.heap.size + 1, 0, none⟩) N N, .slice none 0 0, .slice none 0 0, .slice none 0 0, .slice none 0 0, .slice none 0 0, .nilFunc, .slice none 0 0, .slice (some ⟨wD.heap.size + 1 + 1 + 1, 0, none⟩) 1 1, .slice none 0 0, .slice (some ⟨wD.heap.size + 1 + 1 + 1 + 1, 0, none⟩) 1 1, .slice none 0 0, .slice (some ⟨wB.heap.size + 1, 0, none⟩) m m, .slice none 0 0, .int .i64 0, .pointer none, .pointer none, .int .i64 0, .pointer none, .slice none 0 0, .nilFunc] 92)).alloc (.cells #[.slice pb M' oc] 46)).alloc (.cells #[.slice none 0 0, .int .i64 rest] 97)).alloc (.cells #[.slice (some ⟨wD.heap.size + 1 + 1 + 1 + 1 + 1 + 1 + 1, 0, none⟩) 1 1] 98)).alloc (.cells #[.slice none 0 0, .slice none 0 0, .slice (some ⟨wD.heap.size + 1 + 1 + 1 + 1 + 1 + 1, 0, none⟩) 1 1, .slice none 0 0, .slice (some ⟨wD.heap.size + 1 + 1 + 1 + 1 + 1 + 1 + 1 + 1, 0, none⟩) 1 1, .slice none 0 0, .int .i64 0, .int .i64 0, .int .i64 0, .int .i64 0, .int .i64 0, .int .i64 0, .int .i64 0, .int .i64 0, .int .i64 0, .int .i64 0, .int .i64 0, .int .i64 0, .int .i64 0, .int .i64 0, .int .i64 0, .int .i64 0, .int .i64 0, .int .i64 0, .int .i64 0, .int .i64 0, .int .i64 0, .int .i64 0, .int .i64 0, .int .i64 0, .int .i64 0, .int .i64 0, .int .i64 0, .int .i64 0, .int .i64 0, .int .i64 0, .slice none 0 0] 106)) := rfl
                rw [e9] at hal hac haf
                clear e9
                go_upto_region 41 with (fail)
                generalize ((((((((((wD.alloc (.cells #[.int .i64 0] 3)).alloc (.cells #[.string ⟨#[]⟩, .slice (some ⟨wD.heap.size, 0, none⟩) 1 1, .int .i64 0, .int .i64 0] 71)).alloc (.cells #[.int .i64 0, .int .i64 0, .int .i64 0, .float .f64 0, .float .f64 0, .int .i64 0, .int .i64 0, .int .i64 0, .float .f64 0, .float .f64 0, .int .i64 0, .float .f64 0, .slice none 0 0, .slice (some ⟨wD.heap.size + 1, 0, none⟩) 1 1] 76)).alloc (.cells #[.slice (some ⟨w.heap.size, 0, none⟩) j j] 40)).alloc (.cells #[.int .i64 0, .int .i64 0, .int .i64 0, .slice (some ⟨wB.heap.size, 0, none⟩) m m, .int .i64 h, .int .i64 0] 82)).alloc (.cells #[.pointer (some ⟨wD.heap.size + 1 + 1, 0, none⟩), .int .i64 0, .slice (some ⟨wC.heap.size, 0, none⟩) N N, .map none, .slice (some ⟨wC.heap.size + 1, 0, none⟩) N N, .slice none 0 0, .slice none 0 0, .slice none 0 0, .slice none 0 0, .slice none 0 0, .nilFunc, .slice none 0 0, .slice (some ⟨wD.heap.size + 1 + 1 + 1, 0, none⟩) 1 1, .slice none 0 0, .slice (some ⟨wD.heap.size + 1 + 1 + 1 + 1, 0, none⟩) 1 1, .slice none 0 0, .slice (some ⟨wB.heap.size + 1, 0, none⟩) m m, .slice none 0 0, .int .i64 0, .pointer none, .pointer none, .int .i64 0, .pointer none, .slice none 0 0, .nilFunc] 92)).alloc (.cells #[.slice pb M' oc] 46)).alloc (.cells #[.slice none 0 0, .int .i64 rest] 97)).alloc (.cells #[.slice (some ⟨wD.heap.size + 1 + 1 + 1 + 1 + 1 + 1 + 1, 0, none⟩) 1 1] 98)).alloc (.cells #[.slice none 0 0, .slice none 0 0, .slice (some ⟨wD.heap.size + 1 + 1 + 1 + 1 + 1 + 1, 0, none⟩) 1 1, .slice none 0 0, .slice (some ⟨wD.heap.size + 1 + 1 + 1 + 1 + 1 + 1 + 1 + 1, 0, none⟩) 1 1, .slice none 0 0, .int .i64 0, .int .i64 0, .int .i64 0, .int .i64 0, .int .i64 0, .int .i64 0, .int .i64 0, .int .i64 0, .int .i64 0, .int .i64 0, .int .i64 0, .int .i64 0, .int .i64 0, .int .i64 0, .int .i64 0, .int .i64 0, .int .i64 0, .int .i64 0, .int .i64 0, .int .i64 0, .int .i64 0, .int .i64 0, .int .i64 0, .int .i64 0, .int .i64 0, .int .i64 0, .int .i64 0, .int .i64 0, .int .i64 0, .int .i64 0, .slice none 0 0] 106)) = WX at *
                simp only [List.length_cons, List.length_nil] at hal haf
                obtain ⟨hBX, hzX⟩ := hal
                have hXC : Below wC.heap.size wC WX := hBs.trans (hBX.mono hBs.size)
                have hXB : Below wB.heap.size wB WX := hJ.below.trans (hXC.mono hJ.below.size)
                have hXA : Below wA.heap.size wA WX := hBc.trans (hXB.mono hBc.size)
                have hXw : Below w.heap.size w WX := hBr.trans (hXA.mono hBr.size)
                have sAB := hBc.size
                have sBC := hJ.below.size
                have sJ := hJ.size
                have sCD := hBs.size
                have swA := hBr.size
                obtain ⟨xsP, hownP, hxsP⟩ := hP.own
                obtain ⟨bat, hbat⟩ : ∃ bat : Nat → Nat, ∀ i, bat i = x0 i % 12 := ⟨_, fun _ => rfl⟩
                obtain ⟨cvf, hcv⟩ : ∃ cvf : Nat → Int, ∀ i, cvf i = (x1 i : Int) % 8 := ⟨_, fun _ => rfl⟩
                obtain ⟨csf, hcs⟩ : ∃ csf : Nat → Int, ∀ i, csf i = (x2 i : Int) % 8 := ⟨_, fun _ => rfl⟩
                obtain ⟨ord, hord⟩ : ∃ ord : Nat → Nat, ∀ i, ord i = ou i % j := ⟨_, fun _ => rfl⟩
                obtain ⟨req, hreqd⟩ : ∃ req : Nat → Int, req = reqOf ru Q N := ⟨_, rfl⟩
                obtain ⟨vf, hvf⟩ : ∃ vf : Nat → Int, vf = fun k => (f0 k : Int) % 8 := ⟨_, rfl⟩
                obtain ⟨sf, hsf⟩ : ∃ sf : Nat → Int, sf = fun k => (f1 k : Int) % 8 := ⟨_, rfl⟩
                have hrb := reqOf_bd ru Q N
                rw [← hreqd] at hrb hJ
                rw [← hvf, ← hsf] at hD hP
                have E : Emu WX (wD.heap.size + 1 + 1 + 1 + 1 + 1) (wD.heap.size + 1 + 1) (wD.heap.size + 1) (wD.heap.size) wC.heap.size (wC.heap.size + 1) (wD.heap.size + 1 + 1 + 1 + 1) wB.heap.size (wB.heap.size + 1) bc bd N m h req vf sf :=
                  ⟨by omega, by omega, by omega, by omega, by omega, by omega, by omega, by omega, by omega, fun k hk => Nat.lt_of_lt_of_le (hP.zc k hk).2 hBX.size, fun k hk => Nat.lt_of_lt_of_le (hP.zd k hk).2 hBX.size,
                    (hac 5 0 _ rfl).trans rfl, (hac 5 2 _ rfl).trans rfl, (hac 5 4 _ rfl).trans rfl, (hac 5 8 _ rfl).trans rfl, (hac 5 14 _ rfl).trans rfl, (hac 5 16 _ rfl).trans rfl, (hac 2 13 _ rfl).trans rfl, (hac 1 1 _ rfl).trans rfl,
                    (hac 4 0 _ rfl).trans rfl, (hac 4 1 _ rfl).trans rfl, (hac 4 2 _ rfl).trans rfl, (hac 4 3 _ rfl).trans rfl, (hac 4 4 _ rfl).trans rfl,
                    fun i hi => ((bcell hXC).1 _ _ (by omega)).trans (hJ.j0 i hi), fun i hi => ((bcell hXC).1 _ _ (by omega)).trans (hJ.j1 i hi), fun i hi => ((bcell hXC).1 _ _ (by omega)).trans (hJ.r3 i hi),
                    fun k hk => ((bcell hBX).1 _ _ (by omega)).trans (hD.n0 k hk), fun k hk => ((bcell hBX).1 _ _ (by omega)).trans (hD.n1 k hk), fun k hk => ((bcell hBX).1 _ _ (by omega)).trans (hD.n2 k hk),
                    fun k hk => ((bcell hBX).1 _ _ (by omega)).trans ((hownP.cellAt k (by omega)).trans (hxsP k hk)),
                    fun k hk => ((bcell hBX).1 _ _ (hP.zc k hk).2).trans (hP.c0 k hk), fun k hk => ((bcell hBX).1 _ _ (hP.zc k hk).2).trans (hP.c1 k hk), fun k hk => ((bcell hBX).1 _ _ (hP.zc k hk).2).trans (hP.c2 k hk), fun k hk => ((bcell hBX).1 _ _ (hP.zc k hk).2).trans (hP.c4 k hk), fun k hk => ((bcell hBX).1 _ _ (hP.zd k hk).2).trans (hP.d0 k hk)⟩
                have zbo : 0 < M' → bo < wB.heap.size := fun h0 => (hpb h0).2.1
                have G : Wf WX (wD.heap.size + 1 + 1 + 1 + 1 + 1) (wD.heap.size + 1 + 1 + 1 + 1 + 1 + 1 + 1 + 1 + 1) (wD.heap.size + 1 + 1 + 1 + 1 + 1 + 1) (wD.heap.size + 1 + 1 + 1 + 1 + 1 + 1 + 1 + 1) (wD.heap.size + 1 + 1 + 1 + 1 + 1 + 1 + 1) (wD.heap.size + 1 + 1 + 1) w.heap.size (if 0 < M' then bo else 0) pb j M' oc bat cvf csf x3 ord rest :=
                  ⟨by omega, by omega, by omega, by omega, by omega, by omega, fun h0 => by rw [if_pos h0]; have := zbo h0; omega, by omega, by omega, by omega, by omega, by omega, by (split <;> first | (have := zbo (by assumption); omega) | omega), by omega,
                    fun o => haf 9 o (by omega), (hac 5 12 _ rfl).trans rfl, (hac 3 0 _ rfl).trans rfl, (hac 9 2 _ rfl).trans rfl, (hac 9 4 _ rfl).trans rfl,
                    fun o ho => ⟨.int .i64 0, by
                      have e8 := hac 9 (6 + o) _ rfl
                      rw [show wD.heap.size + 9 = wD.heap.size + 1 + 1 + 1 + 1 + 1 + 1 + 1 + 1 + 1 from rfl] at e8
                      rw [e8]
                      rcases (by omega : o = 0 ∨ o = 1 ∨ o = 2 ∨ o = 3 ∨ o = 4 ∨ o = 5 ∨ o = 6 ∨ o = 7 ∨ o = 8 ∨ o = 9 ∨ o = 10 ∨ o = 11 ∨ o = 12 ∨ o = 13 ∨ o = 14 ∨ o = 15 ∨ o = 16 ∨ o = 17 ∨ o = 18 ∨ o = 19 ∨ o = 20 ∨ o = 21 ∨ o = 22 ∨ o = 23 ∨ o = 24 ∨ o = 25 ∨ o = 26 ∨ o = 27 ∨ o = 28 ∨ o = 29) with rfl | rfl | rfl | rfl | rfl | rfl | rfl | rfl | rfl | rfl | rfl | rfl | rfl | rfl | rfl | rfl | rfl | rfl | rfl | rfl | rfl | rfl | rfl | rfl | rfl | rfl | rfl | rfl | rfl | rfl <;> rfl⟩,
                    (hac 6 0 _ rfl).trans rfl, fun h0 => by rw [if_pos h0]; exact (hpb h0).1, (hac 8 0 _ rfl).trans rfl, (hac 7 1 _ rfl).trans rfl,
                    fun t ht => by rw [if_pos (show 0 < M' by omega), (bcell hXB).1 _ _ (zbo (by omega)), hbc t ht, hord, Int.natCast_emod],
                    fun t ht => by rw [hord]; exact Nat.mod_lt _ (hpb (by omega)).2.2,
                    fun i hi => by rw [(bcell hXA).1 _ _ (by omega), ht0 i hi, hbat, Int.natCast_emod]; rfl, fun i hi => by rw [(bcell hXA).1 _ _ (by omega), ht1 i hi, hcv], fun i hi => by rw [(bcell hXA).1 _ _ (by omega), ht2 i hi, hcs], fun i hi => by rw [(bcell hXA).1 _ _ (by omega), ht3 i hi], fun i hi => by rw [hbat]; omega⟩
                have hFast := fastest_any _ _ _ _ _ _ _ _ _ bc bd N m h n req vf sf WX _ _ _ _ _ _ _ pb j M' oc bat cvf csf x3 ord rest w.heap.size E G hN (Hm.out.symm) (by omega) (fun i _ => hrb i) hF hM' (by omega) (by omega)
                have HE := hide E
                have HG := hide G
                clear E G hac haf hP hD hownP hxsP hbat hcv hcs hord hreqd hvf hsf hpo hpr hpf ht0 ht1 ht2 ht3 hbc
                go_wp2_with (go_at_call 12; refine hFast.mono ?_; rintro e W2 ⟨hcase, hchg⟩; rcases hcase with ⟨q, hq, hqp, hqle, rfl, c6, c7, c8, c9, c10, c11⟩ | ⟨hall, rfl⟩)
                · have hne : ∀ b o, b ≠ wD.heap.size + 1 + 1 + 1 + 1 + 1 + 1 + 1 + 1 + 1 → ¬ (b = wD.heap.size + 1 + 1 + 1 + 1 + 1 + 1 + 1 + 1 + 1 ∧ 6 ≤ o) := fun b o hb h => hb h.1
                  have o2 : ∀ k, k < M' → W2.cell? ⟨(if 0 < M' then bo else 0), k, none⟩ = some (.int .i64 (ord k)) := fun k hk => hchg.same (HG.out.o k hk) (hne _ _ HG.out.no)
                  have t20 : ∀ i, i < j → W2.cell? ⟨w.heap.size, i * 4, none⟩ = some (.int .i64 (bat i)) := fun i hi => hchg.same (HG.out.t0 i hi) (hne _ _ HG.out.nt)
                  have t21 : ∀ i, i < j → W2.cell? ⟨w.heap.size, i * 4 + 1, none⟩ = some (.int .i64 (cvf i)) := fun i hi => hchg.same (HG.out.t1 i hi) (hne _ _ HG.out.nt)
                  have t22 : ∀ i, i < j → W2.cell? ⟨w.heap.size, i * 4 + 2, none⟩ = some (.int .i64 (csf i)) := fun i hi => hchg.same (HG.out.t2 i hi) (hne _ _ HG.out.nt)
                  have t23 : ∀ i, i < j → W2.cell? ⟨w.heap.size, i * 4 + 3, none⟩ = some (.int .i64 (x3 i)) := fun i hi => hchg.same (HG.out.t3 i hi) (hne _ _ HG.out.nt)
                  have rq2 : ∀ i, i < m → W2.cell? ⟨wB.heap.size + 1, i * 4 + 3, none⟩ = some (.int .i64 (req i)) := fun i hi => hchg.same (HE.out.rq i hi) (hne _ _ (by omega))
                  have nv2 : ∀ k, k < N → W2.cell? ⟨wC.heap.size, k * 5, none⟩ = some (.int .i64 (vf k)) := fun i hi => hchg.same (HE.out.nv i hi) (hne _ _ (by omega))
                  have ns2 : ∀ k, k < N → W2.cell? ⟨wC.heap.size, k * 5 + 1, none⟩ = some (.int .i64 (sf k)) := fun i hi => hchg.same (HE.out.ns i hi) (hne _ _ (by omega))
                  have hB2 : Below w.heap.size w W2 := hXw.trans hchg.below
                  have z2 := hchg.size
                  have HR2 := hide (And.intro rq2 (And.intro nv2 (And.intro ns2 (And.intro t20 (And.intro t21 (And.intro t22 (And.intro t23 o2)))))))
                  clear rq2 nv2 ns2 t20 t21 t22 t23 o2
                  go_loopw [36, 222] (fun ix i ws => ∃ t : Nat, t ≤ M' ∧ i = .int .i64 t ∧ ix = .int .i64 (-1) ∧ (∀ k, k < t → n < bat (ord k)) ∧ ws = W2) (fun _ i _ => M' - (intOf i).toNat)
                  case atStart => exact ⟨0, by omega, rfl, rfl, fun k hk => by omega, rfl⟩
                  case round =>
                    obtain ⟨t, ht, rfl, rfl, hpre, rfl⟩ := hrel
                    obtain ⟨rq2, nv2, ns2, t20, t21, t22, t23, o2⟩ := HR2.out
                    by_cases htl : t < M'
                    · have htI : (t : Int) < (M' : Int) := by omega
                      have o1 := o2 t htl
                      rw [if_pos (show 0 < M' by omega)] at o1
                      have hpe := (hpb (by omega)).1
                      subst hpe
                      have hol := HG.out.ol t htl
                      have htb := HG.out.tb (ord t) hol
                      have a0 := t20 (ord t) hol
                      have a1 := t21 (ord t) hol
                      have a2 := t22 (ord t) hol
                      have a3 := t23 (ord t) hol
                      have holI : ((ord t : Nat) : Int) < (j : Int) := by omega
                      have HH := hide (And.intro rq2 (And.intro nv2 ns2))
                      clear rq2 nv2 ns2 t20 t21 t22 t23 o2 HR2
                      by_cases hb : bat (ord t) ≤ n
                      · have hbI : ((bat (ord t) : Nat) : Int) ≤ (n : Int) := by omega
                        have hqt : q = t := by
                          rcases Nat.lt_trichotomy q t with h1 | h1 | h1
                          · have := hpre q h1; omega
                          · exact h1
                          · have := hqp t h1; omega
                        subst hqt
                        have hneg : ¬ ((ord q : Nat) : Int) < 0 := by omega
                        have hNode : ∀ W3 : World, Below wr.heap.size wr W3 → Calls Yba.prog 13 #[.slice (some ⟨wB.heap.size + 1, 0, none⟩) m m, .slice (some ⟨wC.heap.size, 0, none⟩) N N, .int .i64 h, .agg #[.int .i64 (bat (ord q)), .int .i64 (cvf (ord q)), .int .i64 (csf (ord q)), .int .i64 (x3 (ord q))]] W3 fun e w' => e = .returned (.int .i64 (nodeOf req h (bat (ord q)) N (cvf (ord q)) (csf (ord q)) vf sf)) ∧ Below W3.heap.size W3 w' := fun W3 hb3 =>
                          bnode_any (wB.heap.size + 1) wC.heap.size m N h (bat (ord q)) req (cvf (ord q)) (csf (ord q)) (x3 (ord q)) vf sf W3 (by have := hb3.size; omega) (by have := hb3.size; omega) hN htb (by have := Hm.out; omega) (by omega) (fun i hi => ((bcell hb3).1 _ _ (by omega)).trans (HH.out.1 i hi)) (fun i _ => hrb i) (fun i hi => ((bcell hb3).1 _ _ (by omega)).trans (HH.out.2.1 i hi)) (fun i hi => ((bcell hb3).1 _ _ (by omega)).trans (HH.out.2.2 i hi))
                        go_wp2_with (go_at_call 13; refine (hNode _ ((Below.refl _ _).alloc (Nat.le_refl _) _)).mono ?_; rintro e W4 ⟨rfl, hB4⟩)
                        generalize nodeOf req h (bat (ord q)) N (cvf (ord q)) (csf (ord q)) vf sf = nn at *
                        have hB4' : Below wr.heap.size wr W4 := ((Below.refl _ _).alloc (Nat.le_refl _) _).trans (hB4.mono (by simp))
                        have zW : wD.heap.size + 1 + 1 + 1 + 1 + 1 + 1 + 1 + 1 + 1 < wr.heap.size := Nat.lt_of_lt_of_le HG.out.zw z2
                        have r6 := ((bcell hB4').1 _ _ zW).trans c6
                        have r7 := ((bcell hB4').1 _ _ zW).trans c7
                        have r8 := ((bcell hB4').1 _ _ zW).trans c8
                        have r9 := ((bcell hB4').1 _ _ zW).trans c9
                        have r10 := ((bcell hB4').1 _ _ zW).trans c10
                        have r11 := ((bcell hB4').1 _ _ zW).trans c11
                        have l0 := ((bcell hB4).1 wr.heap.size 0 (by simp)).trans (show _ = some (.int .i64 (bat (ord q) : Int)) by simp [World.cell?_alloc_at])
                        have l1 := ((bcell hB4).1 wr.heap.size 1 (by simp)).trans (show _ = some (.int .i64 (cvf (ord q))) by simp [World.cell?_alloc_at])
                        have l2 := ((bcell hB4).1 wr.heap.size 2 (by simp)).trans (show _ = some (.int .i64 (csf (ord q))) by simp [World.cell?_alloc_at])
                        have l3 := ((bcell hB4).1 wr.heap.size 3 (by simp)).trans (show _ = some (.int .i64 (x3 (ord q))) by simp [World.cell?_alloc_at])
                        have hB9 : Below w.heap.size w W4 := hB2.trans (hB4'.mono hB2.size)
                        clear c6 c7 c8 c9 c10 c11 hNode a0 a1 a2 a3 o1 HH HE HG
                        go_quiet (fail)
                        go_wp2
                        go_ret
                        exact ⟨ret_bool (by simp), below_draws hB9 _⟩
                      · have hbI : ¬ ((bat (ord t) : Nat) : Int) ≤ (n : Int) := by omega
                        go_wp2
                        go_roundw
                        case rel => exact ⟨t + 1, by omega, by go_num, rfl, fun k hk => by
                          rcases Nat.lt_succ_iff_lt_or_eq.1 hk with h1 | h1
                          · exact hpre k h1
                          · subst h1; omega, by first | exact trivial | rfl⟩
                        case measure => simp [intOf]; omega
                    · have := hpre q (by omega)
                      omega
                · have hne : ∀ b o, b ≠ wD.heap.size + 1 + 1 + 1 + 1 + 1 + 1 + 1 + 1 + 1 → ¬ (b = wD.heap.size + 1 + 1 + 1 + 1 + 1 + 1 + 1 + 1 + 1 ∧ 6 ≤ o) := fun b o hb h => hb h.1
                  have o2 : ∀ k, k < M' → W2.cell? ⟨(if 0 < M' then bo else 0), k, none⟩ = some (.int .i64 (ord k)) := fun k hk => hchg.same (HG.out.o k hk) (hne _ _ HG.out.no)
                  have t20 : ∀ i, i < j → W2.cell? ⟨w.heap.size, i * 4, none⟩ = some (.int .i64 (bat i)) := fun i hi => hchg.same (HG.out.t0 i hi) (hne _ _ HG.out.nt)
                  have t21 : ∀ i, i < j → W2.cell? ⟨w.heap.size, i * 4 + 1, none⟩ = some (.int .i64 (cvf i)) := fun i hi => hchg.same (HG.out.t1 i hi) (hne _ _ HG.out.nt)
                  have t22 : ∀ i, i < j → W2.cell? ⟨w.heap.size, i * 4 + 2, none⟩ = some (.int .i64 (csf i)) := fun i hi => hchg.same (HG.out.t2 i hi) (hne _ _ HG.out.nt)
                  have t23 : ∀ i, i < j → W2.cell? ⟨w.heap.size, i * 4 + 3, none⟩ = some (.int .i64 (x3 i)) := fun i hi => hchg.same (HG.out.t3 i hi) (hne _ _ HG.out.nt)
                  have rq2 : ∀ i, i < m → W2.cell? ⟨wB.heap.size + 1, i * 4 + 3, none⟩ = some (.int .i64 (req i)) := fun i hi => hchg.same (HE.out.rq i hi) (hne _ _ (by omega))
                  have nv2 : ∀ k, k < N → W2.cell? ⟨wC.heap.size, k * 5, none⟩ = some (.int .i64 (vf k)) := fun i hi => hchg.same (HE.out.nv i hi) (hne _ _ (by omega))
                  have ns2 : ∀ k, k < N → W2.cell? ⟨wC.heap.size, k * 5 + 1, none⟩ = some (.int .i64 (sf k)) := fun i hi => hchg.same (HE.out.ns i hi) (hne _ _ (by omega))
                  have hB2 : Below w.heap.size w W2 := hXw.trans hchg.below
                  have z2 := hchg.size
                  have HR2 := hide (And.intro rq2 (And.intro nv2 (And.intro ns2 (And.intro t20 (And.intro t21 (And.intro t22 (And.intro t23 o2)))))))
                  clear rq2 nv2 ns2 t20 t21 t22 t23 o2
                  go_loopw [36, 222] (fun ix i ws => ∃ t : Nat, t ≤ M' ∧ i = .int .i64 t ∧ ix = .int .i64 (-1) ∧ (∀ k, k < t → n < bat (ord k)) ∧ ws = W2) (fun _ i _ => M' - (intOf i).toNat)
                  case atStart => exact ⟨0, by omega, rfl, rfl, fun k hk => by omega, rfl⟩
                  case round =>
                    obtain ⟨t, ht, rfl, rfl, hpre, rfl⟩ := hrel
                    obtain ⟨rq2, nv2, ns2, t20, t21, t22, t23, o2⟩ := HR2.out
                    by_cases htl : t < M'
                    · have htI : (t : Int) < (M' : Int) := by omega
                      have o1 := o2 t htl
                      rw [if_pos (show 0 < M' by omega)] at o1
                      have hpe := (hpb (by omega)).1
                      subst hpe
                      have hol := HG.out.ol t htl
                      have htb := HG.out.tb (ord t) hol
                      have a0 := t20 (ord t) hol
                      have a1 := t21 (ord t) hol
                      have a2 := t22 (ord t) hol
                      have a3 := t23 (ord t) hol
                      have holI : ((ord t : Nat) : Int) < (j : Int) := by omega
                      have HH := hide (And.intro rq2 (And.intro nv2 ns2))
                      clear rq2 nv2 ns2 t20 t21 t22 t23 o2 HR2
                      by_cases hb : bat (ord t) ≤ n
                      · have := hall t htl
                        omega
                      · have hbI : ¬ ((bat (ord t) : Nat) : Int) ≤ (n : Int) := by omega
                        go_wp2
                        go_roundw
                        case rel => exact ⟨t + 1, by omega, by go_num, rfl, fun k hk => by
                          rcases Nat.lt_succ_iff_lt_or_eq.1 hk with h1 | h1
                          · exact hpre k h1
                          · subst h1; omega, by first | exact trivial | rfl⟩
                        case measure => simp [intOf]; omega
                    · have htI : ¬ (t : Int) < (M' : Int) := by omega
                      go_wp2
                      go_ret
                      exact ⟨rfl, hB2⟩

end Go.Proofs.Ybulkjqw
