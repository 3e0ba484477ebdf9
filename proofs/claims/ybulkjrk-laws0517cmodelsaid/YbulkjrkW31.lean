/-
  OWN WORK: LawS0517CModel, the walk.
-/
import Derived.Test.YbulkjrkR3
namespace Go.Proofs.Ybulkjrk
open Go.RowKit
set_option linter.unusedSimpArgs false
set_option linter.unusedVariables false
set_option linter.unusedSectionVars false
set_option maxRecDepth 100000
set_option maxHeartbeats 20000000 in
theorem model_any {W : World} {a : Option Addr} {n cap bs os : Nat} {en sl : Nat → Bool} {st li qy : Nat → Int} (ha : 0 < n → a = some ⟨bs, os, none⟩) (hI : In5 W bs os n en sl st li qy) (hn : n ≤ 1024) (x : Int) (hx : 0 ≤ x ∧ x ≤ 255) :
    Calls Yba.prog 6 #[.slice a n cap, .int .u8 x] W fun e w' => e = .returned (.bool true) ∧ Below W.heap.size W w' := by
  letI : Base := ⟨⟨W.heap.size⟩⟩
  have hnI : ¬ (1024 : Int) < (n : Int) := by omega
  have hcb := cbuild_any (W := W) (cap := cap) rfl hI hn ha
  go_enter Yba.func6, Yba.ntmps6
  go_wp2_with (go_at_call 15; refine hcb.mono ?_; rintro e w1 ⟨eb, bb, mb, ob, g, q, tot, lev, M, rfl, C⟩)
  obtain ⟨E1, Q1⟩ := cb_es C
  have hact := act_any E1 hn (fun i _ => plain_qty i) (x % 22) Q1 (.inl rfl) (World.ownsRow_nil w1 Base.B 59 9) (by omega)
  refine hact.mono ?_
  clear hact hcb E1 Q1 C
  rintro e w2 ⟨ev1, T, rfl, hup, hT, ⟨g2, q2, tot2, lev2, M2, cnt2, c2, cm2, E2, Q2⟩, hev2⟩
  dsimp only
  obtain rfl := T_is hup hT
  clear hup hT
  simp only [List.nil_append, Nat.zero_add] at E2 hev2
  obtain ⟨s, hs⟩ : ∃ s, plainS en sl st li qy = s := ⟨_, rfl⟩
  obtain ⟨lp, hlp⟩ : ∃ lp, x % 22 = lp := ⟨_, rfl⟩
  rw [hs, hlp] at E2 hev2
  replace E2 : ES s n eb bb mb W (Tl s lp n) (actAll s (Tl s lp n)).1 [] ob g2 q2 tot2 lev2 M2 cnt2 c2 cm2 w2 := E2
  replace hev2 : w2.ownsRow Base.B 59 9 ev1 (actAll s (Tl s lp n)).2.length (evs (actAll s (Tl s lp n)).2) := hev2
  obtain ⟨w3, hr3, hB3, hz3, O3⟩ := make_bools n hn w2
  obtain ⟨w4, hr4, hB4, hz4, O4⟩ := make_bools n hn w3
  have L0 := ls0 s lp hB3 hz3 O3 hB4 O4
  have HR3 := hide hr3
  have HR4 := hide hr4
  have hbel2 : Below W.heap.size W w2 := E2.below
  have HE := hide (And.intro E2 (And.intro Q2 (And.intro hev2 (And.intro hs (And.intro hI hbel2)))))
  clear hr3 hr4 hB3 hz3 O3 hB4 hz4 O4 E2 Q2 hev2 hs hI hbel2
  go_wp2_with (at_make; (first | refine wpList_bools HR3 rfl _ _ rfl rfl rfl ?_ | refine wpList_bools HR4 rfl _ _ rfl rfl rfl ?_))
  clear HR3 HR4
  try rw [hlp]
  clear hlp
  refine loop1_any ha (HE.out.2.2.2.2.1.under HE.out.2.2.2.2.2) HE.out.2.2.2.1 hn L0 ?_
  intro v18 v19 v20 v21 v22 v49 v50 v51 v52 v53 v54 v55 v56 v57 v58 v59 v60 v61 v62 v63 v64 v65 v66 v67 v68 v69 v70 v71 v72 v73 v74 v75 v76 v77 v78 v79 v80 v81 v82 v83 v84 v85 v86 v87 v88 v89 v90 v91 v92 v93 v94 v95 v96 v97 v98 v99 v100 v101 v102 v103 v104 v105 v106 v107 v108 v109 v110 v111 v112 v113 v114 v115 v116 v117 v118 v119 v120 v121 v122 v123 v124 v125 v126 v127 v128 v129 v130 v131 v132 v133 v134 v135 v136 v137 v138 v139 v140 v141 v142 v143 v144 v145 v146 v147 v148 v149 v150 v151 v152 v153 v154 v155 v156 v157 x10 bN sN mB mS wB L
  clear L0
  have hge : ¬ (n : Int) < (n : Int) := by omega
  obtain ⟨E, hE⟩ : ∃ E, (actAll s (Tl s lp n)).2 = E := ⟨_, rfl⟩
  have hev := rowUnder HE.out.2.2.1 L.lm.below
  have hwt := L.lm.want
  rw [hE] at hev hwt
  have hEb : E.length ≤ 2048 := by rw [← hE]; exact acts_len s lp hn
  obtain ⟨aE, cE, rfl⟩ := rowAny hev
  obtain ⟨aW, cW, rfl⟩ := rowAny hwt
  have HV := hide (And.intro hev hwt)
  have HL := hide (And.intro L HE.out)
  clear hev hwt L HE hE
  go_wp2
  go_loopw [23] (fun v wr2 => ∃ (k m : Nat), k ≤ E.length ∧ v = .int .i64 k ∧ wr2 = wB.drewN m) (fun v _ => E.length - (intOf v).toNat)
  case atStart => exact ⟨0, 0, by omega, rfl, rfl⟩
  case round =>
    obtain ⟨k, m, hk, rfl, rfl⟩ := hrel
    by_cases hkE : k < E.length
    · have hltI : (k : Int) < (E.length : Int) := by omega
      obtain ⟨gE, cE', he1, hgE, zE⟩ := HV.out.1.form (by omega)
      obtain ⟨gW, cW', he2, hgW, zW⟩ := HV.out.2.form (by omega)
      simp only [Value.slice.injEq, true_and] at he1 he2
      obtain ⟨rfl, rfl⟩ := he1
      obtain ⟨rfl, rfl⟩ := he2
      obtain ⟨x1, x2, hx12⟩ : ∃ x1 x2, E[k]? = some (x1, x2) := ⟨E[k].1, E[k].2, by simp [hkE]⟩
      have o0 : wB.cell? ⟨gE, k * 9, none⟩ = some (.int .u8 x1) := ev_cell HV.out.1 hx12 0 (by omega)
      have o1 : wB.cell? ⟨gE, k * 9 + 1, none⟩ = some (.int .u64 7) := ev_cell HV.out.1 hx12 1 (by omega)
      have o2 : wB.cell? ⟨gE, k * 9 + 2, none⟩ = some (.int .u64 x2) := ev_cell HV.out.1 hx12 2 (by omega)
      have o3 : wB.cell? ⟨gE, k * 9 + 3, none⟩ = some (.string ⟨#[]⟩) := ev_cell HV.out.1 hx12 3 (by omega)
      have o4 : wB.cell? ⟨gE, k * 9 + 4, none⟩ = some (.int .u8 0) := ev_cell HV.out.1 hx12 4 (by omega)
      have o5 : wB.cell? ⟨gE, k * 9 + 5, none⟩ = some (.int .i64 0) := ev_cell HV.out.1 hx12 5 (by omega)
      have o6 : wB.cell? ⟨gE, k * 9 + 6, none⟩ = some (.int .i64 0) := ev_cell HV.out.1 hx12 6 (by omega)
      have o7 : wB.cell? ⟨gE, k * 9 + 7, none⟩ = some (.int .u64 0) := ev_cell HV.out.1 hx12 7 (by omega)
      have o8 : wB.cell? ⟨gE, k * 9 + 8, none⟩ = some (.int .u64 0) := ev_cell HV.out.1 hx12 8 (by omega)
      have i0 : wB.cell? ⟨gW, k * 9, none⟩ = some (.int .u8 x1) := ev_cell HV.out.2 hx12 0 (by omega)
      have i1 : wB.cell? ⟨gW, k * 9 + 1, none⟩ = some (.int .u64 7) := ev_cell HV.out.2 hx12 1 (by omega)
      have i2 : wB.cell? ⟨gW, k * 9 + 2, none⟩ = some (.int .u64 x2) := ev_cell HV.out.2 hx12 2 (by omega)
      have i3 : wB.cell? ⟨gW, k * 9 + 3, none⟩ = some (.string ⟨#[]⟩) := ev_cell HV.out.2 hx12 3 (by omega)
      have i4 : wB.cell? ⟨gW, k * 9 + 4, none⟩ = some (.int .u8 0) := ev_cell HV.out.2 hx12 4 (by omega)
      have i5 : wB.cell? ⟨gW, k * 9 + 5, none⟩ = some (.int .i64 0) := ev_cell HV.out.2 hx12 5 (by omega)
      have i6 : wB.cell? ⟨gW, k * 9 + 6, none⟩ = some (.int .i64 0) := ev_cell HV.out.2 hx12 6 (by omega)
      have i7 : wB.cell? ⟨gW, k * 9 + 7, none⟩ = some (.int .u64 0) := ev_cell HV.out.2 hx12 7 (by omega)
      have i8 : wB.cell? ⟨gW, k * 9 + 8, none⟩ = some (.int .u64 0) := ev_cell HV.out.2 hx12 8 (by omega)
      clear hx12
      go_wp2
      go_quiet (fail)
      go_wp2
      go_roundw
      case rel => exact ⟨k + 1, _, by omega, by go_num, rfl⟩
      case measure => simp [intOf]; omega
    · obtain rfl : E.length = k := by omega
      have hge2 : ¬ (E.length : Int) < (E.length : Int) := by omega
      clear HV
      go_wp2
      go_loopw [24, 25] (fun v24 v25 wr => ∃ (t k : Nat), t ≤ n ∧ k ≤ t ∧ v24 = .int .i64 k ∧ v25 = .int .i64 t ∧ Cnt s lp t k ∧ Below wB.heap.size wB wr) (fun _ v25 _ => n - (intOf v25).toNat)
      case atStart => exact ⟨0, 0, by omega, by omega, rfl, rfl, ⟨by simp [Tl, actAll]⟩, below_draws (Below.refl _ _) m⟩
      case round =>
        obtain ⟨t, k, htn3, hkt, rfl, rfl, hC, hB3⟩ := hrel
        have E2 := HL.out.2.1
        have L := HL.out.1
        have hB : Below w2.heap.size w2 wr := L.lm.below.trans (hB3.mono L.lm.below.size)
        have hbelW : Below W.heap.size W wr := HL.out.2.2.2.2.2.2.trans (hB.mono HL.out.2.2.2.2.2.2.size)
        have zeb : eb < wr.heap.size := Nat.lt_of_lt_of_le E2.ph.en.lt hB.size
        have e1 : wr.cell? ⟨eb, 1, none⟩ = some (.map (some mb)) := (hB.cell (p := ⟨eb, 1, none⟩) E2.ph.en.lt).trans (by rw [E2.ph.en.cell 1 (by omega), E2.ec1])
        have hmap : MapIs mb M2 cnt2 cm2 wr := E2.map.kept (hB.block mb E2.map.lt)
        by_cases ht : t < n
        · have htI : (t : Int) < (n : Int) := by omega
          obtain rfl := ha (by omega)
          have hI := HL.out.2.2.2.2.2.1
          have zb : bs < W.heap.size := World.block_lt_of_cell? W ⟨bs, _, none⟩ (hI.c0 t ht)
          have cl : ∀ o, wr.cell? ⟨bs, o, none⟩ = W.cell? ⟨bs, o, none⟩ := fun o => hbelW.cell (p := ⟨bs, o, none⟩) zb
          have d0 := (cl _).trans (hI.c0 t ht)
          have d1 := (cl _).trans (hI.c1 t ht)
          have d2 := (cl _).trans (hI.c2 t ht)
          have d3 := (cl _).trans (hI.c3 t ht)
          have d4 := (cl _).trans (hI.c4 t ht)
          have r2 := hI.r2 t ht
          have r3 := hI.r3 t ht
          have r4 := hI.r4 t ht
          have hid := fun w => cid_any (t : Int) (by omega) (by omega) w
          have hwr : IntKind.u64.wrap (t : Int) = t := by simp [IntKind.wrap, IntKind.signed, IntKind.bits]; omega
          simp only [hwr] at hid
          have ct := (L.lm.cellT ht (flags_get ht)).1
          have cr := (L.lm.cellR ht (flags_get ht)).1
          have ct3 := (hB3.cell (p := ⟨w2.heap.size, t, none⟩) (World.block_lt_of_cell? wB ⟨w2.heap.size, t, none⟩ ct)).trans ct
          have cr3 := (hB3.cell (p := ⟨w3.heap.size, t, none⟩) (World.block_lt_of_cell? wB ⟨w3.heap.size, t, none⟩ cr)).trans cr
          have hord : ∀ j, j < 12 → wr.cell? ⟨ob t, j, none⟩ = some (g2.oc t j) := fun j hj => (hB.cell (p := ⟨ob t, j, none⟩) (E2.ph.ord t ht).lt).trans ((E2.ph.ord t ht).cell j hj)
          have zo : ob t < wr.heap.size := Nat.lt_of_lt_of_le (E2.ph.ord t ht).lt hB.size
          have HS := hide (And.intro hB3 (And.intro hmap (And.intro hbelW (And.intro hord (And.intro ct3 cr3)))))
          clear E2 L hB hbelW hmap hI zb cl ct cr ct3 cr3 hord
          go_wp2
          obtain ⟨NB, hNB⟩ : ∃ NB, NB = wr.heap.size := ⟨_, rfl⟩
          obtain ⟨W5, hW5⟩ : ∃ W5, W5 = wr.alloc (.cells #[.bool (en t), .bool (sl t), .int .u8 (st t), .int .u8 (li t), .int .u16 (qy t)] 69) := ⟨_, rfl⟩
          rw [← hW5, ← hNB]
          have hB5 : Below wr.heap.size wr W5 := by rw [hW5]; exact (Below.refl _ _).alloc (Nat.le_refl _) _
          have y0 : W5.cell? ⟨NB, 0, none⟩ = some (.bool (en t)) := by rw [hW5]; exact World.cell?_alloc_at _ _ _ _ hNB
          have y1 : W5.cell? ⟨NB, 1, none⟩ = some (.bool (sl t)) := by rw [hW5]; exact World.cell?_alloc_at _ _ _ _ hNB
          have y2 : W5.cell? ⟨NB, 2, none⟩ = some (.int .u8 (st t)) := by rw [hW5]; exact World.cell?_alloc_at _ _ _ _ hNB
          have y3 : W5.cell? ⟨NB, 3, none⟩ = some (.int .u8 (li t)) := by rw [hW5]; exact World.cell?_alloc_at _ _ _ _ hNB
          have y4 : W5.cell? ⟨NB, 4, none⟩ = some (.int .u16 (qy t)) := by rw [hW5]; exact World.cell?_alloc_at _ _ _ _ hNB
          have zN : NB < W5.heap.size := by rw [hW5, hNB]; simp
          have f1 : W5.cell? ⟨eb, 1, none⟩ = some (.map (some mb)) := (hB5.cell (p := ⟨eb, 1, none⟩) zeb).trans e1
          have zeb5 : eb < W5.heap.size := Nat.lt_of_lt_of_le zeb hB5.size
          have hmap5 : MapIs mb M2 cnt2 cm2 W5.drew := (HS.out.2.1.kept (hB5.block mb HS.out.2.1.lt)).kept rfl
          have HM := hide hmap5
          have HB5 := hide hB5
          clear hW5 hNB d0 d1 d2 d3 d4 e1 hmap5 hB5
          go_region_held3 (fun w' => w'.cell? ⟨eb, 1, none⟩ = some (.map (some mb))) (first | exact f1 | exact g1) (first | (go_at_call 17; refine (hid _).mono ?_; rintro e w6 ⟨rfl, hB6⟩; have g1 := (hB6.cell (p := ⟨eb, 1, none⟩) zeb5).trans f1; have hlk := (HM.out.kept (hB6.block mb HM.out.lt)).look (i := t) (by omega); simp only [kv] at hlk))
          have hs := HL.out.2.2.2.2.1
          have k6 : ∀ b o v, b < wr.heap.size → wr.cell? ⟨b, o, none⟩ = some v → w6.cell? ⟨b, o, none⟩ = some v := fun b o v hb hv => ((hB6.cell (p := ⟨b, o, none⟩) (Nat.lt_of_lt_of_le hb HB5.out.size)).trans (HB5.out.cell (p := ⟨b, o, none⟩) hb)).trans hv
          have p0 := (hB6.cell (p := ⟨NB, 0, none⟩) zN).trans y0
          have p1 := (hB6.cell (p := ⟨NB, 1, none⟩) zN).trans y1
          have p2 := (hB6.cell (p := ⟨NB, 2, none⟩) zN).trans y2
          have p3 := (hB6.cell (p := ⟨NB, 3, none⟩) zN).trans y3
          have p4 := (hB6.cell (p := ⟨NB, 4, none⟩) zN).trans y4
          have zN6 : NB < w6.heap.size := Nat.lt_of_lt_of_le zN hB6.size
          have zo6 : ob t < w6.heap.size := Nat.lt_of_lt_of_le zo (Nat.le_trans HB5.out.size hB6.size)
          have zt3 := World.block_lt_of_cell? wr ⟨w2.heap.size, t, none⟩ HS.out.2.2.2.2.1
          have zr3 := World.block_lt_of_cell? wr ⟨w3.heap.size, t, none⟩ HS.out.2.2.2.2.2
          have hB36 : Below wB.heap.size wB w6 := HS.out.1.trans ((HB5.out.drew.mono HS.out.1.size).trans (hB6.mono (Nat.le_trans HS.out.1.size HB5.out.size)))
          have ct6 := k6 _ _ _ zt3 HS.out.2.2.2.2.1
          have cr6 := k6 _ _ _ zr3 HS.out.2.2.2.2.2
          have hq6 : ∀ j, j < 12 → w6.cell? ⟨ob t, j, none⟩ = some (g2.oc t j) := fun j hj => k6 _ _ _ zo (HS.out.2.2.2.1 j hj)
          have HB6 := hide hB36
          have HCn := hide hC
          clear k6 hB36 hC hid hlk g1 f1 y0 y1 y2 y3 y4 hB6 zN HM HB5 HS
          by_cases hR : t ∈ (actAll s (Tl s lp n)).1
          · have hM : M2 t = some (ob t) := by rw [HL.out.2.1.mM t, if_pos ⟨ht, .inr hR⟩]
            have hTr := (rest_lt hR).2
            have hocr := HL.out.2.1.ocr t hR
            have q2 : w6.cell? ⟨ob t, 2, none⟩ = some (.int .u8 (sdI (sl t))) := by have h := hq6 2 (by omega); rw [hocr 2 (by omega), ← hs] at h; exact h
            have q3 : w6.cell? ⟨ob t, 3, none⟩ = some (.int .u8 0) := by have h := hq6 3 (by omega); rw [hocr 3 (by omega), ← hs] at h; exact h
            have q4 : w6.cell? ⟨ob t, 4, none⟩ = some (.int .i64 (li t % 21)) := by have h := hq6 4 (by omega); rw [hocr 4 (by omega), ← hs] at h; exact h
            have q5 : w6.cell? ⟨ob t, 5, none⟩ = some (.int .i64 (qy t % 1000 + 1)) := by have h := hq6 5 (by omega); rw [hocr 5 (by omega), ← hs] at h; exact h
            have hsd : ∀ w, Calls Yba.prog 18 #[.agg #[.bool (en t), .bool (sl t), .int .u8 (st t), .int .u8 (li t), .int .u16 (qy t)]] w fun e w' => e = .returned (.int .u8 (sdI (sl t))) ∧ Below w.heap.size w w' := fun w => cside_any (en t) (sl t) (.int .u8 (st t)) (.int .u8 (li t)) (.int .u16 (qy t)) rfl rfl rfl w
            have hd1 : (decide (t < n) && trg s lp t) = true := by simp [ht, hTr]
            have hd2 : decide (t ∈ (actAll s (Tl s lp n)).1) = true := by simpa using hR
            rw [hd1] at ct6
            rw [hd2] at cr6
            have HCn' := hide (HCn.out.rest ((rest_at ht).1 hR))
            rw [hM]
            simp only [ptr, Option.map_some]
            clear hM hocr hq6 hd1 hd2 HCn hs hTr hR
            have hwl : IntKind.i64.wrap ((li t).tmod 21) = li t % 21 := wrap_mod (n := 21) r3 (by omega) (by omega)
            have hwq : IntKind.i64.wrap ((qy t).tmod 1000) = qy t % 1000 := wrap_mod (n := 1000) r4 (by omega) (by omega)
            have hwq1 : IntKind.i64.wrap (qy t % 1000 + 1) = qy t % 1000 + 1 := wrap_small (by omega) (by omega)
            go_wp2
            go_region_held3 (fun w' => w'.cell? ⟨ob t, 2, none⟩ = some (.int .u8 (sdI (sl t))) ∧ w'.cell? ⟨ob t, 3, none⟩ = some (.int .u8 0) ∧ w'.cell? ⟨ob t, 4, none⟩ = some (.int .i64 (li t % 21)) ∧ w'.cell? ⟨ob t, 5, none⟩ = some (.int .i64 (qy t % 1000 + 1)) ∧ w'.cell? ⟨NB, 0, none⟩ = some (.bool (en t)) ∧ w'.cell? ⟨NB, 1, none⟩ = some (.bool (sl t)) ∧ w'.cell? ⟨NB, 2, none⟩ = some (.int .u8 (st t)) ∧ w'.cell? ⟨NB, 3, none⟩ = some (.int .u8 (li t)) ∧ w'.cell? ⟨NB, 4, none⟩ = some (.int .u16 (qy t))) (first | exact ⟨q2, q3, q4, q5, p0, p1, p2, p3, p4⟩ | exact ⟨Q2, Q3, Q4, Q5, P0, P1, P2, P3, P4⟩) (first | (go_at_call 18; refine (hsd _).mono ?_; rintro e w7 ⟨rfl, hB7⟩; have Q2 := (hB7.cell (p := ⟨ob t, 2, none⟩) zo6).trans q2; have Q3 := (hB7.cell (p := ⟨ob t, 3, none⟩) zo6).trans q3; have Q4 := (hB7.cell (p := ⟨ob t, 4, none⟩) zo6).trans q4; have Q5 := (hB7.cell (p := ⟨ob t, 5, none⟩) zo6).trans q5; have P0 := (hB7.cell (p := ⟨NB, 0, none⟩) zN6).trans p0; have P1 := (hB7.cell (p := ⟨NB, 1, none⟩) zN6).trans p1; have P2 := (hB7.cell (p := ⟨NB, 2, none⟩) zN6).trans p2; have P3 := (hB7.cell (p := ⟨NB, 3, none⟩) zN6).trans p3; have P4 := (hB7.cell (p := ⟨NB, 4, none⟩) zN6).trans p4))
            have HB7 := hide (HB6.out.drew.trans (hB7.mono HB6.out.size))
            clear hB7
            go_wp2
            go_roundw
            case rel => exact ⟨t + 1, k + 1, by omega, by omega, by simp, by simp, HCn'.out, HB7.out⟩
            case measure => simp [intOf]; omega
          · by_cases hTr : trg s lp t = true
            · have hM : M2 t = none := by
                rw [HL.out.2.1.mM t, if_neg]
                rintro ⟨_, h | h⟩
                · exact h (Tl_mem.2 ⟨ht, hTr⟩)
                · exact hR h
              have hd1 : (decide (t < n) && trg s lp t) = true := by simp [ht, hTr]
              have hd2 : decide (t ∈ (actAll s (Tl s lp n)).1) = false := by simpa using hR
              rw [hd1] at ct6
              rw [hd2] at cr6
              have HCn' := hide (HCn.out.gone hTr (fun h => hR ((rest_at ht).2 h)))
              rw [hM]
              simp only [ptr, Option.map_none]
              clear hM hq6 hd1 hd2 HCn hs hTr hR
              go_wp2
              go_roundw
              case rel => exact ⟨t + 1, k, by omega, by omega, rfl, by simp, HCn'.out, HB6.out⟩
              case measure => simp [intOf]; omega
            · have hTr' : trg s lp t = false := by simpa using hTr
              have hA : t ∉ Tl s lp n := fun h => hTr (Tl_mem.1 h).2
              have hM : M2 t = some (ob t) := by rw [HL.out.2.1.mM t, if_pos ⟨ht, .inl hA⟩]
              have hocw := HL.out.2.1.ocw t ht hA
              have q3 : w6.cell? ⟨ob t, 3, none⟩ = some (.int .u8 (stI (en t))) := by have h := hq6 3 (by omega); rw [hocw 3 (by omega), ← hs] at h; exact h
              have q4 : w6.cell? ⟨ob t, 4, none⟩ = some (.int .i64 (st t % 20 + 1)) := by have h := hq6 4 (by omega); rw [hocw 4 (by omega), ← hs] at h; exact h
              have hd1 : (decide (t < n) && trg s lp t) = false := by simp [hTr']
              have hd2 : decide (t ∈ (actAll s (Tl s lp n)).1) = false := by simpa using hR
              rw [hd1] at ct6
              rw [hd2] at cr6
              have hst : (stI (en t) == 0) = false := by cases en t <;> rfl
              have HCn' := hide (HCn.out.wait hTr')
              rw [hM]
              simp only [ptr, Option.map_some]
              clear hM hq6 hd1 hd2 HCn hs hTr hR hA hocw hTr'
              go_wp2
              go_quiet (fail)
              go_wp2
              go_roundw
              case rel => exact ⟨t + 1, k + 1, by omega, by omega, by simp, by simp, HCn'.out, below_draws HB6.out _⟩
              case measure => simp [intOf]; omega
        · obtain rfl : n = t := by omega
          have hge3 : ¬ (n : Int) < (n : Int) := by omega
          obtain rfl : cnt2 = k := by
            have h1 := hC.eq
            have h2 := E2.cnt
            omega
          have hlen := hmap.len 3
          obtain ⟨a4, c4, h4⟩ := rowAny HL.out.2.2.1.own
          have e4 : wr.cell? ⟨eb, 4, none⟩ = some (.slice a4 0 c4) := (hB.cell (p := ⟨eb, 4, none⟩) E2.ph.en.lt).trans (by rw [E2.ph.en.cell 4 (by omega), h4]; rfl)
          have HW := hide hbelW
          clear E2 L hB hbelW hmap hC hB3 HL h4
          go_wp2
          go_ret
          exact ⟨rfl, HW.out⟩
end Go.Proofs.Ybulkjrk
