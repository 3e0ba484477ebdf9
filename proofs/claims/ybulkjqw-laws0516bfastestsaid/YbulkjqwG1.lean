import Derived.Test.YbulkjqwF8
namespace Go.Proofs.Ybulkjqw
open Go.RowKit Go.Shelf
set_option linter.unusedSimpArgs false
set_option linter.unusedVariables false

/-- queue.len. -/
theorem qlen_any (bq bj m hd : Nat) (hm : m ≤ 100) (hh : hd ≤ m) (w : World) (h3 : w.cell? ⟨bq, 3, none⟩ = some (.slice (some ⟨bj, 0, none⟩) m m)) (h4 : w.cell? ⟨bq, 4, none⟩ = some (.int .i64 hd)) :
    Calls Yba.prog 17 #[.pointer (some ⟨bq, 0, none⟩)] w fun e w' => e = .returned (.int .i64 (m - hd : Nat)) ∧ ∃ n, w' = w.drewN n := by
  have hhm : (m : Int) - (hd : Int) = ((m - hd : Nat) : Int) := by omega
  go_enter Yba.func17, Yba.ntmps17
  go_wp2
  go_quiet (fail)
  go_wp2
  go_ret
  exact ⟨rfl, _, rfl⟩

/-- What the law lays for the workflow. -/
structure Wf (w : World) (be bw bl brs brw bfs bft bo : Nat) (po : Option Addr) (F M oc : Nat) (bat : Nat → Nat) (cv cs la : Nat → Int) (ord : Nat → Nat) (rest : Int) : Prop where
  zw : bw < w.heap.size
  zl : bl < w.heap.size
  zs : brs < w.heap.size
  zr : brw < w.heap.size
  zf : bfs < w.heap.size
  zt : bft < w.heap.size
  zo : 0 < M → bo < w.heap.size
  nl : bl ≠ bw
  ns : brs ≠ bw
  nr : brw ≠ bw
  nf : bfs ≠ bw
  nt : bft ≠ bw
  no : bo ≠ bw
  ne : be ≠ bw
  fz : ∀ o, w.frozen? ⟨bw, o, none⟩ = false
  e12 : w.cell? ⟨be, 12, none⟩ = some (.slice (some ⟨bfs, 0, none⟩) 1 1)
  f0 : w.cell? ⟨bfs, 0, none⟩ = some (.slice (some ⟨bft, 0, none⟩) F F)
  w2 : w.cell? ⟨bw, 2, none⟩ = some (.slice (some ⟨bl, 0, none⟩) 1 1)
  w4 : w.cell? ⟨bw, 4, none⟩ = some (.slice (some ⟨brs, 0, none⟩) 1 1)
  wk : ∀ o, o < 30 → ∃ v, w.cell? ⟨bw, 6 + o, none⟩ = some v
  l0 : w.cell? ⟨bl, 0, none⟩ = some (.slice po M oc)
  po : 0 < M → po = some ⟨bo, 0, none⟩
  s0 : w.cell? ⟨brs, 0, none⟩ = some (.slice (some ⟨brw, 0, none⟩) 1 1)
  r1 : w.cell? ⟨brw, 1, none⟩ = some (.int .i64 rest)
  o : ∀ j, j < M → w.cell? ⟨bo, j, none⟩ = some (.int .i64 (ord j))
  ol : ∀ j, j < M → ord j < F
  t0 : ∀ i, i < F → w.cell? ⟨bft, i * 4, none⟩ = some (.int .i64 (bat i))
  t1 : ∀ i, i < F → w.cell? ⟨bft, i * 4 + 1, none⟩ = some (.int .i64 (cv i))
  t2 : ∀ i, i < F → w.cell? ⟨bft, i * 4 + 2, none⟩ = some (.int .i64 (cs i))
  t3 : ∀ i, i < F → w.cell? ⟨bft, i * 4 + 3, none⟩ = some (.int .i64 (la i))
  tb : ∀ i, i < F → bat i ≤ 11

theorem Wf.below {w w' : World} {be bw bl brs brw bfs bft bo : Nat} {po : Option Addr} {F M oc : Nat} {bat : Nat → Nat} {cv cs la : Nat → Int} {ord : Nat → Nat} {rest : Int} (E : Wf w be bw bl brs brw bfs bft bo po F M oc bat cv cs la ord rest) (zbe : be < w.heap.size) (hB : Below w.heap.size w w') :
    Wf w' be bw bl brs brw bfs bft bo po F M oc bat cv cs la ord rest := by
  have z := hB.size
  have c := (bcell hB).1
  have f := (bcell hB).2
  exact ⟨Nat.lt_of_lt_of_le E.zw z, Nat.lt_of_lt_of_le E.zl z, Nat.lt_of_lt_of_le E.zs z, Nat.lt_of_lt_of_le E.zr z, Nat.lt_of_lt_of_le E.zf z, Nat.lt_of_lt_of_le E.zt z, fun h => Nat.lt_of_lt_of_le (E.zo h) z, E.nl, E.ns, E.nr, E.nf, E.nt, E.no, E.ne,
    fun o => (f _ _ E.zw).trans (E.fz o), (c _ _ zbe).trans E.e12, (c _ _ E.zf).trans E.f0, (c _ _ E.zw).trans E.w2, (c _ _ E.zw).trans E.w4, fun o h => by rw [c _ _ E.zw]; exact E.wk o h, (c _ _ E.zl).trans E.l0, E.po, (c _ _ E.zs).trans E.s0, (c _ _ E.zr).trans E.r1,
    fun j hj => (c _ _ (E.zo (by omega))).trans (E.o j hj), E.ol, fun i hi => (c _ _ E.zt).trans (E.t0 i hi), fun i hi => (c _ _ E.zt).trans (E.t1 i hi), fun i hi => (c _ _ E.zt).trans (E.t2 i hi), fun i hi => (c _ _ E.zt).trans (E.t3 i hi), E.tb⟩

/-- Six stores in a row. -/
theorem six_chg (w : World) (bw B0 : Nat) (hB0 : B0 ≤ bw) (a0 a1 a2 a3 a4 a5 : Value) : Chg B0 (fun b o => b = bw ∧ 6 ≤ o) w ((((((w.setCell ⟨bw, 6, none⟩ a0).setCell ⟨bw, 7, none⟩ a1).setCell ⟨bw, 8, none⟩ a2).setCell ⟨bw, 9, none⟩ a3).setCell ⟨bw, 10, none⟩ a4).setCell ⟨bw, 11, none⟩ a5) :=
  ((((((Chg.refl B0 (fun b o => b = bw ∧ 6 ≤ o) w).setCell hB0 (fun _ => ⟨rfl, by omega⟩) a0).setCell hB0 (fun _ => ⟨rfl, by omega⟩) a1).setCell hB0 (fun _ => ⟨rfl, by omega⟩) a2).setCell hB0 (fun _ => ⟨rfl, by omega⟩) a3).setCell hB0 (fun _ => ⟨rfl, by omega⟩) a4).setCell hB0 (fun _ => ⟨rfl, by omega⟩) a5
theorem six_cells (w : World) (bw : Nat) (a0 a1 a2 a3 a4 a5 : Value) {k6 k7 k8 k9 k10 k11 : Value} (y6 : w.cell? ⟨bw, 6, none⟩ = some k6) (y7 : w.cell? ⟨bw, 7, none⟩ = some k7) (y8 : w.cell? ⟨bw, 8, none⟩ = some k8) (y9 : w.cell? ⟨bw, 9, none⟩ = some k9) (y10 : w.cell? ⟨bw, 10, none⟩ = some k10) (y11 : w.cell? ⟨bw, 11, none⟩ = some k11) :
    let W := ((((((w.setCell ⟨bw, 6, none⟩ a0).setCell ⟨bw, 7, none⟩ a1).setCell ⟨bw, 8, none⟩ a2).setCell ⟨bw, 9, none⟩ a3).setCell ⟨bw, 10, none⟩ a4).setCell ⟨bw, 11, none⟩ a5)
    W.cell? ⟨bw, 6, none⟩ = some a0 ∧ W.cell? ⟨bw, 7, none⟩ = some a1 ∧ W.cell? ⟨bw, 8, none⟩ = some a2 ∧ W.cell? ⟨bw, 9, none⟩ = some a3 ∧ W.cell? ⟨bw, 10, none⟩ = some a4 ∧ W.cell? ⟨bw, 11, none⟩ = some a5 := by
  refine ⟨?_, ?_, ?_, ?_, ?_, ?_⟩
  · rw [put_other (by omega), put_other (by omega), put_other (by omega), put_other (by omega), put_other (by omega), put_cell y6]
  · rw [put_other (by omega), put_other (by omega), put_other (by omega), put_other (by omega), put_cell (u := k7)]; rw [put_other (by omega), y7]
  · rw [put_other (by omega), put_other (by omega), put_other (by omega), put_cell (u := k8)]; rw [put_other (by omega), put_other (by omega), y8]
  · rw [put_other (by omega), put_other (by omega), put_cell (u := k9)]; rw [put_other (by omega), put_other (by omega), put_other (by omega), y9]
  · rw [put_other (by omega), put_cell (u := k10)]; rw [put_other (by omega), put_other (by omega), put_other (by omega), put_other (by omega), y10]
  · rw [put_cell (u := k11)]; rw [put_other (by omega), put_other (by omega), put_other (by omega), put_other (by omega), put_other (by omega), y11]

set_option maxRecDepth 100000 in
set_option maxHeartbeats 1000000 in
theorem fastest_any (be bsn ba bf bn bp bq bj br : Nat) (bc bd : Nat → Nat) (N m hd n : Nat) (req : Nat → Int) (v s : Nat → Int) (w : World)
    (bw bl brs brw bfs bft bo : Nat) (po : Option Addr) (F M oc : Nat) (bat : Nat → Nat) (cv cs la : Nat → Int) (ord : Nat → Nat) (rest : Int) (B0 : Nat)
    (E : Emu w be bsn ba bf bn bp bq bj br bc bd N m hd req v s) (G : Wf w be bw bl brs brw bfs bft bo po F M oc bat cv cs la ord rest)
    (hN : N ≤ 256) (hm : hd + n = m) (hm2 : m ≤ 100) (hrq : ∀ j, j < m → -1 ≤ req j ∧ req j < N) (hF : F ≤ 1024) (hM : M ≤ 1024) (hB0 : B0 ≤ bw) (hB1 : B0 ≤ w.heap.size) :
    Calls Yba.prog 12 #[.pointer (some ⟨bw, 0, none⟩), .pointer (some ⟨be, 0, none⟩), .int .i64 0] w
      fun e w' => ((∃ j, j < M ∧ (∀ i, i < j → n < bat (ord i)) ∧ bat (ord j) ≤ n ∧ e = .returned (.slice (some ⟨bw, 6, none⟩) 1 5) ∧ w'.cell? ⟨bw, 6, none⟩ = some (.int .i64 (bat (ord j))) ∧ w'.cell? ⟨bw, 7, none⟩ = some (.int .i64 (cv (ord j))) ∧
          w'.cell? ⟨bw, 8, none⟩ = some (.int .i64 (cs (ord j))) ∧ w'.cell? ⟨bw, 9, none⟩ = some (.int .i64 (la (ord j))) ∧ w'.cell? ⟨bw, 10, none⟩ = some (.int .i64 rest) ∧ w'.cell? ⟨bw, 11, none⟩ = some (.int .i64 (nodeOf req hd (bat (ord j)) N (cv (ord j)) (cs (ord j)) v s))) ∨
        ((∀ i, i < M → n < bat (ord i)) ∧ e = .returned (.slice (some ⟨bw, 6, none⟩) 0 5))) ∧ Chg B0 (fun b o => b = bw ∧ 6 ≤ o) w w' := by
  have e14 := E.e14
  have e12 := G.e12
  have q2 := E.q2
  have f0 := G.f0
  have w4 := G.w4
  have q0 := E.q0
  have q1 := E.q1
  have s0 := G.s0
  have w2 := G.w2
  have l0 := G.l0
  have hMM : ((M : Nat) : Int) ≤ 1024 := by omega
  go_enter Yba.func12, Yba.ntmps12
  go_wp2
  go_quiet (fail)
  go_wp2
  go_quiet (fail)
  go_wp2
  have hB1w := hB1
  go_loopw [10, 62] (fun kp i wr => ∃ j : Nat, j ≤ M ∧ i = .int .i64 j ∧ kp = .slice (some ⟨bw, 6, none⟩) 0 5 ∧ (∀ t, t < j → n < bat (ord t)) ∧ Below w.heap.size w wr) (fun _ i _ => M - (intOf i).toNat)
  case atStart => exact ⟨0, by omega, rfl, rfl, fun t ht => by omega, below_draws (below_draws (Below.refl _ _) _) _⟩
  case round =>
    obtain ⟨j, hj, rfl, rfl, hpre, hBr⟩ := hrel
    by_cases hjl : j < M
    · have hjI : (j : Int) < (M : Int) := by omega
      have hpo := G.po (by omega)
      subst hpo
      have Gr := G.below E.zbe hBr
      have Er := E.below hBr
      have o1 := Gr.o j hjl
      have hol := Gr.ol j hjl
      have t0 := Gr.t0 (ord j) hol
      have t1 := Gr.t1 (ord j) hol
      have t2 := Gr.t2 (ord j) hol
      have t3 := Gr.t3 (ord j) hol
      have htb := Gr.tb (ord j) hol
      have hoi : ((ord j : Nat) : Int) < (F : Int) := by omega
      have q3 := Er.q3
      have q4 := Er.q4
      have zq := Er.zbq
      have HS := hide (node_same req hd (bat (ord j)) N (cv (ord j)) (cs (ord j)) v s)
      go_wp2
      generalize hI : ord j = I at *
      have hB1 : Below w.heap.size w (wr.alloc (.cells #[.int .i64 (bat I), .int .i64 (cv I), .int .i64 (cs I), .int .i64 (la I)] 45)) := hBr.alloc hBr.size _
      have zc : wr.heap.size < (wr.alloc (.cells #[.int .i64 (bat I), .int .i64 (cv I), .int .i64 (cs I), .int .i64 (la I)] 45)).heap.size := by simp
      have c0 : (wr.alloc (.cells #[.int .i64 (bat I), .int .i64 (cv I), .int .i64 (cs I), .int .i64 (la I)] 45)).cell? ⟨wr.heap.size, 0, none⟩ = some (.int .i64 (bat I)) := by simp [World.cell?_alloc_at]
      have c1 : (wr.alloc (.cells #[.int .i64 (bat I), .int .i64 (cv I), .int .i64 (cs I), .int .i64 (la I)] 45)).cell? ⟨wr.heap.size, 1, none⟩ = some (.int .i64 (cv I)) := by simp [World.cell?_alloc_at]
      have c2 : (wr.alloc (.cells #[.int .i64 (bat I), .int .i64 (cv I), .int .i64 (cs I), .int .i64 (la I)] 45)).cell? ⟨wr.heap.size, 2, none⟩ = some (.int .i64 (cs I)) := by simp [World.cell?_alloc_at]
      have c3 : (wr.alloc (.cells #[.int .i64 (bat I), .int .i64 (cv I), .int .i64 (cs I), .int .i64 (la I)] 45)).cell? ⟨wr.heap.size, 3, none⟩ = some (.int .i64 (la I)) := by simp [World.cell?_alloc_at]
      have Ea := Er.below ((Below.refl _ _).alloc (Nat.le_refl _) (.cells #[.int .i64 (bat I), .int .i64 (cv I), .int .i64 (cs I), .int .i64 (la I)] 45))
      have Ga := Gr.below Er.zbe ((Below.refl _ _).alloc (Nat.le_refl _) (.cells #[.int .i64 (bat I), .int .i64 (cv I), .int .i64 (cs I), .int .i64 (la I)] 45))
      generalize (wr.alloc (.cells #[.int .i64 (bat I), .int .i64 (cv I), .int .i64 (cs I), .int .i64 (la I)] 45)) = w3 at *
      have a3 := Ea.q3
      have a4 := Ea.q4
      have za := Ea.zbq
      go_region_held3 (fun w' => (∀ b o, b < w3.heap.size → w'.cell? ⟨b, o, none⟩ = w3.cell? ⟨b, o, none⟩) ∧ w3.heap.size ≤ w'.heap.size ∧ Below w3.heap.size w3 w')
        (first | (apply fr_next hk9; (assumption); (exact ⟨rfl, rfl, rfl, rfl⟩)) | exact ⟨fun _ _ _ => rfl, Nat.le_refl _, ⟨rfl, rfl, rfl, Nat.le_refl _, fun _ _ => rfl⟩⟩)
        (first
          | (go_at_call 17; refine (qlen_any bq bj m hd hm2 (by omega) _ (by assumption) (by assumption)).mono ?_; rintro e wk ⟨rfl, nk, rfl⟩))
      rename_i hE9
      have hE3 := hE9.2.2
      generalize World.drewN w3 (1 + nk) = w4 at *
      have d0 := (hE9.1 wr.heap.size 0 zc).trans c0
      have d1 := (hE9.1 wr.heap.size 1 zc).trans c1
      have d2 := (hE9.1 wr.heap.size 2 zc).trans c2
      have d3 := (hE9.1 wr.heap.size 3 zc).trans c3
      have E4 := Ea.below hE3
      have G4 := Ga.below Ea.zbe hE3
      have hB4 : Below w.heap.size w w4 := hB1.trans (hE3.mono hB1.size)
      have z4 : wr.heap.size < w4.heap.size := Nat.lt_of_lt_of_le zc hE3.size
      by_cases hbn : bat I ≤ n
      · have hbN : bat I ≤ m - hd := by omega
        have hNode := node_any (.pointer (some ⟨bw, 0, none⟩)) be bsn ba bf bn bp bq bj br bc bd N m hd (bat I) req v s (cv I) (cs I) (la I) w4 E4 hN htb (by omega) hm2 hrq
        have HS2 := HS.out (fun jj hjj => hrq jj (by omega))
        generalize nodeAns req hd (bat I) N (cv I) (cs I) v s = an at *
        obtain ⟨ni, ok⟩ := an
        dsimp only at hNode HS2
        have HS3 := hide HS2
        clear HS HS2 hE9 c0 c1 c2 c3 t0 t1 t2 t3 o1 q3 q4 a3 a4
        obtain ⟨nn, hnn⟩ : ∃ nn, nn = nodeOf req hd (bat I) N (cv I) (cs I) v s := ⟨_, rfl⟩
        rw [← hnn] at HS3
        have HN := hide hnn
        clear hnn
        cases ok
        · go_wp2_with (go_at_call 18; refine hNode.mono ?_; rintro e w5 ⟨rfl, hB5⟩)
          have g0 := ((bcell hB5).1 wr.heap.size 0 z4).trans d0
          have g1 := ((bcell hB5).1 wr.heap.size 1 z4).trans d1
          have g2 := ((bcell hB5).1 wr.heap.size 2 z4).trans d2
          have g3 := ((bcell hB5).1 wr.heap.size 3 z4).trans d3
          have G5 := G4.below E4.zbe hB5
          have r1 := G5.r1
          have zr := G5.zr
          have zc5 : wr.heap.size < w5.heap.size := Nat.lt_of_lt_of_le z4 hB5.size
          have zw5 := G5.zw
          have zww := Gr.zw
          have nr5 := G5.nr
          obtain ⟨k6, y6⟩ : ∃ v, w5.cell? ⟨bw, 6, none⟩ = some v := G5.wk 0 (by omega)
          obtain ⟨k7, y7⟩ : ∃ v, w5.cell? ⟨bw, 7, none⟩ = some v := G5.wk 1 (by omega)
          obtain ⟨k8, y8⟩ : ∃ v, w5.cell? ⟨bw, 8, none⟩ = some v := G5.wk 2 (by omega)
          obtain ⟨k9, y9⟩ : ∃ v, w5.cell? ⟨bw, 9, none⟩ = some v := G5.wk 3 (by omega)
          obtain ⟨k10, y10⟩ : ∃ v, w5.cell? ⟨bw, 10, none⟩ = some v := G5.wk 4 (by omega)
          obtain ⟨k11, y11⟩ : ∃ v, w5.cell? ⟨bw, 11, none⟩ = some v := G5.wk 5 (by omega)
          have fz6 := G5.fz 6
          have fz7 := G5.fz 7
          have fz8 := G5.fz 8
          have fz9 := G5.fz 9
          have fz10 := G5.fz 10
          have fz11 := G5.fz 11
          have hS : ∀ w', Chg B0 (fun b o => b = bw ∧ 6 ≤ o) w5 w' → Chg B0 (fun b o => b = bw ∧ 6 ≤ o) w5 w' ∧ w'.cell? ⟨wr.heap.size, 0, none⟩ = some (.int .i64 (bat I)) ∧ w'.cell? ⟨wr.heap.size, 1, none⟩ = some (.int .i64 (cv I)) ∧ w'.cell? ⟨wr.heap.size, 2, none⟩ = some (.int .i64 (cs I)) ∧ w'.cell? ⟨wr.heap.size, 3, none⟩ = some (.int .i64 (la I)) ∧ w'.cell? ⟨brw, 1, none⟩ = some (.int .i64 rest) := fun w' h => ⟨h, h.same g0 (by omega), h.same g1 (by omega), h.same g2 (by omega), h.same g3 (by omega), h.same r1 (by omega)⟩
          have hB5w : B0 ≤ w5.heap.size := by omega
          refine wp_region_held_drew (S := fun w' => Chg B0 (fun b o => b = bw ∧ 6 ≤ o) w5 w' ∧ w'.cell? ⟨wr.heap.size, 0, none⟩ = some (.int .i64 (bat I)) ∧ w'.cell? ⟨wr.heap.size, 1, none⟩ = some (.int .i64 (cv I)) ∧ w'.cell? ⟨wr.heap.size, 2, none⟩ = some (.int .i64 (cs I)) ∧ w'.cell? ⟨wr.heap.size, 3, none⟩ = some (.int .i64 (la I)) ∧ w'.cell? ⟨brw, 1, none⟩ = some (.int .i64 rest)) (by kernel_rfl) (hS _ (Chg.refl _ _ _).drew) (fun hHeld => ?_)
          (refine wpAnyH_take (i := 0) (oi := { dst := some 85, op := Op.move (Operand.tmp 10), type := 107, pos := _, after := #[], guard := none }) (v := ?_) rfl (by kernel_rfl) (by kernel_rfl) (by kernel_rfl) (fun _ _ _ h => h) (Or.inl ⟨by rfl, ?_⟩) (by assumption) ?_; rotate_left 1; (focus (intro w hSw; obtain ⟨hsc, hs0, hs1, hs2, hs3, hs4⟩ := hSw; go_simp; (first | done | with_reducible rfl))); try simp only [Act.put, List.setIfInBounds_toArray, List.set_cons_zero, List.set_cons_succ])
          (refine wpAnyH_take (i := 1) (oi := { dst := some 86, op := Op.load 45 (Operand.tmp 13), type := 45, pos := _, after := #[], guard := none }) (v := ?_) rfl (by kernel_rfl) (by kernel_rfl) (by kernel_rfl) (fun _ _ _ h => h) (Or.inl ⟨by rfl, ?_⟩) (by assumption) ?_; rotate_left 1; (focus (intro w hSw; obtain ⟨hsc, hs0, hs1, hs2, hs3, hs4⟩ := hSw; go_simp; (first | done | with_reducible rfl))); try simp only [Act.put, List.setIfInBounds_toArray, List.set_cons_zero, List.set_cons_succ])
          (refine wpAnyH_take (i := 2) (oi := { dst := some 87, op := Op.move (Operand.tmp 9), type := 122, pos := _, after := #[], guard := none }) (v := ?_) rfl (by kernel_rfl) (by kernel_rfl) (by kernel_rfl) (fun _ _ _ h => h) (Or.inl ⟨by rfl, ?_⟩) (by assumption) ?_; rotate_left 1; (focus (intro w hSw; obtain ⟨hsc, hs0, hs1, hs2, hs3, hs4⟩ := hSw; go_simp; (first | done | with_reducible rfl))); try simp only [Act.put, List.setIfInBounds_toArray, List.set_cons_zero, List.set_cons_succ])
          (refine wpAnyH_take (i := 3) (oi := { dst := some 88, op := Op.nilCheck (Operand.tmp 87), type := 0, pos := _, after := #[{ on := 2, ground := Ground.data }], guard := none }) (v := ?_) rfl (by kernel_rfl) (by kernel_rfl) (by kernel_rfl) (fun _ _ _ h => h) (Or.inl ⟨by rfl, ?_⟩) (by assumption) ?_; rotate_left 1; (focus (intro w hSw; obtain ⟨hsc, hs0, hs1, hs2, hs3, hs4⟩ := hSw; go_simp; (first | done | with_reducible rfl))); try simp only [Act.put, List.setIfInBounds_toArray, List.set_cons_zero, List.set_cons_succ])
          (refine wpAnyH_take (i := 4) (oi := { dst := some 89, op := Op.fieldAddr 97 (Operand.tmp 88) 1, type := 0, pos := _, after := #[{ on := 3, ground := Ground.data }], guard := none }) (v := ?_) rfl (by kernel_rfl) (by kernel_rfl) (by kernel_rfl) (fun _ _ _ h => h) (Or.inl ⟨by rfl, ?_⟩) (by assumption) ?_; rotate_left 1; (focus (intro w hSw; obtain ⟨hsc, hs0, hs1, hs2, hs3, hs4⟩ := hSw; go_simp; (first | done | with_reducible rfl))); try simp only [Act.put, List.setIfInBounds_toArray, List.set_cons_zero, List.set_cons_succ])
          (refine wpAnyH_take (i := 5) (oi := { dst := some 90, op := Op.load 3 (Operand.tmp 89), type := 3, pos := _, after := #[{ on := 4, ground := Ground.data }], guard := none }) (v := ?_) rfl (by kernel_rfl) (by kernel_rfl) (by kernel_rfl) (fun _ _ _ h => h) (Or.inl ⟨by rfl, ?_⟩) (by assumption) ?_; rotate_left 1; (focus (intro w hSw; obtain ⟨hsc, hs0, hs1, hs2, hs3, hs4⟩ := hSw; go_simp; (first | done | with_reducible rfl))); try simp only [Act.put, List.setIfInBounds_toArray, List.set_cons_zero, List.set_cons_succ])
          (refine wpAnyH_take (i := 6) (oi := { dst := some 91, op := Op.move (Operand.tmp 14), type := 3, pos := _, after := #[], guard := none }) (v := ?_) rfl (by kernel_rfl) (by kernel_rfl) (by kernel_rfl) (fun _ _ _ h => h) (Or.inl ⟨by rfl, ?_⟩) (by assumption) ?_; rotate_left 1; (focus (intro w hSw; obtain ⟨hsc, hs0, hs1, hs2, hs3, hs4⟩ := hSw; go_simp; (first | done | with_reducible rfl))); try simp only [Act.put, List.setIfInBounds_toArray, List.set_cons_zero, List.set_cons_succ])
          (refine wpAnyH_take (i := 7) (oi := { dst := some 92, op := Op.build 102 #[(0, Operand.tmp 86), (1, Operand.tmp 90), (2, Operand.tmp 91)], type := 102, pos := _, after := #[{ on := 1, ground := Ground.data }, { on := 5, ground := Ground.data }, { on := 6, ground := Ground.data }], guard := none }) (v := ?_) rfl (by kernel_rfl) (by kernel_rfl) (by kernel_rfl) (fun _ _ _ h => h) (Or.inl ⟨by rfl, ?_⟩) (by assumption) ?_; rotate_left 1; (focus (intro w hSw; obtain ⟨hsc, hs0, hs1, hs2, hs3, hs4⟩ := hSw; go_simp; (first | done | with_reducible rfl))); try simp only [Act.put, List.setIfInBounds_toArray, List.set_cons_zero, List.set_cons_succ])
          (refine wpAnyH_ready (rs := [8]) (by kernel_rfl) (by simp) ?_; refine AllReadyH.cons (o := { dst := some 93, op := Op.buildSlice 107 1 #[(0, Operand.tmp 92)], type := 107, pos := _, after := #[{ on := 7, ground := Ground.data }], guard := none }) rfl (fun K hK => ?_) AllReadyH.nil)
          (go_simp; refine hK.out _ _ (hS _ (((Chg.refl _ _ _).alloc hB5w _).drew)) (fun h2 => ?_); clear hK K; try simp only [Act.put, List.setIfInBounds_toArray, List.set_cons_zero, List.set_cons_succ])
          (refine wpAnyH_ready (rs := [9]) (by kernel_rfl) (by simp) ?_; refine AllReadyH.cons (o := { dst := some 94, op := Op.call { callee := Callee.builtin Builtin.append, args := #[Operand.tmp 85, Operand.tmp 93], argTypes := #[107, 107] }, type := 107, pos := _, after := #[{ on := 0, ground := Ground.data }, { on := 8, ground := Ground.data }], guard := none }) rfl (fun K hK => ?_) AllReadyH.nil)
          go_simp
          refine hK.out _ _ (hS _ ?hC) (fun h3 => ?_)
          case hC => exact ((six_chg w5 bw B0 hB0 _ _ _ _ _ _).alloc (by simpa using hB5w) _).drew
          clear hK K
          try simp only [Act.put, List.setIfInBounds_toArray, List.set_cons_zero, List.set_cons_succ]
          (refine wpAnyH_take (i := 10) (oi := { dst := some 10, op := Op.assign (Operand.tmp 94), type := 107, pos := _, after := #[{ on := 9, ground := Ground.data }, { on := 9, ground := Ground.chain }, { on := 0, ground := Ground.phase }, { on := 1, ground := Ground.phase }, { on := 2, ground := Ground.phase }, { on := 3, ground := Ground.phase }, { on := 4, ground := Ground.phase }, { on := 5, ground := Ground.phase }, { on := 6, ground := Ground.phase }, { on := 7, ground := Ground.phase }, { on := 8, ground := Ground.phase }, { on := 9, ground := Ground.phase }], guard := none }) (v := ?_) rfl (by kernel_rfl) (by kernel_rfl) (by kernel_rfl) (fun _ _ _ h => h) (Or.inl ⟨by rfl, ?_⟩) (by assumption) ?_; rotate_left 1; (focus (intro w hSw; obtain ⟨hsc, hs0, hs1, hs2, hs3, hs4⟩ := hSw; go_simp; (first | done | with_reducible rfl))); try simp only [Act.put, List.setIfInBounds_toArray, List.set_cons_zero, List.set_cons_succ])
          refine wpAnyH_done (by kernel_rfl) ?_ _
          go_wp2
          go_ret
          have hx := six_cells w5 bw (.int .i64 (bat I)) (.int .i64 (cv I)) (.int .i64 (cs I)) (.int .i64 (la I)) (.int .i64 rest) (.int .i64 nn) y6 y7 y8 y9 y10 y11
          have h9 := h3.1
          have hB9 : Below w.heap.size w w5 := hB4.trans (hB5.mono hB4.size)
          have hC9 : Chg B0 (fun b o => b = bw ∧ 6 ≤ o) w w5 := ⟨hB9.mono hB1w, fun b o hb _ => (bcell hB9).1 b o hb, fun b o hb => (bcell hB9).2 b o hb⟩
          have hnn : (-1) = nn := by simpa using HS3.out
          rw [← hnn] at hx HN
          refine ⟨.inl ⟨j, hjl, hpre, by rw [hI]; exact hbn, rfl, ?_⟩, hC9.trans h9⟩
          rw [hI, ← HN.out]
          have hcc : ∀ o, (((((((w5.setCell ⟨bw, 6, none⟩ (.int .i64 (bat I))).setCell ⟨bw, 7, none⟩ (.int .i64 (cv I))).setCell ⟨bw, 8, none⟩ (.int .i64 (cs I))).setCell ⟨bw, 9, none⟩ (.int .i64 (la I))).setCell ⟨bw, 10, none⟩ (.int .i64 rest)).setCell ⟨bw, 11, none⟩ (.int .i64 (-1))).alloc (.cells #[.int .i64 (bat I), .int .i64 (cv I), .int .i64 (cs I), .int .i64 (la I), .int .i64 rest, .int .i64 (-1)] 102)).drew.cell? ⟨bw, o, none⟩ = _ := fun o => (cell_drew_own _ _).trans (World.cell?_alloc_past _ _ _ (by simpa using zw5))
          exact ⟨(hcc 6).trans hx.1, (hcc 7).trans hx.2.1, (hcc 8).trans hx.2.2.1, (hcc 9).trans hx.2.2.2.1, (hcc 10).trans hx.2.2.2.2.1, (hcc 11).trans hx.2.2.2.2.2⟩
        · go_wp2_with (go_at_call 18; refine hNode.mono ?_; rintro e w5 ⟨rfl, hB5⟩)
          have g0 := ((bcell hB5).1 wr.heap.size 0 z4).trans d0
          have g1 := ((bcell hB5).1 wr.heap.size 1 z4).trans d1
          have g2 := ((bcell hB5).1 wr.heap.size 2 z4).trans d2
          have g3 := ((bcell hB5).1 wr.heap.size 3 z4).trans d3
          have G5 := G4.below E4.zbe hB5
          have r1 := G5.r1
          have zr := G5.zr
          have zc5 : wr.heap.size < w5.heap.size := Nat.lt_of_lt_of_le z4 hB5.size
          have zw5 := G5.zw
          have zww := Gr.zw
          have nr5 := G5.nr
          obtain ⟨k6, y6⟩ : ∃ v, w5.cell? ⟨bw, 6, none⟩ = some v := G5.wk 0 (by omega)
          obtain ⟨k7, y7⟩ : ∃ v, w5.cell? ⟨bw, 7, none⟩ = some v := G5.wk 1 (by omega)
          obtain ⟨k8, y8⟩ : ∃ v, w5.cell? ⟨bw, 8, none⟩ = some v := G5.wk 2 (by omega)
          obtain ⟨k9, y9⟩ : ∃ v, w5.cell? ⟨bw, 9, none⟩ = some v := G5.wk 3 (by omega)
          obtain ⟨k10, y10⟩ : ∃ v, w5.cell? ⟨bw, 10, none⟩ = some v := G5.wk 4 (by omega)
          obtain ⟨k11, y11⟩ : ∃ v, w5.cell? ⟨bw, 11, none⟩ = some v := G5.wk 5 (by omega)
          have fz6 := G5.fz 6
          have fz7 := G5.fz 7
          have fz8 := G5.fz 8
          have fz9 := G5.fz 9
          have fz10 := G5.fz 10
          have fz11 := G5.fz 11
          have hS : ∀ w', Chg B0 (fun b o => b = bw ∧ 6 ≤ o) w5 w' → Chg B0 (fun b o => b = bw ∧ 6 ≤ o) w5 w' ∧ w'.cell? ⟨wr.heap.size, 0, none⟩ = some (.int .i64 (bat I)) ∧ w'.cell? ⟨wr.heap.size, 1, none⟩ = some (.int .i64 (cv I)) ∧ w'.cell? ⟨wr.heap.size, 2, none⟩ = some (.int .i64 (cs I)) ∧ w'.cell? ⟨wr.heap.size, 3, none⟩ = some (.int .i64 (la I)) ∧ w'.cell? ⟨brw, 1, none⟩ = some (.int .i64 rest) := fun w' h => ⟨h, h.same g0 (by omega), h.same g1 (by omega), h.same g2 (by omega), h.same g3 (by omega), h.same r1 (by omega)⟩
          have hB5w : B0 ≤ w5.heap.size := by omega
          refine wp_region_held_drew (S := fun w' => Chg B0 (fun b o => b = bw ∧ 6 ≤ o) w5 w' ∧ w'.cell? ⟨wr.heap.size, 0, none⟩ = some (.int .i64 (bat I)) ∧ w'.cell? ⟨wr.heap.size, 1, none⟩ = some (.int .i64 (cv I)) ∧ w'.cell? ⟨wr.heap.size, 2, none⟩ = some (.int .i64 (cs I)) ∧ w'.cell? ⟨wr.heap.size, 3, none⟩ = some (.int .i64 (la I)) ∧ w'.cell? ⟨brw, 1, none⟩ = some (.int .i64 rest)) (by kernel_rfl) (hS _ (Chg.refl _ _ _).drew) (fun hHeld => ?_)
          (refine wpAnyH_take (i := 0) (oi := { dst := some 85, op := Op.move (Operand.tmp 10), type := 107, pos := _, after := #[], guard := none }) (v := ?_) rfl (by kernel_rfl) (by kernel_rfl) (by kernel_rfl) (fun _ _ _ h => h) (Or.inl ⟨by rfl, ?_⟩) (by assumption) ?_; rotate_left 1; (focus (intro w hSw; obtain ⟨hsc, hs0, hs1, hs2, hs3, hs4⟩ := hSw; go_simp; (first | done | with_reducible rfl))); try simp only [Act.put, List.setIfInBounds_toArray, List.set_cons_zero, List.set_cons_succ])
          (refine wpAnyH_take (i := 1) (oi := { dst := some 86, op := Op.load 45 (Operand.tmp 13), type := 45, pos := _, after := #[], guard := none }) (v := ?_) rfl (by kernel_rfl) (by kernel_rfl) (by kernel_rfl) (fun _ _ _ h => h) (Or.inl ⟨by rfl, ?_⟩) (by assumption) ?_; rotate_left 1; (focus (intro w hSw; obtain ⟨hsc, hs0, hs1, hs2, hs3, hs4⟩ := hSw; go_simp; (first | done | with_reducible rfl))); try simp only [Act.put, List.setIfInBounds_toArray, List.set_cons_zero, List.set_cons_succ])
          (refine wpAnyH_take (i := 2) (oi := { dst := some 87, op := Op.move (Operand.tmp 9), type := 122, pos := _, after := #[], guard := none }) (v := ?_) rfl (by kernel_rfl) (by kernel_rfl) (by kernel_rfl) (fun _ _ _ h => h) (Or.inl ⟨by rfl, ?_⟩) (by assumption) ?_; rotate_left 1; (focus (intro w hSw; obtain ⟨hsc, hs0, hs1, hs2, hs3, hs4⟩ := hSw; go_simp; (first | done | with_reducible rfl))); try simp only [Act.put, List.setIfInBounds_toArray, List.set_cons_zero, List.set_cons_succ])
          (refine wpAnyH_take (i := 3) (oi := { dst := some 88, op := Op.nilCheck (Operand.tmp 87), type := 0, pos := _, after := #[{ on := 2, ground := Ground.data }], guard := none }) (v := ?_) rfl (by kernel_rfl) (by kernel_rfl) (by kernel_rfl) (fun _ _ _ h => h) (Or.inl ⟨by rfl, ?_⟩) (by assumption) ?_; rotate_left 1; (focus (intro w hSw; obtain ⟨hsc, hs0, hs1, hs2, hs3, hs4⟩ := hSw; go_simp; (first | done | with_reducible rfl))); try simp only [Act.put, List.setIfInBounds_toArray, List.set_cons_zero, List.set_cons_succ])
          (refine wpAnyH_take (i := 4) (oi := { dst := some 89, op := Op.fieldAddr 97 (Operand.tmp 88) 1, type := 0, pos := _, after := #[{ on := 3, ground := Ground.data }], guard := none }) (v := ?_) rfl (by kernel_rfl) (by kernel_rfl) (by kernel_rfl) (fun _ _ _ h => h) (Or.inl ⟨by rfl, ?_⟩) (by assumption) ?_; rotate_left 1; (focus (intro w hSw; obtain ⟨hsc, hs0, hs1, hs2, hs3, hs4⟩ := hSw; go_simp; (first | done | with_reducible rfl))); try simp only [Act.put, List.setIfInBounds_toArray, List.set_cons_zero, List.set_cons_succ])
          (refine wpAnyH_take (i := 5) (oi := { dst := some 90, op := Op.load 3 (Operand.tmp 89), type := 3, pos := _, after := #[{ on := 4, ground := Ground.data }], guard := none }) (v := ?_) rfl (by kernel_rfl) (by kernel_rfl) (by kernel_rfl) (fun _ _ _ h => h) (Or.inl ⟨by rfl, ?_⟩) (by assumption) ?_; rotate_left 1; (focus (intro w hSw; obtain ⟨hsc, hs0, hs1, hs2, hs3, hs4⟩ := hSw; go_simp; (first | done | with_reducible rfl))); try simp only [Act.put, List.setIfInBounds_toArray, List.set_cons_zero, List.set_cons_succ])
          (refine wpAnyH_take (i := 6) (oi := { dst := some 91, op := Op.move (Operand.tmp 14), type := 3, pos := _, after := #[], guard := none }) (v := ?_) rfl (by kernel_rfl) (by kernel_rfl) (by kernel_rfl) (fun _ _ _ h => h) (Or.inl ⟨by rfl, ?_⟩) (by assumption) ?_; rotate_left 1; (focus (intro w hSw; obtain ⟨hsc, hs0, hs1, hs2, hs3, hs4⟩ := hSw; go_simp; (first | done | with_reducible rfl))); try simp only [Act.put, List.setIfInBounds_toArray, List.set_cons_zero, List.set_cons_succ])
          (refine wpAnyH_take (i := 7) (oi := { dst := some 92, op := Op.build 102 #[(0, Operand.tmp 86), (1, Operand.tmp 90), (2, Operand.tmp 91)], type := 102, pos := _, after := #[{ on := 1, ground := Ground.data }, { on := 5, ground := Ground.data }, { on := 6, ground := Ground.data }], guard := none }) (v := ?_) rfl (by kernel_rfl) (by kernel_rfl) (by kernel_rfl) (fun _ _ _ h => h) (Or.inl ⟨by rfl, ?_⟩) (by assumption) ?_; rotate_left 1; (focus (intro w hSw; obtain ⟨hsc, hs0, hs1, hs2, hs3, hs4⟩ := hSw; go_simp; (first | done | with_reducible rfl))); try simp only [Act.put, List.setIfInBounds_toArray, List.set_cons_zero, List.set_cons_succ])
          (refine wpAnyH_ready (rs := [8]) (by kernel_rfl) (by simp) ?_; refine AllReadyH.cons (o := { dst := some 93, op := Op.buildSlice 107 1 #[(0, Operand.tmp 92)], type := 107, pos := _, after := #[{ on := 7, ground := Ground.data }], guard := none }) rfl (fun K hK => ?_) AllReadyH.nil)
          (go_simp; refine hK.out _ _ (hS _ (((Chg.refl _ _ _).alloc hB5w _).drew)) (fun h2 => ?_); clear hK K; try simp only [Act.put, List.setIfInBounds_toArray, List.set_cons_zero, List.set_cons_succ])
          (refine wpAnyH_ready (rs := [9]) (by kernel_rfl) (by simp) ?_; refine AllReadyH.cons (o := { dst := some 94, op := Op.call { callee := Callee.builtin Builtin.append, args := #[Operand.tmp 85, Operand.tmp 93], argTypes := #[107, 107] }, type := 107, pos := _, after := #[{ on := 0, ground := Ground.data }, { on := 8, ground := Ground.data }], guard := none }) rfl (fun K hK => ?_) AllReadyH.nil)
          go_simp
          refine hK.out _ _ (hS _ ?hC) (fun h3 => ?_)
          case hC => exact ((six_chg w5 bw B0 hB0 _ _ _ _ _ _).alloc (by simpa using hB5w) _).drew
          clear hK K
          try simp only [Act.put, List.setIfInBounds_toArray, List.set_cons_zero, List.set_cons_succ]
          (refine wpAnyH_take (i := 10) (oi := { dst := some 10, op := Op.assign (Operand.tmp 94), type := 107, pos := _, after := #[{ on := 9, ground := Ground.data }, { on := 9, ground := Ground.chain }, { on := 0, ground := Ground.phase }, { on := 1, ground := Ground.phase }, { on := 2, ground := Ground.phase }, { on := 3, ground := Ground.phase }, { on := 4, ground := Ground.phase }, { on := 5, ground := Ground.phase }, { on := 6, ground := Ground.phase }, { on := 7, ground := Ground.phase }, { on := 8, ground := Ground.phase }, { on := 9, ground := Ground.phase }], guard := none }) (v := ?_) rfl (by kernel_rfl) (by kernel_rfl) (by kernel_rfl) (fun _ _ _ h => h) (Or.inl ⟨by rfl, ?_⟩) (by assumption) ?_; rotate_left 1; (focus (intro w hSw; obtain ⟨hsc, hs0, hs1, hs2, hs3, hs4⟩ := hSw; go_simp; (first | done | with_reducible rfl))); try simp only [Act.put, List.setIfInBounds_toArray, List.set_cons_zero, List.set_cons_succ])
          refine wpAnyH_done (by kernel_rfl) ?_ _
          go_wp2
          go_ret
          have hx := six_cells w5 bw (.int .i64 (bat I)) (.int .i64 (cv I)) (.int .i64 (cs I)) (.int .i64 (la I)) (.int .i64 rest) (.int .i64 nn) y6 y7 y8 y9 y10 y11
          have h9 := h3.1
          have hB9 : Below w.heap.size w w5 := hB4.trans (hB5.mono hB4.size)
          have hC9 : Chg B0 (fun b o => b = bw ∧ 6 ≤ o) w w5 := ⟨hB9.mono hB1w, fun b o hb _ => (bcell hB9).1 b o hb, fun b o hb => (bcell hB9).2 b o hb⟩
          have hnn : ni = nn := by simpa using HS3.out
          rw [← hnn] at hx HN
          refine ⟨.inl ⟨j, hjl, hpre, by rw [hI]; exact hbn, rfl, ?_⟩, hC9.trans h9⟩
          rw [hI, ← HN.out]
          have hcc : ∀ o, (((((((w5.setCell ⟨bw, 6, none⟩ (.int .i64 (bat I))).setCell ⟨bw, 7, none⟩ (.int .i64 (cv I))).setCell ⟨bw, 8, none⟩ (.int .i64 (cs I))).setCell ⟨bw, 9, none⟩ (.int .i64 (la I))).setCell ⟨bw, 10, none⟩ (.int .i64 rest)).setCell ⟨bw, 11, none⟩ (.int .i64 ni)).alloc (.cells #[.int .i64 (bat I), .int .i64 (cv I), .int .i64 (cs I), .int .i64 (la I), .int .i64 rest, .int .i64 ni] 102)).drew.cell? ⟨bw, o, none⟩ = _ := fun o => (cell_drew_own _ _).trans (World.cell?_alloc_past _ _ _ (by simpa using zw5))
          exact ⟨(hcc 6).trans hx.1, (hcc 7).trans hx.2.1, (hcc 8).trans hx.2.2.1, (hcc 9).trans hx.2.2.2.1, (hcc 10).trans hx.2.2.2.2.1, (hcc 11).trans hx.2.2.2.2.2⟩
      · have hbN : ¬ bat I ≤ m - hd := by omega
        go_wp2
        go_roundw
        case rel => exact ⟨j + 1, by omega, by go_num, rfl, fun t ht => by
          rcases Nat.lt_succ_iff_lt_or_eq.1 ht with h | h
          · exact hpre t h
          · subst h; rw [hI]; omega, hB4⟩
        case measure => simp [intOf]; omega
    · have hjI : ¬ (j : Int) < (M : Int) := by omega
      have hjM : j = M := by omega
      subst hjM
      go_wp2
      go_ret
      exact ⟨.inr ⟨hpre, rfl⟩, ⟨hBr.mono hB1, fun b o hb _ => (bcell hBr).1 b o hb, fun b o hb => (bcell hBr).2 b o hb⟩⟩

end Go.Proofs.Ybulkjqw
