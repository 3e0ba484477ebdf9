import Derived.Test.YbulkjqwF9
namespace Go.Proofs.Ybulkjqw
open Go.RowKit Go.Shelf
set_option linter.unusedSimpArgs false
set_option linter.unusedVariables false

theorem LI.first {w W2 : World} {be bq : Nat} {k cv cs L : Int} {v s : Nat → Int} (hB : Below w.heap.size w W2) (hz : w.heap.size + 3 < W2.heap.size) (i1 : W2.cell? ⟨w.heap.size + 1, 0, none⟩ = some (.int .i64 0)) (i2 : W2.cell? ⟨w.heap.size + 2, 0, none⟩ = some (.bool false))
    (i3 : W2.cell? ⟨w.heap.size + 3, 0, none⟩ = some (.pointer (some ⟨bq, 0, none⟩))) (j1 : W2.frozen? ⟨w.heap.size + 1, 0, none⟩ = false) (j2 : W2.frozen? ⟨w.heap.size + 2, 0, none⟩ = false) :
    LI w.heap.size W2.heap.size bq w (((W2.alloc (.cells #[.int .i64 0, .int .i64 0, .int .i64 0, .int .i64 0] 128)).alloc (.cells #[.pointer (some ⟨be, 0, none⟩)] 68)).alloc (.cells #[.int .i64 k, .int .i64 cv, .int .i64 cs, .int .i64 L] 45))
      (((W2.alloc (.cells #[.int .i64 0, .int .i64 0, .int .i64 0, .int .i64 0] 128)).alloc (.cells #[.pointer (some ⟨be, 0, none⟩)] 68)).alloc (.cells #[.int .i64 k, .int .i64 cv, .int .i64 cs, .int .i64 L] 45)) (pk v s []) := by
  have hB4 : Below W2.heap.size W2 (W2.alloc (.cells #[.int .i64 0, .int .i64 0, .int .i64 0, .int .i64 0] 128)) := (Below.refl _ _).alloc (Nat.le_refl _) _
  have hB5 : Below (W2.alloc (.cells #[.int .i64 0, .int .i64 0, .int .i64 0, .int .i64 0] 128)).heap.size (W2.alloc (.cells #[.int .i64 0, .int .i64 0, .int .i64 0, .int .i64 0] 128)) (((W2.alloc (.cells #[.int .i64 0, .int .i64 0, .int .i64 0, .int .i64 0] 128)).alloc (.cells #[.pointer (some ⟨be, 0, none⟩)] 68)).alloc (.cells #[.int .i64 k, .int .i64 cv, .int .i64 cs, .int .i64 L] 45)) := ((Below.refl _ _).alloc (Nat.le_refl _) _).alloc (by simp) _
  have hB6 : Below W2.heap.size W2 _ := hB4.trans (hB5.mono (by simp))
  have c := (bcell hB6).1
  have f := (bcell hB6).2
  have c5 := (bcell hB5).1
  have f5 := (bcell hB5).2
  have zz : W2.heap.size < (W2.alloc (.cells #[.int .i64 0, .int .i64 0, .int .i64 0, .int .i64 0] 128)).heap.size := by simp
  exact ⟨(c _ _ (by omega)).trans i1, (c _ _ (by omega)).trans i2, (c _ _ hz).trans i3, (c5 _ _ zz).trans (by simp [World.cell?_alloc_at]), (c5 _ _ zz).trans (by simp [World.cell?_alloc_at]), (c5 _ _ zz).trans (by simp [World.cell?_alloc_at, pk]), (c5 _ _ zz).trans (by simp [World.cell?_alloc_at, pk]),
    (f _ _ (by omega)).trans j1, (f _ _ (by omega)).trans j2, (f5 _ _ zz).trans (by simp [World.frozen?_alloc_at]), (f5 _ _ zz).trans (by simp [World.frozen?_alloc_at]), (f5 _ _ zz).trans (by simp [World.frozen?_alloc_at]), (f5 _ _ zz).trans (by simp [World.frozen?_alloc_at]), Nat.le_refl _, hB.trans (hB6.mono (by omega))⟩

theorem withRoom_any (be : Nat) (B cv cs L : Int) (w : World) : Calls Yba.prog 21 #[.pointer (some ⟨be, 0, none⟩), .agg #[.int .i64 B, .int .i64 cv, .int .i64 cs, .int .i64 L]] w
    fun e w' => e = .returned (.func (.func 27) #[] #[.pointer (some ⟨w.heap.size, 0, none⟩), .pointer (some ⟨w.heap.size + 1, 0, none⟩)]) ∧ w' = (w.alloc (.cells #[.pointer (some ⟨be, 0, none⟩)] 68)).alloc (.cells #[.int .i64 B, .int .i64 cv, .int .i64 cs, .int .i64 L] 45) := by
  go_enter Yba.func21, Yba.ntmps21
  go_wp2
  go_ret
  exact ⟨rfl, rfl⟩

set_option maxRecDepth 100000 in
set_option maxHeartbeats 1000000 in
theorem node_any (pw : Value) (be bsn ba bf bn bp bq bj br : Nat) (bc bd : Nat → Nat) (N m hd B : Nat) (req : Nat → Int) (v s : Nat → Int) (cv cs L : Int) (w : World)
    (E : Emu w be bsn ba bf bn bp bq bj br bc bd N m hd req v s) (hN : N ≤ 256) (hB : B ≤ 11) (hm : hd + B ≤ m) (hm2 : m ≤ 100) (hrq : ∀ j, j < m → -1 ≤ req j ∧ req j < N) :
    Calls Yba.prog 18 #[pw, .pointer (some ⟨be, 0, none⟩), .int .i64 0, .agg #[.int .i64 B, .int .i64 cv, .int .i64 cs, .int .i64 L]] w
      fun e w' => e = .returned (.tuple #[.int .i64 (nodeAns req hd B N cv cs v s).1, .bool (nodeAns req hd B N cv cs v s).2]) ∧ Below w.heap.size w w' := by
  have hB0 : Below w.heap.size w (((w.alloc (.cells #[.int .i64 B, .int .i64 cv, .int .i64 cs, .int .i64 L] 45)).alloc (.cells #[.int .i64 0] 3)).alloc (.cells #[.bool false] 4)) := (((Below.refl _ _).alloc (Nat.le_refl _) _).alloc (by simp) _).alloc (by first | (simp; done) | (simp; omega)) _
  have e14 := (E.below hB0).e14
  have hB1 : Below w.heap.size w ((((w.alloc (.cells #[.int .i64 B, .int .i64 cv, .int .i64 cs, .int .i64 L] 45)).alloc (.cells #[.int .i64 0] 3)).alloc (.cells #[.bool false] 4)).alloc (.cells #[.pointer (some ⟨bq, 0, none⟩)] 121)) := hB0.alloc (by first | (simp; done) | (simp; omega)) _
  have E1 := E.below hB1
  have x0 : ((((w.alloc (.cells #[.int .i64 B, .int .i64 cv, .int .i64 cs, .int .i64 L] 45)).alloc (.cells #[.int .i64 0] 3)).alloc (.cells #[.bool false] 4)).alloc (.cells #[.pointer (some ⟨bq, 0, none⟩)] 121)).cell? ⟨w.heap.size, 0, none⟩ = some (.int .i64 B) := by rw [World.cell?_alloc_past _ _ _ (by first | (simp; done) | (simp; omega)), World.cell?_alloc_past _ _ _ (by first | (simp; done) | (simp; omega)), World.cell?_alloc_past _ _ _ (by simp), World.cell?_alloc_at _ _ _ _ rfl]; rfl
  have x1 : ((((w.alloc (.cells #[.int .i64 B, .int .i64 cv, .int .i64 cs, .int .i64 L] 45)).alloc (.cells #[.int .i64 0] 3)).alloc (.cells #[.bool false] 4)).alloc (.cells #[.pointer (some ⟨bq, 0, none⟩)] 121)).cell? ⟨w.heap.size, 1, none⟩ = some (.int .i64 cv) := by rw [World.cell?_alloc_past _ _ _ (by first | (simp; done) | (simp; omega)), World.cell?_alloc_past _ _ _ (by first | (simp; done) | (simp; omega)), World.cell?_alloc_past _ _ _ (by simp), World.cell?_alloc_at _ _ _ _ rfl]; rfl
  have x2 : ((((w.alloc (.cells #[.int .i64 B, .int .i64 cv, .int .i64 cs, .int .i64 L] 45)).alloc (.cells #[.int .i64 0] 3)).alloc (.cells #[.bool false] 4)).alloc (.cells #[.pointer (some ⟨bq, 0, none⟩)] 121)).cell? ⟨w.heap.size, 2, none⟩ = some (.int .i64 cs) := by rw [World.cell?_alloc_past _ _ _ (by first | (simp; done) | (simp; omega)), World.cell?_alloc_past _ _ _ (by first | (simp; done) | (simp; omega)), World.cell?_alloc_past _ _ _ (by simp), World.cell?_alloc_at _ _ _ _ rfl]; rfl
  have x3 : ((((w.alloc (.cells #[.int .i64 B, .int .i64 cv, .int .i64 cs, .int .i64 L] 45)).alloc (.cells #[.int .i64 0] 3)).alloc (.cells #[.bool false] 4)).alloc (.cells #[.pointer (some ⟨bq, 0, none⟩)] 121)).cell? ⟨w.heap.size, 3, none⟩ = some (.int .i64 L) := by rw [World.cell?_alloc_past _ _ _ (by first | (simp; done) | (simp; omega)), World.cell?_alloc_past _ _ _ (by first | (simp; done) | (simp; omega)), World.cell?_alloc_past _ _ _ (by simp), World.cell?_alloc_at _ _ _ _ rfl]; rfl
  have y0 : ((((w.alloc (.cells #[.int .i64 B, .int .i64 cv, .int .i64 cs, .int .i64 L] 45)).alloc (.cells #[.int .i64 0] 3)).alloc (.cells #[.bool false] 4)).alloc (.cells #[.pointer (some ⟨bq, 0, none⟩)] 121)).cell? ⟨w.heap.size + 1, 0, none⟩ = some (.int .i64 0) := by rw [World.cell?_alloc_past _ _ _ (by first | (simp; done) | (simp; omega)), World.cell?_alloc_past _ _ _ (by simp), World.cell?_alloc_at _ _ _ _ (by simp)]; rfl
  have y1 : ((((w.alloc (.cells #[.int .i64 B, .int .i64 cv, .int .i64 cs, .int .i64 L] 45)).alloc (.cells #[.int .i64 0] 3)).alloc (.cells #[.bool false] 4)).alloc (.cells #[.pointer (some ⟨bq, 0, none⟩)] 121)).cell? ⟨w.heap.size + 1 + 1, 0, none⟩ = some (.bool false) := by rw [World.cell?_alloc_past _ _ _ (by simp), World.cell?_alloc_at _ _ _ _ (by simp)]; rfl
  have y2 : ((((w.alloc (.cells #[.int .i64 B, .int .i64 cv, .int .i64 cs, .int .i64 L] 45)).alloc (.cells #[.int .i64 0] 3)).alloc (.cells #[.bool false] 4)).alloc (.cells #[.pointer (some ⟨bq, 0, none⟩)] 121)).cell? ⟨w.heap.size + 1 + 1 + 1, 0, none⟩ = some (.pointer (some ⟨bq, 0, none⟩)) := by simp [World.cell?_alloc_at]
  have f0 : ((((w.alloc (.cells #[.int .i64 B, .int .i64 cv, .int .i64 cs, .int .i64 L] 45)).alloc (.cells #[.int .i64 0] 3)).alloc (.cells #[.bool false] 4)).alloc (.cells #[.pointer (some ⟨bq, 0, none⟩)] 121)).frozen? ⟨w.heap.size + 1, 0, none⟩ = false := by rw [World.frozen?_alloc_past _ _ _ (by first | (simp; done) | (simp; omega)), World.frozen?_alloc_past _ _ _ (by simp), World.frozen?_alloc_at _ _ _ _ (by simp)]
  have f1 : ((((w.alloc (.cells #[.int .i64 B, .int .i64 cv, .int .i64 cs, .int .i64 L] 45)).alloc (.cells #[.int .i64 0] 3)).alloc (.cells #[.bool false] 4)).alloc (.cells #[.pointer (some ⟨bq, 0, none⟩)] 121)).frozen? ⟨w.heap.size + 1 + 1, 0, none⟩ = false := by rw [World.frozen?_alloc_past _ _ _ (by simp), World.frozen?_alloc_at _ _ _ _ (by simp)]
  have z1 : w.heap.size + 1 + 1 + 1 < ((((w.alloc (.cells #[.int .i64 B, .int .i64 cv, .int .i64 cs, .int .i64 L] 45)).alloc (.cells #[.int .i64 0] 3)).alloc (.cells #[.bool false] 4)).alloc (.cells #[.pointer (some ⟨bq, 0, none⟩)] 121)).heap.size := by simp
  have hhm : (hd : Int) ≤ (m : Int) := by omega
  have hhB : (hd : Int) + (B : Int) ≤ (m : Int) := by omega
  clear hB0
  refine (callsIn_wide (n := 4)).1 ?_
  refine callsIn_of_wp_marks Yba.func18 rfl trivial ?_
  simp only [Yba.ntmps18, List.size_toArray, List.length_cons, List.length_nil, Nat.reduceAdd, Nat.reduceSub, Array.replicate_succ, Array.replicate_zero, List.push_toArray, List.append_toArray, List.nil_append, List.cons_append]
  refine wpIn_wide.2 ?_
  go_wp2
  generalize ((((w.alloc (.cells #[.int .i64 B, .int .i64 cv, .int .i64 cs, .int .i64 L] 45)).alloc (.cells #[.int .i64 0] 3)).alloc (.cells #[.bool false] 4)).alloc (.cells #[.pointer (some ⟨bq, 0, none⟩)] 121)) = w1 at *
  have q3 := E1.q3
  have q4 := E1.q4
  clear e14
  obtain ⟨A, hA⟩ : ∃ A : Addr, A = if m = hd then ⟨bj, 0, none⟩ else ⟨bj, hd * 2, none⟩ := ⟨_, rfl⟩
  have HA : Hid (A = if m = hd then ⟨bj, 0, none⟩ else ⟨bj, hd * 2, none⟩) := hA
  clear hA
  go_cut [11] from 25 to 172 (fun a wc => a = .slice (some A) B (m - hd) ∧ ∃ n : Nat, wc = w1.drewN n)
  case first =>
    go_quiet (fail)
    go_wp2
    all_goals go_meet
    all_goals (refine ⟨?_, _, rfl⟩; rw [HA.out]; first | (have h8 : m = hd := by assumption
                                                          simp [h8]) | (have h8 : ¬ m = hd := by assumption
                                                                        simp [h8]))
  case rest =>
    obtain ⟨rfl, n0, rfl⟩ := hcut
    have e16 := E1.e16
    have zbj := E1.zbj
    have zbr := E1.zbr
    have zbe := E1.zbe
    have HAB : Hid (0 < B → A = ⟨bj, hd * 2, none⟩) := by
      intro hb
      rw [HA.out, if_neg (by omega)]
    clear q3 q4 HA
    go_wp2
    go_loopw [12, 13, 49] (fun p q i wr => ∃ k : Nat, k ≤ B ∧ i = .int .i64 k ∧ p = .int .i64 (nprev req hd B k).1 ∧ q = .int .i64 (nprev req hd B k).2 ∧ Below w1.heap.size w1 wr) (fun _ _ i _ => B - (intOf i).toNat)
    case atStart => exact ⟨0, by omega, rfl, rfl, rfl, below_draws (Below.refl _ _) _⟩
    case round =>
      obtain ⟨k, hk, rfl, rfl, rfl, hBr⟩ := hrel
      by_cases hkl : k < B
      · have hkI : (k : Int) < (B : Int) := by omega
        have hAe := HAB.out (by omega)
        subst hAe
        have Er := E1.below hBr
        have j0 : wr.cell? ⟨bj, hd * 2 + k * 2, none⟩ = some (.int .i64 ((hd + k : Nat) : Int)) := by
          have := Er.jb (hd + k) (by omega)
          rwa [show (hd + k) * 2 = hd * 2 + k * 2 from by omega] at this
        have j1 : wr.cell? ⟨bj, hd * 2 + k * 2 + 1, none⟩ = some (.int .i64 0) := by
          have := Er.jb1 (hd + k) (by omega)
          rwa [show (hd + k) * 2 + 1 = hd * 2 + k * 2 + 1 from by omega] at this
        have r0 := Er.rq (hd + k) (by omega)
        have g16 := Er.e16
        have zr1 := Er.zbr
        have zr2 := Er.zbe
        have hkm : ((hd + k : Nat) : Int) < (m : Int) := by omega
        have hcb := cntTo_bd req hd B (req (hd + k))
        by_cases hneg : req (hd + k) < 0
        · have HS : Hid (nprev req hd B (k + 1) = nprev req hd B k) := by show _ = _; rw [nprev, if_pos hneg]
          go_wp2
          go_quiet (fail)
          go_wp2
          go_roundw
          case rel => exact ⟨k + 1, by omega, by go_num, int_eq (by rw [HS.out]), int_eq (by rw [HS.out]), below_draws (hBr.alloc hBr.size _) _⟩
          case measure => simp [intOf]; omega
        · go_wp2
          go_quiet (fail)
          go_wp2
          go_loopw [17, 66] (fun r i wr2 => ∃ t : Nat, t ≤ B ∧ i = .int .i64 t ∧ r = .int .i64 (cntTo req hd t (req (hd + k))) ∧ Below w1.heap.size w1 wr2) (fun _ i _ => B - (intOf i).toNat)
          case atStart => exact ⟨0, by omega, rfl, rfl, below_draws (hBr.alloc hBr.size _) _⟩
          case round =>
            obtain ⟨t, ht, rfl, rfl, hBt⟩ := hrel
            clear j0 j1 r0 g16 zr1 zr2 Er
            by_cases htl : t < B
            · have htI : (t : Int) < (B : Int) := by omega
              have Et := E1.below hBt
              have j0 : wr.cell? ⟨bj, hd * 2 + t * 2, none⟩ = some (.int .i64 ((hd + t : Nat) : Int)) := by
                have := Et.jb (hd + t) (by omega)
                rwa [show (hd + t) * 2 = hd * 2 + t * 2 from by omega] at this
              have j1 : wr.cell? ⟨bj, hd * 2 + t * 2 + 1, none⟩ = some (.int .i64 0) := by
                have := Et.jb1 (hd + t) (by omega)
                rwa [show (hd + t) * 2 + 1 = hd * 2 + t * 2 + 1 from by omega] at this
              have r0 := Et.rq (hd + t) (by omega)
              have g16 := Et.e16
              have zr1 := Et.zbr
              have zr2 := Et.zbe
              have htm : ((hd + t : Nat) : Int) < (m : Int) := by omega
              have hcb2 := cntTo_bd req hd t (req (hd + k))
              by_cases heq : req (hd + t) = req (hd + k)
              · have HS : Hid (cntTo req hd (t + 1) (req (hd + k)) = cntTo req hd t (req (hd + k)) + 1) := by show _ = _; rw [cntTo, if_pos heq]
                have heqb : (req (hd + t) == req (hd + k)) = true := by simp [heq]
                clear heq
                generalize cntTo req hd t (req (hd + k)) = x at *
                have hb1 := hcb2.1
                have hb2 : x ≤ 11 := by omega
                go_wp2
                go_quiet (fail)
                go_wp2
                go_roundw
                case rel => exact ⟨t + 1, by omega, by go_num, int_eq (by rw [HS.out]), below_draws (hBt.alloc hBt.size _) _⟩
                case measure => simp [intOf]; omega
              · have HS : Hid (cntTo req hd (t + 1) (req (hd + k)) = cntTo req hd t (req (hd + k))) := by show _ = _; rw [cntTo, if_neg heq, Int.add_zero]
                have heqb : (req (hd + t) == req (hd + k)) = false := by simp [heq]
                clear heq
                go_wp2
                go_quiet (fail)
                go_wp2
                go_roundw
                case rel => exact ⟨t + 1, by omega, by go_num, int_eq (by rw [HS.out]), below_draws (hBt.alloc hBt.size _) _⟩
                case measure => simp [intOf]; omega
            · have htI : ¬ (t : Int) < (B : Int) := by omega
              have htB : t = B := by omega
              subst htB
              by_cases hyes : (nprev req hd t k).2 < cntTo req hd t (req (hd + k)) ∨ (cntTo req hd t (req (hd + k)) = (nprev req hd t k).2 ∧ req (hd + k) < (nprev req hd t k).1)
              · have HS : Hid (nprev req hd t (k + 1) = (req (hd + k), cntTo req hd t (req (hd + k)))) := by show _ = _; rw [nprev, if_neg (by omega), if_pos hyes]
                go_wp2
                all_goals
                  go_roundw
                  case rel => exact ⟨k + 1, by omega, by go_num, int_eq (by rw [HS.out]), int_eq (by first | (rw [HS.out]; done) | (rw [HS.out]; omega) | (rw [HS.out]; simp_all; done)), hBt⟩
                  case measure => simp [intOf]; omega
              · have HS : Hid (nprev req hd t (k + 1) = nprev req hd t k) := by show _ = _; rw [nprev, if_neg (by omega), if_neg hyes]
                go_wp2
                all_goals
                  go_roundw
                  case rel => exact ⟨k + 1, by omega, by go_num, int_eq (by rw [HS.out]), int_eq (by rw [HS.out]), hBt⟩
                  case measure => simp [intOf]; omega
      · have hkI : ¬ (k : Int) < (B : Int) := by omega
        have hkB : k = B := by omega
        subst hkB
        have hpb := nprev_bd req hd k N (fun j hj => hrq j (by omega)) (by omega) k (Nat.le_refl _)
        have HANS : Hid (nodeAns req hd k N cv cs v s = if 0 ≤ (nprev req hd k k).1 ∧ cv ≤ v (nprev req hd k k).1.toNat ∧ cs ≤ s (nprev req hd k k).1.toNat then ((nprev req hd k k).1, true) else if 0 ≤ (pickTo cv cs v s N).1 then ((pickTo cv cs v s N).1, true) else (0, false)) := rfl
        generalize (nprev req hd k k).1 = P at *
        generalize (nprev req hd k k).2 = P2 at *
        have hp1 := hpb.1
        have hp2 := hpb.2
        obtain ⟨D, hD⟩ : ∃ D : Bool, D = decide (0 ≤ P ∧ cv ≤ v P.toNat ∧ cs ≤ s P.toNat) := ⟨_, rfl⟩
        have HD : Hid (D = decide (0 ≤ P ∧ cv ≤ v P.toNat ∧ cs ≤ s P.toNat)) := hD
        clear hD hpb
        go_wp2
        go_cut [113] from 47 to 172 (fun d wc => d = .bool D ∧ Below w1.heap.size w1 wc)
        case first =>
          by_cases h0 : 0 ≤ P
          · obtain ⟨q, rfl⟩ := Int.eq_ofNat_of_zero_le h0
            have hq : q < N := by omega
            have g1 := E1.nv q hq
            have g2 := E1.ns q hq
            have g3 := E1.nw q hq
            have g4 := E1.e2
            have zbn := E1.zbn
            have z0 : w.heap.size < w1.heap.size := by omega
            have hde : decide (cv ≤ v q ∧ cs ≤ s q) = D := by rw [HD.out]; simp
            have HDE := hide hde
            clear hde
            go_region_held3 (fun w' => (∀ b o, b < w1.heap.size → w'.cell? ⟨b, o, none⟩ = w1.cell? ⟨b, o, none⟩) ∧ w1.heap.size ≤ w'.heap.size ∧ Below w1.heap.size w1 w')
              (first | (apply fr_next hk9; (assumption); (exact ⟨rfl, rfl, rfl, rfl⟩)) | exact ⟨(bcell hBr).1, hBr.size, ⟨hBr.os, hBr.tape, hBr.output, hBr.size, hBr.block⟩⟩)
              (first
                | (go_at_call 20; refine (room_any _ _ _ _ _ _ _ _).mono ?_; rintro e wk ⟨rfl, hk9⟩))
            rename_i hE9
            go_wp2
            go_meet
            case rel => exact ⟨by rw [← HDE.out, Bool.decide_and], hE9.2.2⟩
          · have hd : D = false := by rw [HD.out]; simp [h0]
            have hdd : decide (0 ≤ P) = false := decide_eq_false h0
            go_quiet (fail)
            go_wp2
            go_meet
            case rel => exact ⟨by rw [hd], below_draws hBr _⟩
        case rest =>
          obtain ⟨rfl, hBc⟩ := hcut
          have cf0 := (bcell hBc).1 (w.heap.size + 1) 0 (by omega)
          have cf1 := (bcell hBc).1 (w.heap.size + 1 + 1) 0 (by omega)
          rw [y0] at cf0
          rw [y1] at cf1
          have cf2 := (bcell hBc).2 (w.heap.size + 1) 0 (by omega)
          have cf3 := (bcell hBc).2 (w.heap.size + 1 + 1) 0 (by omega)
          rw [f0] at cf2
          rw [f1] at cf3
          cases D with
          | true =>
            have hh := of_decide_eq_true HD.out.symm
            rw [if_pos hh] at HANS
            go_wp2
            refine ⟨.tuple #[.int .i64 P, .bool true], ?_, ?_, ?_⟩
            · simp [results, Yba.results18, go_sem, cf0, cf1, World.cell?_setCell_other, World.cell?_setCell_same']
            · rw [HANS.out]
            · exact (hB1.trans (hBc.mono hB1.size)).trans (((Below.refl _ _).setCell (p := ⟨w.heap.size + 1, 0, none⟩) (by simp) _).setCell (p := ⟨w.heap.size + 1 + 1, 0, none⟩) (by simp; omega) _)
          | false =>
            have hh := of_decide_eq_false HD.out.symm
            rw [if_neg hh] at HANS
            have Ec := E1.below hBc
            have e0 := Ec.e0
            have s13 := Ec.s13
            have q0 := Ec.q0
            have q1 := Ec.q1
            have a1 := Ec.a1
            have q9 := (bcell hBc).1 (w.heap.size + 1 + 1 + 1) 0 (by omega)
            rw [y2] at q9
            go_wp2
            have zbe2 := Ec.zbe
            have zbs2 := Ec.zbs
            have zba2 := Ec.zba
            have zbq2 := Ec.zbq
            have z3 : w.heap.size + 1 + 1 + 1 < wc.heap.size := Nat.lt_of_lt_of_le z1 hBc.size
            have hw1 : IntKind.i64.wrap 1 = 1 := by rfl
            refine wp_region_noPanic ?_
            refine wp_region_held_drew (S := FR wc) (by kernel_rfl) (FR.start _) (fun hHeld => ?_)
            (refine wpAnyH_take (i := 0) (oi := { dst := some 115, op := Op.move (Operand.tmp 1), type := 68, pos := _, after := #[], guard := none }) (v := ?_) rfl (by kernel_rfl) (by kernel_rfl) (by kernel_rfl) (fun _ _ _ h => h) (Or.inl ⟨by rfl, ?_⟩) (by assumption) ?_; rotate_left 1; (focus (intro w hSw; have hSw1 := hSw.1; go_simp; (first | done | with_reducible rfl))); try simp only [Act.put, List.setIfInBounds_toArray, List.set_cons_zero, List.set_cons_succ])
            (refine wpAnyH_take (i := 1) (oi := { dst := some 116, op := Op.nilCheck (Operand.tmp 115), type := 0, pos := _, after := #[{ on := 0, ground := Ground.data }], guard := none }) (v := ?_) rfl (by kernel_rfl) (by kernel_rfl) (by kernel_rfl) (fun _ _ _ h => h) (Or.inl ⟨by rfl, ?_⟩) (by assumption) ?_; rotate_left 1; (focus (intro w hSw; have hSw1 := hSw.1; go_simp; (first | done | with_reducible rfl))); try simp only [Act.put, List.setIfInBounds_toArray, List.set_cons_zero, List.set_cons_succ])
            (refine wpAnyH_take (i := 2) (oi := { dst := some 117, op := Op.fieldAddr 92 (Operand.tmp 116) 0, type := 0, pos := _, after := #[{ on := 1, ground := Ground.data }], guard := none }) (v := ?_) rfl (by kernel_rfl) (by kernel_rfl) (by kernel_rfl) (fun _ _ _ h => h) (Or.inl ⟨by rfl, ?_⟩) (by assumption) ?_; rotate_left 1; (focus (intro w hSw; have hSw1 := hSw.1; go_simp; (first | done | with_reducible rfl))); try simp only [Act.put, List.setIfInBounds_toArray, List.set_cons_zero, List.set_cons_succ])
            (refine wpAnyH_take (i := 3) (oi := { dst := some 118, op := Op.load 69 (Operand.tmp 117), type := 69, pos := _, after := #[{ on := 2, ground := Ground.data }], guard := none }) (v := ?_) rfl (by kernel_rfl) (by kernel_rfl) (by kernel_rfl) (fun _ _ _ h => h) (Or.inl ⟨by rfl, ?_⟩) (by assumption) ?_; rotate_left 1; (focus (intro w hSw; have hSw1 := hSw.1; go_simp; (first | done | with_reducible rfl))); try simp only [Act.put, List.setIfInBounds_toArray, List.set_cons_zero, List.set_cons_succ])
            (refine wpAnyH_take (i := 4) (oi := { dst := some 119, op := Op.nilCheck (Operand.tmp 118), type := 0, pos := _, after := #[{ on := 3, ground := Ground.data }], guard := none }) (v := ?_) rfl (by kernel_rfl) (by kernel_rfl) (by kernel_rfl) (fun _ _ _ h => h) (Or.inl ⟨by rfl, ?_⟩) (by assumption) ?_; rotate_left 1; (focus (intro w hSw; have hSw1 := hSw.1; go_simp; (first | done | with_reducible rfl))); try simp only [Act.put, List.setIfInBounds_toArray, List.set_cons_zero, List.set_cons_succ])
            (refine wpAnyH_take (i := 5) (oi := { dst := some 120, op := Op.fieldAddr 76 (Operand.tmp 119) 13, type := 0, pos := _, after := #[{ on := 4, ground := Ground.data }], guard := none }) (v := ?_) rfl (by kernel_rfl) (by kernel_rfl) (by kernel_rfl) (fun _ _ _ h => h) (Or.inl ⟨by rfl, ?_⟩) (by assumption) ?_; rotate_left 1; (focus (intro w hSw; have hSw1 := hSw.1; go_simp; (first | done | with_reducible rfl))); try simp only [Act.put, List.setIfInBounds_toArray, List.set_cons_zero, List.set_cons_succ])
            (refine wpAnyH_take (i := 6) (oi := { dst := some 121, op := Op.load 72 (Operand.tmp 120), type := 72, pos := _, after := #[{ on := 5, ground := Ground.data }], guard := none }) (v := ?_) rfl (by kernel_rfl) (by kernel_rfl) (by kernel_rfl) (fun _ _ _ h => h) (Or.inl ⟨by rfl, ?_⟩) (by assumption) ?_; rotate_left 1; (focus (intro w hSw; have hSw1 := hSw.1; go_simp; (first | done | with_reducible rfl))); try simp only [Act.put, List.setIfInBounds_toArray, List.set_cons_zero, List.set_cons_succ])
            (refine wpAnyH_take (i := 7) (oi := { dst := some 122, op := Op.load 121 (Operand.tmp 10), type := 121, pos := _, after := #[], guard := none }) (v := ?_) rfl (by kernel_rfl) (by kernel_rfl) (by kernel_rfl) (fun _ _ _ h => h) (Or.inl ⟨by rfl, ?_⟩) (by assumption) ?_; rotate_left 1; (focus (intro w hSw; have hSw1 := hSw.1; go_simp; (first | done | with_reducible rfl))); try simp only [Act.put, List.setIfInBounds_toArray, List.set_cons_zero, List.set_cons_succ])
            (refine wpAnyH_take (i := 8) (oi := { dst := some 123, op := Op.nilCheck (Operand.tmp 122), type := 0, pos := _, after := #[{ on := 7, ground := Ground.data }], guard := none }) (v := ?_) rfl (by kernel_rfl) (by kernel_rfl) (by kernel_rfl) (fun _ _ _ h => h) (Or.inl ⟨by rfl, ?_⟩) (by assumption) ?_; rotate_left 1; (focus (intro w hSw; have hSw1 := hSw.1; go_simp; (first | done | with_reducible rfl))); try simp only [Act.put, List.setIfInBounds_toArray, List.set_cons_zero, List.set_cons_succ])
            (refine wpAnyH_take (i := 9) (oi := { dst := some 124, op := Op.fieldAddr 82 (Operand.tmp 123) 0, type := 0, pos := _, after := #[{ on := 8, ground := Ground.data }], guard := none }) (v := ?_) rfl (by kernel_rfl) (by kernel_rfl) (by kernel_rfl) (fun _ _ _ h => h) (Or.inl ⟨by rfl, ?_⟩) (by assumption) ?_; rotate_left 1; (focus (intro w hSw; have hSw1 := hSw.1; go_simp; (first | done | with_reducible rfl))); try simp only [Act.put, List.setIfInBounds_toArray, List.set_cons_zero, List.set_cons_succ])
            (refine wpAnyH_take (i := 10) (oi := { dst := some 125, op := Op.load 3 (Operand.tmp 124), type := 3, pos := _, after := #[{ on := 9, ground := Ground.data }], guard := none }) (v := ?_) rfl (by kernel_rfl) (by kernel_rfl) (by kernel_rfl) (fun _ _ _ h => h) (Or.inl ⟨by rfl, ?_⟩) (by assumption) ?_; rotate_left 1; (focus (intro w hSw; have hSw1 := hSw.1; go_simp; (first | done | with_reducible rfl))); try simp only [Act.put, List.setIfInBounds_toArray, List.set_cons_zero, List.set_cons_succ])
            (refine wpAnyH_take (i := 11) (oi := { dst := some 126, op := Op.indexAddr 72 (Operand.tmp 121) (Operand.tmp 125), type := 0, pos := _, after := #[{ on := 6, ground := Ground.data }, { on := 10, ground := Ground.data }], guard := none }) (v := ?_) rfl (by kernel_rfl) (by kernel_rfl) (by kernel_rfl) (fun _ _ _ h => h) (Or.inl ⟨by rfl, ?_⟩) (by assumption) ?_; rotate_left 1; (focus (intro w hSw; have hSw1 := hSw.1; go_simp; (first | done | with_reducible rfl))); try simp only [Act.put, List.setIfInBounds_toArray, List.set_cons_zero, List.set_cons_succ])
            (refine wpAnyH_take (i := 12) (oi := { dst := some 127, op := Op.fieldAddr 71 (Operand.tmp 126) 1, type := 0, pos := _, after := #[{ on := 11, ground := Ground.data }], guard := none }) (v := ?_) rfl (by kernel_rfl) (by kernel_rfl) (by kernel_rfl) (fun _ _ _ h => h) (Or.inl ⟨by rfl, ?_⟩) (by assumption) ?_; rotate_left 1; (focus (intro w hSw; have hSw1 := hSw.1; go_simp; (first | done | with_reducible rfl))); try simp only [Act.put, List.setIfInBounds_toArray, List.set_cons_zero, List.set_cons_succ])
            (refine wpAnyH_take (i := 13) (oi := { dst := some 128, op := Op.load 46 (Operand.tmp 127), type := 46, pos := _, after := #[{ on := 12, ground := Ground.data }], guard := none }) (v := ?_) rfl (by kernel_rfl) (by kernel_rfl) (by kernel_rfl) (fun _ _ _ h => h) (Or.inl ⟨by rfl, ?_⟩) (by assumption) ?_; rotate_left 1; (focus (intro w hSw; have hSw1 := hSw.1; go_simp; (first | done | with_reducible rfl))); try simp only [Act.put, List.setIfInBounds_toArray, List.set_cons_zero, List.set_cons_succ])
            (refine wpAnyH_take (i := 14) (oi := { dst := some 129, op := Op.load 121 (Operand.tmp 10), type := 121, pos := _, after := #[], guard := none }) (v := ?_) rfl (by kernel_rfl) (by kernel_rfl) (by kernel_rfl) (fun _ _ _ h => h) (Or.inl ⟨by rfl, ?_⟩) (by assumption) ?_; rotate_left 1; (focus (intro w hSw; have hSw1 := hSw.1; go_simp; (first | done | with_reducible rfl))); try simp only [Act.put, List.setIfInBounds_toArray, List.set_cons_zero, List.set_cons_succ])
            (refine wpAnyH_take (i := 15) (oi := { dst := some 130, op := Op.nilCheck (Operand.tmp 129), type := 0, pos := _, after := #[{ on := 14, ground := Ground.data }], guard := none }) (v := ?_) rfl (by kernel_rfl) (by kernel_rfl) (by kernel_rfl) (fun _ _ _ h => h) (Or.inl ⟨by rfl, ?_⟩) (by assumption) ?_; rotate_left 1; (focus (intro w hSw; have hSw1 := hSw.1; go_simp; (first | done | with_reducible rfl))); try simp only [Act.put, List.setIfInBounds_toArray, List.set_cons_zero, List.set_cons_succ])
            (refine wpAnyH_take (i := 16) (oi := { dst := some 131, op := Op.fieldAddr 82 (Operand.tmp 130) 1, type := 0, pos := _, after := #[{ on := 15, ground := Ground.data }], guard := none }) (v := ?_) rfl (by kernel_rfl) (by kernel_rfl) (by kernel_rfl) (fun _ _ _ h => h) (Or.inl ⟨by rfl, ?_⟩) (by assumption) ?_; rotate_left 1; (focus (intro w hSw; have hSw1 := hSw.1; go_simp; (first | done | with_reducible rfl))); try simp only [Act.put, List.setIfInBounds_toArray, List.set_cons_zero, List.set_cons_succ])
            (refine wpAnyH_take (i := 17) (oi := { dst := some 132, op := Op.load 3 (Operand.tmp 131), type := 3, pos := _, after := #[{ on := 16, ground := Ground.data }], guard := none }) (v := ?_) rfl (by kernel_rfl) (by kernel_rfl) (by kernel_rfl) (fun _ _ _ h => h) (Or.inl ⟨by rfl, ?_⟩) (by assumption) ?_; rotate_left 1; (focus (intro w hSw; have hSw1 := hSw.1; go_simp; (first | done | with_reducible rfl))); try simp only [Act.put, List.setIfInBounds_toArray, List.set_cons_zero, List.set_cons_succ])
            (refine wpAnyH_take (i := 18) (oi := { dst := some 133, op := Op.binOp BinOp.add 3 (Operand.tmp 132) (Operand.const (Value.int IntKind.i64 1)) 3, type := 3, pos := _, after := #[{ on := 17, ground := Ground.data }], guard := none }) (v := ?_) rfl (by kernel_rfl) (by kernel_rfl) (by kernel_rfl) (fun _ _ _ h => h) (Or.inl ⟨by rfl, ?_⟩) (by assumption) ?_; rotate_left 1; (focus (intro w hSw; have hSw1 := hSw.1; go_simp; (first | done | with_reducible rfl))); try simp only [Act.put, List.setIfInBounds_toArray, List.set_cons_zero, List.set_cons_succ])
            (refine wpAnyH_ready (rs := [19, 20]) (by kernel_rfl) (by simp) ?_; refine AllReadyH.cons (o := { dst := some 134, op := Op.slice 46 (Operand.tmp 128) (some (Operand.tmp 133)) none none, type := 46, pos := _, after := #[{ on := 13, ground := Ground.data }, { on := 18, ground := Ground.data }], guard := none }) rfl (fun K hK => ?_) (AllReadyH.cons (o := { dst := some 20, op := Op.alloc 46, type := 0, pos := _, after := #[], guard := none }) rfl (fun K hK => ?_) AllReadyH.nil))
            (go_simp; refine hK.out _ _ (by first | exact FR.start _ | assumption | (refine FR.of ?_; first | exact ((Below.refl _ _).alloc (Nat.le_refl _) _).drew | exact (((Below.refl _ _).alloc (Nat.le_refl _) _).setCell (by simp) _).drew)) (fun h1 => ?_); clear hK K; try simp only [Act.put, List.setIfInBounds_toArray, List.set_cons_zero, List.set_cons_succ])
            (refine wpAnyH_ready (rs := [20]) (by kernel_rfl) (by simp) ?_; refine AllReadyH.cons (o := { dst := some 20, op := Op.alloc 46, type := 0, pos := _, after := #[], guard := none }) rfl (fun K hK => ?_) AllReadyH.nil)
            (go_simp; refine hK.out _ _ (by first | exact FR.start _ | assumption | (refine FR.of ?_; first | exact ((Below.refl _ _).alloc (Nat.le_refl _) _).drew | exact (((Below.refl _ _).alloc (Nat.le_refl _) _).setCell (by simp) _).drew)) (fun h2 => ?_); clear hK K; try simp only [Act.put, List.setIfInBounds_toArray, List.set_cons_zero, List.set_cons_succ])
            rotate_left 1
            (go_simp; refine hK.out _ _ (by first | exact FR.start _ | assumption | (refine FR.of ?_; first | exact ((Below.refl _ _).alloc (Nat.le_refl _) _).drew | exact (((Below.refl _ _).alloc (Nat.le_refl _) _).setCell (by simp) _).drew)) (fun h1 => ?_); clear hK K; try simp only [Act.put, List.setIfInBounds_toArray, List.set_cons_zero, List.set_cons_succ])
            (refine wpAnyH_ready (rs := [19]) (by kernel_rfl) (by simp) ?_; refine AllReadyH.cons (o := { dst := some 134, op := Op.slice 46 (Operand.tmp 128) (some (Operand.tmp 133)) none none, type := 46, pos := _, after := #[{ on := 13, ground := Ground.data }, { on := 18, ground := Ground.data }], guard := none }) rfl (fun K hK => ?_) AllReadyH.nil)
            (go_simp; refine hK.out _ _ (by first | exact FR.start _ | assumption | (refine FR.of ?_; first | exact ((Below.refl _ _).alloc (Nat.le_refl _) _).drew | exact (((Below.refl _ _).alloc (Nat.le_refl _) _).setCell (by simp) _).drew)) (fun h2 => ?_); clear hK K; try simp only [Act.put, List.setIfInBounds_toArray, List.set_cons_zero, List.set_cons_succ])
            all_goals
              (refine wpAnyH_ready (rs := [21]) (by kernel_rfl) (by simp) ?_; refine AllReadyH.cons rfl (fun K hK => ?_) AllReadyH.nil)
              (go_simp; refine hK.out _ _ (by first | exact FR.start _ | assumption | (refine FR.of ?_; first | exact ((Below.refl _ _).alloc (Nat.le_refl _) _).drew | exact (((Below.refl _ _).alloc (Nat.le_refl _) _).setCell (by simp) _).drew)) (fun h3 => ?_); clear hK K; try simp only [Act.put, List.setIfInBounds_toArray, List.set_cons_zero, List.set_cons_succ])
              refine wpAnyH_done (by kernel_rfl) ?_ _
              refine NoPanic.normal ?_
              clear hHeld h1 h2
              have hE9 := h3
              clear h3
              have c0 := (bcell hBc).1 w.heap.size 0 (by omega)
              have c1 := (bcell hBc).1 w.heap.size 1 (by omega)
              have c2 := (bcell hBc).1 w.heap.size 2 (by omega)
              have c3 := (bcell hBc).1 w.heap.size 3 (by omega)
              rw [x0] at c0
              rw [x1] at c1
              rw [x2] at c2
              rw [x3] at c3
              have z4 : w.heap.size < wc.heap.size := by omega
              generalize (wc.alloc (.cells #[.slice (some ⟨bf, 0, none⟩) 0 0] 46)).drew = W2 at *
              have hBcW : Below w.heap.size w wc := hB1.trans (hBc.mono hB1.size)
              have hB2 := hE9.2.2
              have hb := (bcell hB2).1
              have hf := (bcell hB2).2
              have i1 := (hb (w.heap.size + 1) 0 (by omega)).trans cf0
              have i2 := (hb (w.heap.size + 1 + 1) 0 (by omega)).trans cf1
              have i3 := (hb (w.heap.size + 1 + 1 + 1) 0 z3).trans q9
              have j1 := (hf (w.heap.size + 1) 0 (by omega)).trans cf2
              have j2 := (hf (w.heap.size + 1 + 1) 0 (by omega)).trans cf3
              have d0 := (hb w.heap.size 0 z4).trans c0
              have d1 := (hb w.heap.size 1 z4).trans c1
              have d2 := (hb w.heap.size 2 z4).trans c2
              have d3 := (hb w.heap.size 3 z4).trans c3
              have z5 : w.heap.size + 1 + 1 + 1 < W2.heap.size := Nat.lt_of_lt_of_le z3 hB2.size
              have z6 : w.heap.size < W2.heap.size := by omega
              clear c0 c1 c2 c3 cf0 cf1 cf2 cf3 q9 e0 s13 q0 q1 a1 hb hf hE9
              go_wp2_with (go_at_call 21; refine (withRoom_any _ _ _ _ _ _).mono ?_; rintro e W4 ⟨rfl, rfl⟩)
              have hBwW2 : Below w.heap.size w W2 := hBcW.trans (hB2.mono hBcW.size)
              have hB5 : Below W2.heap.size W2 (((W2.alloc (.cells #[.int .i64 0, .int .i64 0, .int .i64 0, .int .i64 0] 128)).alloc (.cells #[.pointer (some ⟨be, 0, none⟩)] 68)).alloc (.cells #[.int .i64 k, .int .i64 cv, .int .i64 cs, .int .i64 L] 45)) := (((Below.refl _ _).alloc (Nat.le_refl _) _).alloc (by simp) _).alloc (by first | (simp; done) | (simp; omega)) _
              refine wpIn_wide.1 (loop_any _ _ _ _ _ _ _ _ _ _ _ _ _ _ _ _ _ _ _ _ _ _ _ _ _ _ _ _ _ _ _ _ _ _ _ _ _ _ _ _ _ _ _ _ _ _ _ _ _ _ _ _ _ _ _ _ _ _ _ _ _ _ _ _ _ _ _ _ _ _ _ _ _ _ _ _ _ _ _ _ _ _ _ _ _ _ _ _ _ _ _ _ _ _ _ _ _ _ _ _ _ _ _ _ _ _ _ _ _ _ _ _ _ _ _ _ _ _ _ _ _ _ _ _ _ _ _ _ _ _ _ _ _ _ _ _ _ _ _ _ _ _ _ _ _ _ _ _ _ _ _ _ _ _ _ _ _ _ _ _ _ _ _ _ _ _ _ _ w.heap.size W2.heap.size (W2.heap.size + 1) (W2.heap.size + 1 + 1) be bsn ba bf bn bp bq bj br bc bd N m hd req v s k cv cs L hN w _ (fun W' hb => E.below hb) (Nat.le_refl _) (by omega) (by omega) (by omega) (by simp) (by simp) (LI.first hBwW2 (by omega) i1 i2 i3 j1 j2) (by simp [World.cell?_alloc_past, World.cell?_alloc_at]) (by simp [World.cell?_alloc_at]) (by simp [World.cell?_alloc_at]) (by simp [World.cell?_alloc_at]) (by simp [World.cell?_alloc_at]) _ ?_)
              rintro D W hD hI hK
              have hDn : w.heap.size ≤ D := by (have h8 := hBwW2.size); simp at hD; omega
              have g1 := hI.best
              have g2 := hI.ok
              have h1 := hI.fbest
              have h2 := hI.fok
              have hBw := hI.below
              go_wp2
              have hpk := pk_pick cv cs v s N
              generalize pk v s (roomy cv cs v s N) = pkv at *
              obtain ⟨ok, best, bs, bv⟩ := pkv
              dsimp only at g1 g2 hpk
              refine wp_region_noPanic ?_
              refine wp_region_held_drew (S := fun w' => w'.cell? ⟨w.heap.size + 1, 0, none⟩ = some (.int .i64 best) ∧ w'.cell? ⟨w.heap.size + 2, 0, none⟩ = some (.bool ok)) (by kernel_rfl) ⟨g1, g2⟩ (fun hHeld => ?_)
              (refine wpAnyH_take (i := 0) (oi := { dst := some 171, op := Op.load 3 (Operand.tmp 8), type := 3, pos := _, after := #[], guard := none }) (v := ?_) rfl (by kernel_rfl) (by kernel_rfl) (by kernel_rfl) (fun _ _ _ h => h) (Or.inl ⟨by rfl, ?_⟩) (by assumption) ?_; rotate_left 1; (focus (intro w hSw; have hSw1 := hSw.1; go_simp; (first | done | with_reducible rfl))); try simp only [Act.put, List.setIfInBounds_toArray, List.set_cons_zero, List.set_cons_succ])
              (refine wpAnyH_take (i := 1) (oi := { dst := some 172, op := Op.load 4 (Operand.tmp 9), type := 4, pos := _, after := #[], guard := none }) (v := ?_) rfl (by kernel_rfl) (by kernel_rfl) (by kernel_rfl) (fun _ _ _ h => h) (Or.inl ⟨by rfl, ?_⟩) (by assumption) ?_; rotate_left 1; (focus (intro w hSw; have hSw1 := hSw.2; go_simp; (first | done | with_reducible rfl))); try simp only [Act.put, List.setIfInBounds_toArray, List.set_cons_zero, List.set_cons_succ])
              (refine wpAnyH_ready (rs := [2]) (by kernel_rfl) (by simp) ?_; refine AllReadyH.cons (o := { dst := none, op := Op.store 3 (Operand.tmp 8) (Operand.tmp 171), type := 0, pos := _, after := #[{ on := 0, ground := Ground.data }, { on := 0, ground := Ground.phase }, { on := 1, ground := Ground.textOnly Departure.inlinedCapture }], guard := none }) rfl (fun K hK => ?_) AllReadyH.nil)
              (go_simp; refine hK.out _ _ ⟨(cell_drew_own _ _).trans (put_cell g1), (cell_drew_own _ _).trans ((put_other (by omega)).trans g2)⟩ (fun h5 => ?_); clear hK K; try simp only [Act.put, List.setIfInBounds_toArray, List.set_cons_zero, List.set_cons_succ])
              (refine wpAnyH_ready (rs := [3]) (by kernel_rfl) (by simp) ?_; refine AllReadyH.cons (o := { dst := none, op := Op.store 4 (Operand.tmp 9) (Operand.tmp 172), type := 0, pos := _, after := #[{ on := 1, ground := Ground.data }, { on := 2, ground := Ground.chain }, { on := 0, ground := Ground.phase }, { on := 1, ground := Ground.phase }, { on := 2, ground := Ground.phase }], guard := none }) rfl (fun K hK => ?_) AllReadyH.nil)
              go_simp
              refine hK.out _ _ ?hS3 (fun h6 => ?_)
              case hS3 => exact ⟨(cell_drew_own _ _).trans ((put_other (by omega)).trans (put_cell g1)), (cell_drew_own _ _).trans (put_cell ((put_other (by omega)).trans g2))⟩
              clear hK K
              try simp only [Act.put, List.setIfInBounds_toArray, List.set_cons_zero, List.set_cons_succ]
              refine wpAnyH_done (by kernel_rfl) ?_ _
              refine NoPanic.normal ?_
              go_wp2
              have hK9 : ((W.setCell ⟨w.heap.size + 1, 0, none⟩ (.int .i64 best)).setCell ⟨w.heap.size + 2, 0, none⟩ (.bool ok)).drew.heap[D]? = some (.deferred (some [])) := ((KeepsOthers.setCell W ⟨w.heap.size + 1, 0, none⟩ (.int .i64 best)).trans (KeepsOthers.setCell _ ⟨w.heap.size + 2, 0, none⟩ (.bool ok))).same D _ hK rfl
              have hB9 : Below w.heap.size w ((W.setCell ⟨w.heap.size + 1, 0, none⟩ (.int .i64 best)).setCell ⟨w.heap.size + 2, 0, none⟩ (.bool ok)).drew := ((hBw.setCell (p := ⟨w.heap.size + 1, 0, none⟩) (by simp) _).setCell (p := ⟨w.heap.size + 2, 0, none⟩) (by simp) _).drew
              generalize ((W.setCell ⟨w.heap.size + 1, 0, none⟩ (.int .i64 best)).setCell ⟨w.heap.size + 2, 0, none⟩ (.bool ok)).drew = W9 at *
              refine ⟨by simp, .inl ⟨_, _, rfl, run_takeDeferred hK9, ?_⟩⟩
              have k1 := cell_kept h6.1 (grownBy_putObj' _ D (.deferred none)) (fun r e => by cases e; exact ⟨_, hK9, rfl⟩)
              have k2 := cell_kept h6.2 (grownBy_putObj' _ D (.deferred none)) (fun r e => by cases e; exact ⟨_, hK9, rfl⟩)
              refine ⟨.tuple #[.int .i64 best, .bool ok], ?_, ?_, ?_⟩
              · simp [results, Yba.results18, go_sem, k1, k2]
              · rw [HANS.out]
                split at hpk
                · rename_i h9; rw [if_pos h9]; cases hpk; rfl
                · rename_i h9; rw [if_neg h9]; cases hpk; rfl
              · exact hB9.grown (grownBy_putObj' _ D (.deferred none)) hB9.size (fun k e => by cases e; exact hDn)

end Go.Proofs.Ybulkjqw
