/-
  OWN WORK: the walk of unlink.
-/
import Derived.Test.YbulkjrkV15
namespace Go.Proofs.Ybulkjrk
open Go.RowKit
set_option linter.unusedSimpArgs false
set_option linter.unusedVariables false

section
variable {S : Sid} {ex : Nat → Nat → Value} {s0 : Value}
set_option maxRecDepth 100000 in
set_option maxHeartbeats 4000000 in
theorem unlink_any {W : World} {σ : Sd} {L R : List Nat} {x : Nat} (h : Rep S (· ∈ L ++ x :: R) ex s0 W σ) (hG : Good σ (L ++ x :: R)) (hlen : (L ++ x :: R).length < 2 ^ 20) :
    Calls Yba.prog 10 #[.pointer (some ⟨S.b, S.o, none⟩), .pointer (some ⟨x, 0, none⟩)] W fun e w' => e = .returned (.tuple #[]) ∧ ∃ σ', Rep S (· ∈ L ++ R) ex s0 w' σ' ∧ Kp S (· ∈ L ++ x :: R) W w' ∧ Good σ' (L ++ R) ∧ σ'.price = σ.price := by
  have hw0 : IntKind.i64.wrap 0 = 0 := by rfl
  have hw1 : IntKind.i64.wrap 1 = 1 := by rfl
  have nd := hG.nd
  obtain ⟨nL, nxR, nLR⟩ := List.nodup_append.1 nd
  obtain ⟨hxR, nR⟩ := List.nodup_cons.1 nxR
  have hxL : x ∉ L := fun h => nLR x h x (by simp) rfl
  have hxm : x ∈ L ++ x :: R := by simp
  obtain ⟨e0, e1⟩ := hG.chain.1 L x R rfl
  have hfm : ∀ f, σ.nx x false = some f → f ∈ L ++ x :: R ∧ f ≠ x := fun f hf => by
    rw [e0] at hf; have := last_mem hf; exact ⟨by simp [this], fun e => hxL (e ▸ this)⟩
  have hgm : ∀ g, σ.nx x true = some g → g ∈ L ++ x :: R ∧ g ≠ x := fun g hg => by
    rw [e1] at hg; have := head_mem hg; exact ⟨by simp [this], fun e => hxR (e ▸ this)⟩
  obtain ⟨s1, hs1⟩ : ∃ s1, s1 = (match σ.nx x false with
    | some f => setNx σ f true (σ.nx x true)
    | none => setEnd σ false (σ.nx x true)) := ⟨_, rfl⟩
  have hsA : offNx σ x = (match σ.nx x true with
    | some g => setNx s1 g false (σ.nx x false)
    | none => setEnd s1 true (σ.nx x false)) := by rw [hs1]; rfl
  have n1 : ∀ e, s1.nx x e = σ.nx x e := fun e => by
    rw [hs1]
    cases hf : σ.nx x false with
    | none => rfl
    | some f => exact up2_ne _ _ _ _ (Ne.symm (hfm f hf).2)
  have HS1 := hide hs1
  have HSA := hide hsA
  clear hs1 hsA
  have hxS := h.ne x hxm
  have HG := hide (And.intro hG (And.intro nd (And.intro e0 e1)))
  clear hG nd nL nxR nLR nR hxL hxR e0 e1
  go_enter Yba.func10, Yba.ntmps10
  go_wp2
  go_loopw [4] (fun wv ws => ∃ k : Nat, k ≤ 2 ∧ wv = .int .i64 k ∧ Rep S (· ∈ L ++ x :: R) ex s0 ws (if k = 0 then σ else if k = 1 then s1 else offNx σ x) ∧ Kp S (· ∈ L ++ x :: R) W ws) (fun wv _ => 3 - (intOf wv).toNat)
  case atStart => exact ⟨0, by omega, rfl, h, Kp.refl _ _ _⟩
  case round =>
    obtain ⟨k, hk, rfl, hR, hK⟩ := hrel
    rcases (by omega : k = 0 ∨ k = 1 ∨ k = 2) with rfl | rfl | rfl
    · simp only [if_true] at hR
      have c4 := hR.cell x hxm 4 (by omega)
      have c5 := hR.cell x hxm 5 (by omega)
      simp only [lv, ptr] at c4 c5
      cases hf : σ.nx x false with
      | none =>
        rw [hf] at c4
        simp only [Option.map_none] at c4
        have ce := hR.side 2 (by omega)
        have fe := hR.sfz (S.o + 2)
        have R1 : Rep S (· ∈ L ++ x :: R) ex s0 (wr.setCell ⟨S.b, S.o + 2, none⟩ (.pointer (Option.map (fun b => ⟨b, 0, none⟩) (σ.nx x true)))) s1 := by rw [HS1.out, hf]; exact hR.setEnd false (σ.nx x true)
        have K1 : Kp S (· ∈ L ++ x :: R) W (wr.setCell ⟨S.b, S.o + 2, none⟩ (.pointer (Option.map (fun b => ⟨b, 0, none⟩) (σ.nx x true)))) := hK.setS 2 (by omega) _
        go_wp2
        go_region_held3 (fun w' => w'.cell? ⟨x, 5, none⟩ = some (.pointer (Option.map (fun b => ⟨b, 0, none⟩) (σ.nx x true))))
          (first | exact c5 | exact (oth (b := S.b) (o := S.o + 2) (b' := x) (o' := 5) (.inl (by first | exact hR.ne x hxm | exact (hR.ne x hxm).symm))).trans c5) (fail)
        go_wp2
        go_roundw
        case rel => exact ⟨1, by omega, by go_num, R1.drew, K1.drew⟩
        case measure => simp [intOf]
      | some f =>
        obtain ⟨hfD, hfx⟩ := hfm f hf
        rw [hf] at c4
        simp only [Option.map_some] at c4
        have ce := hR.cell f hfD 5 (by omega)
        have fe := hR.fz f hfD 5
        have R1 : Rep S (· ∈ L ++ x :: R) ex s0 (wr.setCell ⟨f, 5, none⟩ (.pointer (Option.map (fun b => ⟨b, 0, none⟩) (σ.nx x true)))) s1 := by rw [HS1.out, hf]; exact hR.setNx hfD true (σ.nx x true)
        have K1 : Kp S (· ∈ L ++ x :: R) W (wr.setCell ⟨f, 5, none⟩ (.pointer (Option.map (fun b => ⟨b, 0, none⟩) (σ.nx x true)))) := hK.set hfD 5 _
        go_wp2
        go_region_held3 (fun w' => w'.cell? ⟨x, 5, none⟩ = some (.pointer (Option.map (fun b => ⟨b, 0, none⟩) (σ.nx x true))))
          (first | exact c5 | exact (oth (b := f) (o := 5) (b' := x) (o' := 5) (.inl hfx)).trans c5) (fail)
        go_wp2
        go_roundw
        case rel => exact ⟨1, by omega, by go_num, R1.drew, K1.drew⟩
        case measure => simp [intOf]
    · simp only [Nat.one_ne_zero, if_false, if_true] at hR
      have c4 := hR.cell x hxm 4 (by omega)
      have c5 := hR.cell x hxm 5 (by omega)
      simp only [lv, ptr, n1] at c4 c5
      cases hg : σ.nx x true with
      | none =>
        rw [hg] at c5
        simp only [Option.map_none] at c5
        have ce := hR.side 3 (by omega)
        have fe := hR.sfz (S.o + 3)
        have R1 : Rep S (· ∈ L ++ x :: R) ex s0 (wr.setCell ⟨S.b, S.o + 3, none⟩ (.pointer (Option.map (fun b => ⟨b, 0, none⟩) (σ.nx x false)))) (offNx σ x) := by rw [HSA.out, hg]; exact hR.setEnd true (σ.nx x false)
        have K1 : Kp S (· ∈ L ++ x :: R) W (wr.setCell ⟨S.b, S.o + 3, none⟩ (.pointer (Option.map (fun b => ⟨b, 0, none⟩) (σ.nx x false)))) := hK.setS 3 (by omega) _
        go_wp2
        go_region_held3 (fun w' => w'.cell? ⟨x, 4, none⟩ = some (.pointer (Option.map (fun b => ⟨b, 0, none⟩) (σ.nx x false))))
          (first | exact c4 | exact (oth (b := S.b) (o := S.o + 3) (b' := x) (o' := 4) (.inl (by first | exact hR.ne x hxm | exact (hR.ne x hxm).symm))).trans c4) (fail)
        go_wp2
        go_roundw
        case rel => exact ⟨2, by omega, by go_num, R1.drew, K1.drew⟩
        case measure => simp [intOf]
      | some g =>
        obtain ⟨hgD, hgx⟩ := hgm g hg
        rw [hg] at c5
        simp only [Option.map_some] at c5
        have ce := hR.cell g hgD 4 (by omega)
        have fe := hR.fz g hgD 4
        have R1 : Rep S (· ∈ L ++ x :: R) ex s0 (wr.setCell ⟨g, 4, none⟩ (.pointer (Option.map (fun b => ⟨b, 0, none⟩) (σ.nx x false)))) (offNx σ x) := by rw [HSA.out, hg]; exact hR.setNx hgD false (σ.nx x false)
        have K1 : Kp S (· ∈ L ++ x :: R) W (wr.setCell ⟨g, 4, none⟩ (.pointer (Option.map (fun b => ⟨b, 0, none⟩) (σ.nx x false)))) := hK.set hgD 4 _
        go_wp2
        go_region_held3 (fun w' => w'.cell? ⟨x, 4, none⟩ = some (.pointer (Option.map (fun b => ⟨b, 0, none⟩) (σ.nx x false))))
          (first | exact c4 | exact (oth (b := g) (o := 4) (b' := x) (o' := 4) (.inl hgx)).trans c4) (fail)
        go_wp2
        go_roundw
        case rel => exact ⟨2, by omega, by go_num, R1.drew, K1.drew⟩
        case measure => simp [intOf]
    · simp only [show ¬ (2 : Nat) = 0 from by omega, show ¬ (2 : Nat) = 1 from by omega, if_false] at hR
      obtain ⟨hG, nd, e0, e1⟩ := HG.out
      obtain ⟨oc, opr, oh, ort, opc⟩ := offNx_tree σ x
      obtain ⟨hchA, hnxA⟩ := offNx_chain hG.chain nd
      obtain ⟨hT, tr⟩ := hG.tree
      have trA : Tree (offNx σ x) none (offNx σ x).root (L ++ x :: R) hT := by
        rw [ort]; exact tr.frame (fun y _ => ⟨by rw [oc], by rw [opr], by rw [oh]⟩)
      have hCA := trA.clAll nd
      have nA : (offNx σ x).nx x false = L.getLast? := by rw [hnxA]; exact e0
      have c4 := hR.cell x hxm 4 (by omega)
      have c6 := hR.cell x hxm 6 (by omega)
      have c7 := hR.cell x hxm 7 (by omega)
      have c8 := hR.cell x hxm 8 (by omega)
      have c9 := hR.cell x hxm 9 (by omega)
      simp only [lv] at c4 c6 c7 c8 c9
      rw [nA] at c4
      obtain ⟨sA, hsA⟩ : ∃ sA, sA = offNx σ x := ⟨_, rfl⟩
      rw [← hsA] at hR trA hCA c6 c7 c8 c9
      have hnx : sA.nx = (offNx σ x).nx := by rw [hsA]
      have hen : sA.ends = (offNx σ x).ends := by rw [hsA]
      have hpr : sA.price = σ.price := by rw [hsA]; exact opc
      have HX := hide (And.intro hG (And.intro nd (And.intro trA (And.intro hCA (And.intro hnx (And.intro hen hpr))))))
      clear hsA hG nd e0 e1 oc opr oh ort opc hchA hnxA tr trA hCA nA hnx hen hpr HG HS1 HSA hfm hgm n1
      generalize wr = WA at *
      cases hlo : sA.ch x false with
      | none =>
        rw [hlo] at c7
        have c7' : WA.cell? ⟨x, 7, none⟩ = some (.pointer none) := c7
        have hoff := fun c (hc : sA.ch x (!false) = c) => off_one (d := false) HX.out.2.2.1 HX.out.2.1 hlo hc
        have hrep := replace_any x (sA.ch x true) hR hxm (fun b e => ((HX.out.2.2.2.1 x hxm).1 _ b e).1) (fun b e => (HX.out.2.2.2.1 x hxm).2 b e) (fun p e l e' => ((HX.out.2.2.2.1 p ((HX.out.2.2.2.1 x hxm).2 p e)).1 _ l e').1)
        have hoff2 := hoff (sA.ch x true) rfl
        obtain ⟨q1, q2, q3⟩ := repl_rest sA x (sA.ch x true)
        clear hoff c7
        cases hp : sA.par x with
        | none =>
          rw [hp] at c6 hoff2
          have c6' : WA.cell? ⟨x, 6, none⟩ = some (.pointer none) := c6
          clear c6
          go_wp2_with
            (first
              | (go_at_call 22; refine hrep.mono ?_; rintro e w2 ⟨rfl, R2, K2⟩)
              | (go_at_call 23; refine (rebalance_nil _).mono ?_; rintro e w3 ⟨rfl, rfl⟩))
          go_end0
          obtain ⟨h', t'⟩ := hoff2
          obtain ⟨z1, z2⟩ := off_end0 HX.out.1 R2 t' (q1.trans HX.out.2.2.2.2.1) (q2.trans HX.out.2.2.2.2.2.2) (q3.trans HX.out.2.2.2.2.2.1)
          exact ⟨rfl, _, z1, hK.trans K2, z2, q2.trans HX.out.2.2.2.2.2.2⟩
        | some q =>
          rw [hp] at c6 hoff2
          have c6' : WA.cell? ⟨x, 6, none⟩ = some (.pointer (some ⟨q, 0, none⟩)) := c6
          clear c6
          obtain ⟨m, l', L', R', rb, hl', hqm⟩ := hoff2
          go_wp2_with
            (first
              | (go_at_call 22; refine hrep.mono ?_; rintro e w2 ⟨rfl, R2, K2⟩)
              | (go_at_call 23; refine (off_end HX.out.1 hlen R2 rb hl' (q1.trans HX.out.2.2.2.2.1) (q2.trans HX.out.2.2.2.2.2.2) (q3.trans HX.out.2.2.2.2.2.1)).mono ?_; rintro e w3 ⟨rfl, σ9, z1, z2, z3, z4⟩))
          go_end0
          exact ⟨rfl, σ9, z1, (hK.trans K2).trans z2, z3, z4⟩
      | some a =>
        rw [hlo] at c7
        have c7' : WA.cell? ⟨x, 7, none⟩ = some (.pointer (some ⟨a, 0, none⟩)) := c7
        clear c7
        cases hhi : sA.ch x true with
        | none =>
          rw [hhi] at c8
          have c8' : WA.cell? ⟨x, 8, none⟩ = some (.pointer none) := c8
          have hoff2 := off_one (d := true) (c := some a) HX.out.2.2.1 HX.out.2.1 hhi hlo
          have hrep : Calls Yba.prog 22 #[.pointer (some ⟨S.b, S.o, none⟩), .pointer (some ⟨x, 0, none⟩), .pointer (some ⟨a, 0, none⟩)] WA _ := replace_any x (some a) hR hxm (fun b e => ((HX.out.2.2.2.1 x hxm).1 _ b (hlo.trans e)).1) (fun b e => (HX.out.2.2.2.1 x hxm).2 b e) (fun p e l e' => ((HX.out.2.2.2.1 p ((HX.out.2.2.2.1 x hxm).2 p e)).1 _ l e').1)
          obtain ⟨q1, q2, q3⟩ := repl_rest sA x (some a)
          clear c8
          cases hp : sA.par x with
          | none =>
            rw [hp] at c6 hoff2
            have c6' : WA.cell? ⟨x, 6, none⟩ = some (.pointer none) := c6
            clear c6
            go_wp2_with
              (first
                | (go_at_call 22; refine hrep.mono ?_; rintro e w2 ⟨rfl, R2, K2⟩)
                | (go_at_call 23; refine (rebalance_nil _).mono ?_; rintro e w3 ⟨rfl, rfl⟩))
            go_end0
            obtain ⟨h', t'⟩ := hoff2
            obtain ⟨z1, z2⟩ := off_end0 HX.out.1 R2 t' (q1.trans HX.out.2.2.2.2.1) (q2.trans HX.out.2.2.2.2.2.2) (q3.trans HX.out.2.2.2.2.2.1)
            exact ⟨rfl, _, z1, hK.trans K2, z2, q2.trans HX.out.2.2.2.2.2.2⟩
          | some q =>
            rw [hp] at c6 hoff2
            have c6' : WA.cell? ⟨x, 6, none⟩ = some (.pointer (some ⟨q, 0, none⟩)) := c6
            clear c6
            obtain ⟨m, l', L', R', rb, hl', hqm⟩ := hoff2
            go_wp2_with
              (first
                | (go_at_call 22; refine hrep.mono ?_; rintro e w2 ⟨rfl, R2, K2⟩)
                | (go_at_call 23; refine (off_end HX.out.1 hlen R2 rb hl' (q1.trans HX.out.2.2.2.2.1) (q2.trans HX.out.2.2.2.2.2.2) (q3.trans HX.out.2.2.2.2.2.1)).mono ?_; rintro e w3 ⟨rfl, σ9, z1, z2, z3, z4⟩))
            go_end0
            exact ⟨rfl, σ9, z1, (hK.trans K2).trans z2, z3, z4⟩
        | some b =>
          rw [hhi] at c8
          have c8' : WA.cell? ⟨x, 8, none⟩ = some (.pointer (some ⟨b, 0, none⟩)) := c8
          clear c8
          have hLne : L.getLast? ≠ none := fun e => by
            have hL0 : L = [] := List.getLast?_eq_none_iff.1 e
            subst hL0
            obtain ⟨m, Lx, Rx, l1, l2, g1, g2, r1, r2, r3, r4, r5, r6, r7⟩ := HX.out.2.2.1.focus (n := 1) (L := []) (R := []) (.inl ⟨rfl, rfl, rfl, rfl⟩) (x := x) (by simp)
            have r7' : [] ++ x :: R = (Lx ++ l1) ++ x :: (l2 ++ Rx) := by simpa using r7
            obtain ⟨eL, _⟩ := cut_uniq HX.out.2.1 r7'
            rw [hlo] at r2
            have := r2.mem
            have hl1 : l1 = [] := by simp at eL; exact eL.2
            rw [hl1] at this; simp at this
          obtain ⟨n, hn⟩ := Option.ne_none_iff_exists'.1 hLne
          rw [hn] at c4
          have c4' : WA.cell? ⟨x, 4, none⟩ = some (.pointer (some ⟨n, 0, none⟩)) := c4
          clear c4 hLne
          obtain ⟨q, hq, hct, hnL, hbm, hbn, hbx, hxn, hpx, hkids, h2⟩ := off_two HX.out.2.2.1 HX.out.2.1 hlo hhi hn
          have hsub : ∀ y, y ∈ L ++ R → y ∈ L ++ x :: R := fun y hy => by simp at hy ⊢; rcases hy with h | h <;> simp [h]
          have hnD : n ∈ L ++ x :: R := by simp [hnL]
          have hbD := hsub b hbm
          have d6 := hR.cell n hnD 6 (by omega)
          simp only [lv] at d6
          rw [hq] at d6
          have d6' : WA.cell? ⟨n, 6, none⟩ = some (.pointer (some ⟨q, 0, none⟩)) := d6
          clear d6
          have d7 := hR.cell n hnD 7 (by omega)
          have d8 := hR.cell n hnD 8 (by omega)
          have d9 := hR.cell n hnD 9 (by omega)
          have b6 := hR.cell b hbD 6 (by omega)
          have fn7 := hR.fz n hnD 7
          have fn8 := hR.fz n hnD 8
          have fn9 := hR.fz n hnD 9
          have fb6 := hR.fz b hbD 6
          simp only [lv] at d7
          have hnx' : n ≠ x := Ne.symm hxn
          -- the last steps, from the side s on
          have last : ∀ s w4, Rep S (· ∈ L ++ x :: R) ex s0 w4 s → s.par x = sA.par x → (∀ k e, k ≠ n → sA.ch k e = some x → s.ch k e = sA.ch k e) → s.h x = sA.h x → True := fun _ _ _ _ _ _ => trivial
          clear last
          rcases h2 with ⟨rfl, m, l', L', R', rb, hl'⟩ | ⟨hqx, hqm, hqn, han, ham, hax, hab, m, l', L', R', rb, hl'⟩
          · -- n hangs from x
            have q0 := neq_same WA ⟨q, 0, none⟩
            obtain ⟨t1, t2, t3⟩ := takeOver_rest sA q n b
            have hR6 : Rep S (· ∈ L ++ q :: R) ex s0 (((WA.setCell ⟨n, 8, none⟩ (.pointer (some ⟨b, 0, none⟩))).drew.setCell ⟨b, 6, none⟩ (.pointer (some ⟨n, 0, none⟩))).setCell ⟨n, 9, none⟩ (.int .i8 (sA.h q))) (setH (setPar (setCh sA n true (some b)) b (some n)) n (sA.h q)) := (((hR.setCh hnD true (some b)).drew).setPar hbD (some n)).setH hnD (sA.h q)
            have hK6 : Kp S (· ∈ L ++ q :: R) W (((WA.setCell ⟨n, 8, none⟩ (.pointer (some ⟨b, 0, none⟩))).drew.setCell ⟨b, 6, none⟩ (.pointer (some ⟨n, 0, none⟩))).setCell ⟨n, 9, none⟩ (.int .i8 (sA.h q))) := (((hK.set hnD 8 _).drew).set hbD 6 _).set hnD 9 _
            go_wp2
            go_region_held3 (fun w' => w'.cell? ⟨q, 8, none⟩ = some (.pointer (some ⟨b, 0, none⟩))) (first | exact c8' | exact (oth (b := n) (o := 8) (b' := q) (o' := 8) (.inl hnx')).trans c8') (fail)
            have hU := (HX.out.2.2.1.kin HX.out.2.1)
            have p6 : (setH (setPar (setCh sA n true (some b)) b (some n)) n (sA.h q)).par q = sA.par q := up_ne _ _ _ (Ne.symm hbx)
            have hrep := replace_any q (some n) hR6 hxm (fun k e => by cases e; exact hnD) (fun k e => by rw [p6] at e; exact (HX.out.2.2.2.1 q hxm).2 k e) (fun p e l e' => by
              rw [p6] at e
              have hpn : p ≠ n := fun e9 => hpx (by rw [e, e9])
              have e9 : up2 sA.ch n true (some b) p false = some l := e'
              rw [up2_ne _ _ _ _ hpn] at e9
              exact ((HX.out.2.2.2.1 p ((HX.out.2.2.2.1 q hxm).2 p e)).1 _ l e9).1)
            go_wp2_with
              (first
                | (go_at_call 22; refine hrep.mono ?_; rintro e w5 ⟨rfl, R7, K7⟩)
                | (go_at_call 23; refine (off_end (σ7 := takeOver sA q n b) HX.out.1 hlen R7 rb hl' (t1.trans HX.out.2.2.2.2.1) (t2.trans HX.out.2.2.2.2.2.2) (t3.trans HX.out.2.2.2.2.2.1)).mono ?_; rintro e w6 ⟨rfl, σ9, z1, z2, z3, z4⟩))
            go_end0
            exact ⟨rfl, σ9, z1, (hK6.trans K7).trans z2, z3, z4⟩
          · -- n hangs deeper
            have hK9 := (HX.out.2.2.1.kin HX.out.2.1)
            have hqD := hsub q hqm
            have haD := hsub a ham
            have hU := hK9.up n hnD
            have q0 := neq_other WA hqx (hR.blk q hqD) (hR.blk x hxm)
            have hrep1 := replace_any n (sA.ch n false) hR hnD (fun k e => hsub k (hkids k e).1) (fun k e => by rw [hq] at e; cases e; exact hqD) (fun p e l e' => ((HX.out.2.2.2.1 p ((HX.out.2.2.2.1 n hnD).2 p e)).1 _ l e').1)
            have f1x : ∀ e, (repl sA n (sA.ch n false)).ch x e = sA.ch x e := fun e => by rw [repl_ch _ hU, if_neg (by rw [hq]; rintro ⟨h, _⟩; cases h; exact hqx rfl)]
            have f1h : (repl sA n (sA.ch n false)).h x = sA.h x := by rw [repl_h]
            have hcx : sA.ch n false ≠ some x := fun e => hpx (hK9.down n hnD false x e).1
            have f1p : (repl sA n (sA.ch n false)).par x = sA.par x := by rw [repl_par, if_neg hcx]
            obtain ⟨t1, t2, t3⟩ := takeOver_rest (setPar (setCh (repl sA n (sA.ch n false)) n false (some a)) a (some n)) x n b
            obtain ⟨v1, v2, v3⟩ := repl_rest sA n (sA.ch n false)
            have f1c : ∀ p, sA.par x = some p → ∀ l, (repl sA n (sA.ch n false)).ch p false = some l → l ∈ L ++ x :: R := fun p e l e' => by
              rw [repl_ch _ hU] at e'
              split at e'
              · exact hsub l (hkids l e').1
              · exact ((HX.out.2.2.2.1 p ((HX.out.2.2.2.1 x hxm).2 p e)).1 _ l e').1
            generalize repl sA n (sA.ch n false) = σ1 at *
            go_wp2_with (go_at_call 22; refine hrep1.mono ?_; rintro e w2 ⟨rfl, R2, K2⟩; have x7 := R2.cell x hxm 7 (by omega); have x8 := R2.cell x hxm 8 (by omega); have x9 := R2.cell x hxm 9 (by omega); have y7 := R2.cell n hnD 7 (by omega); have y7f := R2.fz n hnD 7; simp only [lv] at x7 x8 x9; rw [f1x, hlo] at x7; rw [f1x, hhi] at x8; rw [f1h] at x9; simp only [ptr, Option.map_some] at x7 x8)
            go_region_held3 (fun w' => w'.cell? ⟨x, 7, none⟩ = some (.pointer (some ⟨a, 0, none⟩))) (first | exact x7 | exact (oth (b := n) (o := 7) (b' := x) (o' := 7) (.inl hnx')).trans x7) (fail)
            have R3 := (R2.setCh hnD false (some a)).drew
            have K3 := ((hK.trans K2).set hnD 7 (.pointer (some ⟨a, 0, none⟩))).drew
            have R3' : Rep S (· ∈ L ++ x :: R) ex s0 (w2.setCell ⟨n, 7, none⟩ (.pointer (some ⟨a, 0, none⟩))).drew (setCh σ1 n false (some a)) := R3
            have x8a : (w2.setCell ⟨n, 7, none⟩ (.pointer (some ⟨a, 0, none⟩))).drew.cell? ⟨x, 8, none⟩ = some (.pointer (some ⟨b, 0, none⟩)) := (oth (b := n) (o := 7) (b' := x) (o' := 8) (.inr (by omega))).trans x8
            have x9a : (w2.setCell ⟨n, 7, none⟩ (.pointer (some ⟨a, 0, none⟩))).drew.cell? ⟨x, 9, none⟩ = some (.int .i8 (sA.h x)) := (oth (b := n) (o := 7) (b' := x) (o' := 9) (.inr (by omega))).trans x9
            clear R3
            generalize (w2.setCell ⟨n, 7, none⟩ (.pointer (some ⟨a, 0, none⟩))).drew = w3 at *
            have y7a := R3'.cell n hnD 7 (by omega)
            simp only [lv] at y7a
            rw [show (setCh σ1 n false (some a)).ch n false = some a from up2_at _ _ _ _] at y7a
            simp only [ptr, Option.map_some] at y7a
            have a6 := R3'.cell a haD 6 (by omega)
            have a6f := R3'.fz a haD 6
            have y8 := R3'.cell n hnD 8 (by omega)
            have y8f := R3'.fz n hnD 8
            go_wp2
            have R4 : Rep S (· ∈ L ++ x :: R) ex s0 (w3.setCell ⟨a, 6, none⟩ (.pointer (some ⟨n, 0, none⟩))) (setPar (setCh σ1 n false (some a)) a (some n)) := R3'.setPar haD (some n)
            have K4 : Kp S (· ∈ L ++ x :: R) W (w3.setCell ⟨a, 6, none⟩ (.pointer (some ⟨n, 0, none⟩))) := K3.set haD 6 _
            have x8b : (w3.setCell ⟨a, 6, none⟩ (.pointer (some ⟨n, 0, none⟩))).cell? ⟨x, 8, none⟩ = some (.pointer (some ⟨b, 0, none⟩)) := (oth (b := a) (o := 6) (b' := x) (o' := 8) (.inr (by omega))).trans x8a
            have x9b : (w3.setCell ⟨a, 6, none⟩ (.pointer (some ⟨n, 0, none⟩))).cell? ⟨x, 9, none⟩ = some (.int .i8 (sA.h x)) := (oth (b := a) (o := 6) (b' := x) (o' := 9) (.inr (by omega))).trans x9a
            clear x7 x8 x9 y7 y7f x8a x9a y7a a6 a6f y8 y8f c6 c7' c8' c9 c4' d6' d7 d8 d9 b6 fn7 fn8 fn9 fb6 q0 hrep1
            generalize (w3.setCell ⟨a, 6, none⟩ (.pointer (some ⟨n, 0, none⟩))) = w4 at *
            have y8 := R4.cell n hnD 8 (by omega)
            have y8f := R4.fz n hnD 8
            have y9 := R4.cell n hnD 9 (by omega)
            have y9f := R4.fz n hnD 9
            have b6 := R4.cell b hbD 6 (by omega)
            have b6f := R4.fz b hbD 6
            have hsx : (setPar (setCh σ1 n false (some a)) a (some n)).h x = sA.h x := f1h
            have hR6 : Rep S (· ∈ L ++ x :: R) ex s0 (((w4.setCell ⟨n, 8, none⟩ (.pointer (some ⟨b, 0, none⟩))).drew.setCell ⟨b, 6, none⟩ (.pointer (some ⟨n, 0, none⟩))).setCell ⟨n, 9, none⟩ (.int .i8 (sA.h x))) (setH (setPar (setCh (setPar (setCh σ1 n false (some a)) a (some n)) n true (some b)) b (some n)) n ((setPar (setCh σ1 n false (some a)) a (some n)).h x)) := by
              rw [hsx]; exact (((R4.setCh hnD true (some b)).drew).setPar hbD (some n)).setH hnD (sA.h x)
            have hK6 : Kp S (· ∈ L ++ x :: R) W (((w4.setCell ⟨n, 8, none⟩ (.pointer (some ⟨b, 0, none⟩))).drew.setCell ⟨b, 6, none⟩ (.pointer (some ⟨n, 0, none⟩))).setCell ⟨n, 9, none⟩ (.int .i8 (sA.h x))) := (((K4.set hnD 8 _).drew).set hbD 6 _).set hnD 9 _
            have p6 : (setH (setPar (setCh (setPar (setCh σ1 n false (some a)) a (some n)) n true (some b)) b (some n)) n ((setPar (setCh σ1 n false (some a)) a (some n)).h x)).par x = sA.par x := by
              show up (up σ1.par a (some n)) b (some n) x = _
              rw [up_ne _ _ _ (Ne.symm hbx), up_ne _ _ _ (Ne.symm hax)]; exact f1p
            have hrep := replace_any x (some n) hR6 hxm (fun k e => by cases e; exact hnD) (fun k e => by rw [p6] at e; exact (HX.out.2.2.2.1 x hxm).2 k e) (fun p e l e' => by
              rw [p6] at e
              have hpn : p ≠ n := fun e9 => hpx (by rw [e, e9])
              have e9 : up2 (up2 σ1.ch n false (some a)) n true (some b) p false = some l := e'
              rw [up2_ne _ _ _ _ hpn, up2_ne _ _ _ _ hpn] at e9
              exact f1c p e l e9)
            go_region_held3 (fun w' => w'.cell? ⟨x, 8, none⟩ = some (.pointer (some ⟨b, 0, none⟩))) (first | exact x8b | exact (oth (b := n) (o := 8) (b' := x) (o' := 8) (.inl hnx')).trans x8b) (fail)
            go_wp2_with
              (first
                | (go_at_call 22; refine hrep.mono ?_; rintro e w5 ⟨rfl, R7, K7⟩)
                | (go_at_call 23; refine (off_end (σ7 := takeOver (setPar (setCh σ1 n false (some a)) a (some n)) x n b) HX.out.1 hlen R7 rb hl' ((t1.trans v1).trans HX.out.2.2.2.2.1) ((t2.trans v2).trans HX.out.2.2.2.2.2.2) ((t3.trans v3).trans HX.out.2.2.2.2.2.1)).mono ?_; rintro e w6 ⟨rfl, σ9, z1, z2, z3, z4⟩))
            go_end0
            exact ⟨rfl, σ9, z1, (hK6.trans K7).trans z2, z3, z4⟩
end

end Go.Proofs.Ybulkjrk
