/-
  OWN WORK: the walks of lift, balance, rebalance.
-/
import Derived.Test.YbulkjrkV5
namespace Go.Proofs.Ybulkjrk
open Go.RowKit
set_option linter.unusedSimpArgs false
set_option linter.unusedVariables false

theorem hide {p : Prop} (h : p) : Hid p := h
/-- The links of the levels lead to levels. -/
def Cl (σ : Sd) (D : Nat → Prop) : Prop := ∀ b, D b → (∀ d k, σ.ch b d = some k → D k ∧ k ≠ b) ∧ (∀ q, σ.par b = some q → D q)
def Hb (σ : Sd) (D : Nat → Prop) (n : Int) : Prop := ∀ b, D b → 0 ≤ σ.h b ∧ σ.h b ≤ n
theorem Cl.setCh {σ : Sd} {D : Nat → Prop} (h : Cl σ D) {x : Nat} {d : Bool} {c : Option Nat} (hc : ∀ k, c = some k → D k ∧ k ≠ x) : Cl (setCh σ x d c) D := fun b hb => by
  refine ⟨fun e k hk => ?_, (h b hb).2⟩
  have hk : up2 σ.ch x d c b e = some k := hk
  unfold up2 at hk
  split at hk
  · rename_i h9; rw [h9.1]; exact hc k hk
  · exact (h b hb).1 e k hk
theorem Cl.setPar {σ : Sd} {D : Nat → Prop} (h : Cl σ D) {x : Nat} {p : Option Nat} (hp : ∀ k, p = some k → D k) : Cl (setPar σ x p) D := fun b hb => by
  refine ⟨(h b hb).1, fun q hq => ?_⟩
  have hq : up σ.par x p b = some q := hq
  unfold up at hq
  split at hq
  · exact hp q hq
  · exact (h b hb).2 q hq
theorem Cl.setH {σ : Sd} {D : Nat → Prop} (h : Cl σ D) {x : Nat} {y : Int} : Cl (setH σ x y) D := h
theorem Cl.parTo {σ : Sd} {D : Nat → Prop} (h : Cl σ D) {n p : Option Nat} (hp : ∀ k, p = some k → D k) : Cl (parTo σ n p) D := by
  cases n with
  | none => exact h
  | some x => exact h.setPar hp
theorem Cl.repl {σ : Sd} {D : Nat → Prop} (h : Cl σ D) {o : Nat} (ho : D o) {n : Option Nat} (hn : ∀ k, n = some k → D k ∧ σ.par o ≠ some k) : Cl (repl σ o n) D := by
  unfold Ybulkjrk.repl
  cases hp : σ.par o with
  | none => exact fun b hb => (h.parTo (n := n) (p := none) (fun k e => by cases e)) b hb
  | some p =>
    have h1 := h.parTo (n := n) (p := some p) (fun k e => (h o ho).2 k (hp.trans e))
    have h2 : ∀ k, n = some k → D k ∧ k ≠ p := fun k e => ⟨(hn k e).1, fun e' => (hn k e).2 (by rw [hp, e'])⟩
    dsimp only
    split
    · exact h1.setCh h2
    · exact h1.setCh h2
theorem hgt_bd {σ : Sd} {D : Nat → Prop} {n : Int} (hb : Hb σ D n) (hn : 0 ≤ n) {o : Option Nat} (ho : ∀ k, o = some k → D k) : 0 ≤ hgt σ o ∧ hgt σ o ≤ n := by
  cases o with
  | none => exact ⟨by simp [hgt], by simpa [hgt] using hn⟩
  | some y => exact hb y (ho y rfl)
theorem Hb.fixH {σ : Sd} {D : Nat → Prop} {n : Int} (hb : Hb σ D n) (hn : 0 ≤ n) (hc : Cl σ D) {x : Nat} (hx : D x) : Hb (fixH σ x) D (n + 1) := fun b hD => by
  show 0 ≤ up σ.h x _ b ∧ up σ.h x _ b ≤ n + 1
  unfold up
  split
  · have h1 := hgt_bd hb hn (o := σ.ch x false) (fun k e => ((hc x hx).1 _ k e).1)
    have h2 := hgt_bd hb hn (o := σ.ch x true) (fun k e => ((hc x hx).1 _ k e).1)
    omega
  · have := hb b hD; omega
theorem Hb.repl {σ : Sd} {D : Nat → Prop} {n : Int} (hb : Hb σ D n) (o : Nat) (k : Option Nat) : Hb (repl σ o k) D n := fun b hD => by rw [repl_h]; exact hb b hD
theorem Hb.parTo {σ : Sd} {D : Nat → Prop} {n : Int} (hb : Hb σ D n) (o k : Option Nat) : Hb (parTo σ o k) D n := fun b hD => by rw [parTo_h]; exact hb b hD
theorem Hb.mono {σ : Sd} {D : Nat → Prop} {n m : Int} (hb : Hb σ D n) (h : n ≤ m) : Hb σ D m := fun b hD => by have := hb b hD; omega

def wv (w : Bool) : Value := .int .i64 (if w then 1 else 0)

section
variable {S : Sid} {D : Nat → Prop} {ex : Nat → Nat → Value} {s0 : Value} {W : World} {σ : Sd}
set_option maxRecDepth 100000 in
set_option maxHeartbeats 1000000 in
theorem lift_any (x c : Nat) (w : Bool) {n : Int} (h : Rep S D ex s0 W σ) (hC : Cl σ D) (hH : Hb σ D n) (hn : 0 ≤ n ∧ n ≤ 90) (hx : D x) (hc : σ.ch x w = some c) (hpc : σ.par x ≠ some c) (hcx : σ.ch c (!w) ≠ some x) :
    Calls Yba.prog 50 #[.pointer (some ⟨S.b, S.o, none⟩), .pointer (some ⟨x, 0, none⟩), wv w] W fun e w' => e = .returned (.pointer (some ⟨c, 0, none⟩)) ∧ Rep S D ex s0 w' (lift σ x c w) ∧ Kp S D W w' ∧ Cl (lift σ x c w) D ∧ Hb (lift σ x c w) D (n + 2) := by
  obtain ⟨hDc, hcne⟩ := (hC x hx).1 w c hc
  have hin : ∀ i, σ.ch c (!w) = some i → D i ∧ i ≠ c ∧ i ≠ x := fun i e => ⟨((hC c hDc).1 _ i e).1, ((hC c hDc).1 _ i e).2, fun e' => hcx (by rw [e, e'])⟩
  unfold lift
  obtain ⟨s1, hs1⟩ : ∃ s1, s1 = parTo (setCh σ x w (σ.ch c (!w))) (σ.ch c (!w)) (some x) := ⟨_, rfl⟩
  have C1 : Cl s1 D := by rw [hs1]; exact (hC.setCh (fun k e => ⟨(hin k e).1, (hin k e).2.2⟩)).parTo (fun k e => by cases e; exact hx)
  have H1 : Hb s1 D n := by rw [hs1]; exact Hb.parTo (σ := setCh σ x w (σ.ch c (!w))) hH _ _
  have P1 : s1.par x = σ.par x := by rw [hs1, parTo_par, if_neg hcx]; rfl
  rw [← hs1]
  obtain ⟨s2, hs2⟩ : ∃ s2, s2 = repl s1 x (some c) := ⟨_, rfl⟩
  have C2 : Cl s2 D := by rw [hs2]; exact C1.repl hx (fun k e => by cases e; exact ⟨hDc, by rw [P1]; exact hpc⟩)
  have H2 : Hb s2 D n := by rw [hs2]; exact H1.repl _ _
  rw [← hs2]
  obtain ⟨s3, hs3⟩ : ∃ s3, s3 = setPar (setCh s2 c (!w) (some x)) x (some c) := ⟨_, rfl⟩
  have C3 : Cl s3 D := by rw [hs3]; exact (C2.setCh (fun k e => by cases e; exact ⟨hx, Ne.symm hcne⟩)).setPar (fun k e => by cases e; exact hDc)
  have H3 : Hb s3 D n := by rw [hs3]; exact H2
  rw [← hs3]
  have C4 : Cl (fixH s3 x) D := C3
  have H4 : Hb (fixH s3 x) D (n + 1) := H3.fixH hn.1 C3 hx
  have C5 : Cl (fixH (fixH s3 x) c) D := C3
  have H5 : Hb (fixH (fixH s3 x) c) D (n + 2) := (H4.fixH (by omega) C4 hDc).mono (by omega)
  have cx := h.cell x hx
  have c7 := cx 7 (by omega)
  have c8 := cx 8 (by omega)
  have x7 := h.fz x hx 7
  have x8 := h.fz x hx 8
  have cc := h.cell c hDc
  have d7 := cc 7 (by omega)
  have d8 := cc 8 (by omega)
  simp only [lv] at c7 c8 d7 d8
  have hR2 : ∀ w1, Rep S D ex s0 w1 s1 → Calls Yba.prog 22 #[.pointer (some ⟨S.b, S.o, none⟩), .pointer (some ⟨x, 0, none⟩), .pointer (some ⟨c, 0, none⟩)] w1 fun e w' => e = .returned (.tuple #[]) ∧ Rep S D ex s0 w' s2 ∧ Kp S D w1 w' := fun w1 r => by
    rw [hs2]; exact replace_any x (some c) r hx (fun b e => by cases e; exact hDc) (fun b e => (C1 x hx).2 b e) (fun p e l e' => ((C1 p ((C1 x hx).2 p e)).1 _ l e').1)
  have hR4 : ∀ w1, Rep S D ex s0 w1 s3 → Calls Yba.prog 49 #[.pointer (some ⟨x, 0, none⟩)] w1 fun e w' => e = .returned (.tuple #[]) ∧ Rep S D ex s0 w' (fixH s3 x) ∧ Kp S D w1 w' := fun w1 r =>
    setHeight_any x r hx (fun d b e => (C3 x hx).1 d b e) (fun b hb => by have := H3 b hb; omega)
  have hR5 : ∀ w1, Rep S D ex s0 w1 (fixH s3 x) → Calls Yba.prog 49 #[.pointer (some ⟨c, 0, none⟩)] w1 fun e w' => e = .returned (.tuple #[]) ∧ Rep S D ex s0 w' (fixH (fixH s3 x) c) ∧ Kp S D w1 w' := fun w1 r =>
    setHeight_any c r hDc (fun d b e => (C4 c hDc).1 d b e) (fun b hb => by have := H4 b hb; omega)
  have HC := hide (And.intro C5 H5)
  clear C1 C2 C3 C4 C5 H1 H2 H3 H4 H5 cx cc
  have HS1 := hide hs1
  have HS3 := hide hs3
  clear hs1 hs2 hs3
  cases w
  · show Calls Yba.prog 50 #[.pointer (some ⟨S.b, S.o, none⟩), .pointer (some ⟨x, 0, none⟩), .int .i64 0] W _
    rw [hc] at c7
    simp only [ptr, Option.map_some] at c7
    simp only [Bool.not_false] at hin
    cases hi : σ.ch c true with
    | none =>
      rw [hi] at d8
      simp only [ptr, Option.map_none] at d8
      have R1 : Rep S D ex s0 (W.setCell ⟨x, 7, none⟩ (.pointer none)) s1 := by rw [HS1.out]; simp only [Bool.not_false, hi]; exact h.setCh hx false none
      have K1 : Kp S D W (W.setCell ⟨x, 7, none⟩ (.pointer none)) := (Kp.refl S D W).set hx 7 _
      go_enter Yba.func50, Yba.ntmps50
      go_wp2_with
        (first
          | (go_at_call 49; refine (hR5 _ R4).mono ?_; rintro e w5 ⟨rfl, R5, K5⟩)
          | (go_at_call 22; refine (hR2 _ R1).mono ?_; rintro e w2 ⟨rfl, R2, K2⟩; have g8 := R2.cell c hDc 8 (by omega); have g6 := R2.cell x hx 6 (by omega); have gf8 := R2.fz c hDc 8; have gf6 := R2.fz x hx 6)
          | (go_at_call 49; refine (hR4 _ (by rw [HS3.out]; exact (R2.setCh hDc true (some x)).setPar hx (some c))).mono ?_; rintro e w4 ⟨rfl, R4, K4⟩))
      go_ret
      exact ⟨rfl, R5, (((K1.trans K2).trans (((Kp.refl S D w2).set hDc 8 _).set hx 6 _)).trans K4).trans K5, HC.out.1, HC.out.2⟩
    | some i =>
      obtain ⟨hDi, hic, hix⟩ := hin i hi
      rw [hi] at d8
      simp only [ptr, Option.map_some] at d8
      have i6 := h.cell i hDi 6 (by omega)
      have if6 := h.fz i hDi 6
      have R1 : Rep S D ex s0 ((W.setCell ⟨x, 7, none⟩ (.pointer (some ⟨i, 0, none⟩))).setCell ⟨i, 6, none⟩ (.pointer (some ⟨x, 0, none⟩))) s1 := by rw [HS1.out]; simp only [Bool.not_false, hi]; exact (h.setCh hx false (some i)).setPar hDi (some x)
      have K1 : Kp S D W ((W.setCell ⟨x, 7, none⟩ (.pointer (some ⟨i, 0, none⟩))).setCell ⟨i, 6, none⟩ (.pointer (some ⟨x, 0, none⟩))) := ((Kp.refl S D W).set hx 7 _).set hDi 6 _
      go_enter Yba.func50, Yba.ntmps50
      go_wp2_with
        (first
          | (go_at_call 49; refine (hR5 _ R4).mono ?_; rintro e w5 ⟨rfl, R5, K5⟩)
          | (go_at_call 22; refine (hR2 _ R1).mono ?_; rintro e w2 ⟨rfl, R2, K2⟩; have g8 := R2.cell c hDc 8 (by omega); have g6 := R2.cell x hx 6 (by omega); have gf8 := R2.fz c hDc 8; have gf6 := R2.fz x hx 6)
          | (go_at_call 49; refine (hR4 _ (by rw [HS3.out]; exact (R2.setCh hDc true (some x)).setPar hx (some c))).mono ?_; rintro e w4 ⟨rfl, R4, K4⟩))
      go_ret
      exact ⟨rfl, R5, (((K1.trans K2).trans (((Kp.refl S D w2).set hDc 8 _).set hx 6 _)).trans K4).trans K5, HC.out.1, HC.out.2⟩
  · show Calls Yba.prog 50 #[.pointer (some ⟨S.b, S.o, none⟩), .pointer (some ⟨x, 0, none⟩), .int .i64 1] W _
    rw [hc] at c8
    simp only [ptr, Option.map_some] at c8
    simp only [Bool.not_true] at hin
    cases hi : σ.ch c false with
    | none =>
      rw [hi] at d7
      simp only [ptr, Option.map_none] at d7
      have R1 : Rep S D ex s0 (W.setCell ⟨x, 8, none⟩ (.pointer none)) s1 := by rw [HS1.out]; simp only [Bool.not_true, hi]; exact h.setCh hx true none
      have K1 : Kp S D W (W.setCell ⟨x, 8, none⟩ (.pointer none)) := (Kp.refl S D W).set hx 8 _
      go_enter Yba.func50, Yba.ntmps50
      go_wp2_with
        (first
          | (go_at_call 49; refine (hR5 _ R4).mono ?_; rintro e w5 ⟨rfl, R5, K5⟩)
          | (go_at_call 22; refine (hR2 _ R1).mono ?_; rintro e w2 ⟨rfl, R2, K2⟩; have g8 := R2.cell c hDc 7 (by omega); have g6 := R2.cell x hx 6 (by omega); have gf8 := R2.fz c hDc 7; have gf6 := R2.fz x hx 6)
          | (go_at_call 49; refine (hR4 _ (by rw [HS3.out]; exact (R2.setCh hDc false (some x)).setPar hx (some c))).mono ?_; rintro e w4 ⟨rfl, R4, K4⟩))
      go_ret
      exact ⟨rfl, R5, (((K1.trans K2).trans (((Kp.refl S D w2).set hDc 7 _).set hx 6 _)).trans K4).trans K5, HC.out.1, HC.out.2⟩
    | some i =>
      obtain ⟨hDi, hic, hix⟩ := hin i hi
      rw [hi] at d7
      simp only [ptr, Option.map_some] at d7
      have i6 := h.cell i hDi 6 (by omega)
      have if6 := h.fz i hDi 6
      have R1 : Rep S D ex s0 ((W.setCell ⟨x, 8, none⟩ (.pointer (some ⟨i, 0, none⟩))).setCell ⟨i, 6, none⟩ (.pointer (some ⟨x, 0, none⟩))) s1 := by rw [HS1.out]; simp only [Bool.not_true, hi]; exact (h.setCh hx true (some i)).setPar hDi (some x)
      have K1 : Kp S D W ((W.setCell ⟨x, 8, none⟩ (.pointer (some ⟨i, 0, none⟩))).setCell ⟨i, 6, none⟩ (.pointer (some ⟨x, 0, none⟩))) := ((Kp.refl S D W).set hx 8 _).set hDi 6 _
      go_enter Yba.func50, Yba.ntmps50
      go_wp2_with
        (first
          | (go_at_call 49; refine (hR5 _ R4).mono ?_; rintro e w5 ⟨rfl, R5, K5⟩)
          | (go_at_call 22; refine (hR2 _ R1).mono ?_; rintro e w2 ⟨rfl, R2, K2⟩; have g8 := R2.cell c hDc 7 (by omega); have g6 := R2.cell x hx 6 (by omega); have gf8 := R2.fz c hDc 7; have gf6 := R2.fz x hx 6)
          | (go_at_call 49; refine (hR4 _ (by rw [HS3.out]; exact (R2.setCh hDc false (some x)).setPar hx (some c))).mono ?_; rintro e w4 ⟨rfl, R4, K4⟩))
      go_ret
      exact ⟨rfl, R5, (((K1.trans K2).trans (((Kp.refl S D w2).set hDc 7 _).set hx 6 _)).trans K4).trans K5, HC.out.1, HC.out.2⟩
end

end Go.Proofs.Ybulkjrk
