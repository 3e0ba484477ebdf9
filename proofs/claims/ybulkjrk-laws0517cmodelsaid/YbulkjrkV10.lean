/-
  OWN WORK: the chain of the levels; the walk of link.
-/
import Derived.Test.YbulkjrkV9
namespace Go.Proofs.Ybulkjrk
open Go.RowKit
set_option linter.unusedSimpArgs false
set_option linter.unusedVariables false

/-- The neighbours' links and the ends. -/
def Chain (σ : Sd) (ll : List Nat) : Prop :=
  (∀ A x B, ll = A ++ x :: B → σ.nx x false = A.getLast? ∧ σ.nx x true = B.head?) ∧ σ.ends false = ll.head? ∧ σ.ends true = ll.getLast?
/-- A side as it is kept. -/
structure Good (σ : Sd) (ll : List Nat) : Prop where
  tree : ∃ h, Tree σ none σ.root ll h
  nd : ll.Nodup
  cl : Cl σ (· ∈ ll)
  chain : Chain σ ll
  sort : ll.Pairwise fun x y => σ.price x < σ.price y

theorem Rep.over {S : Sid} {D : Nat → Prop} {ex : Nat → Nat → Value} {s0 : Value} {W W' : World} {σ : Sd} (h : Rep S D ex s0 W σ) (hb : Below W.heap.size W W') : Rep S D ex s0 W' σ :=
  ⟨fun b hD => Nat.lt_of_lt_of_le (h.lt b hD) hb.size, h.ne, Nat.lt_of_lt_of_le h.slt hb.size, fun b hD o ho => (hb.cell (p := ⟨b, o, none⟩) (h.lt b hD)).trans (h.cell b hD o ho), fun b hD o => (hb.frozen (p := ⟨b, o, none⟩) (h.lt b hD)).trans (h.fz b hD o),
    fun o ho => (hb.cell (p := ⟨S.b, S.o + o, none⟩) h.slt).trans (h.side o ho), fun o => (hb.frozen (p := ⟨S.b, o, none⟩) h.slt).trans (h.sfz o), fun b hD => by
      obtain ⟨cs, e⟩ := h.blk b hD
      exact ⟨cs, (hb.block b (h.lt b hD)).trans e⟩⟩
theorem Kp.over {S : Sid} {D : Nat → Prop} {W W' : World} (hb : Below W.heap.size W W') : Kp S D W W' := ⟨hb.os, hb.tape, hb.output, hb.size, fun b h _ _ => hb.block b h, fun hs _ o _ => hb.cell (p := ⟨S.b, o, none⟩) hs, fun hs _ o => hb.frozen (p := ⟨S.b, o, none⟩) hs, Shp.below hb⟩

section
variable {S : Sid} {ex : Nat → Nat → Value} {s0 : Value}
set_option maxRecDepth 100000 in
set_option maxHeartbeats 1000000 in
theorem link_walk {W : World} {σ : Sd} {D : Nat → Prop} {P : Sd → Prop} {b q : Nat} (d : Bool) (h : Rep S D ex s0 W σ) (hb : D b) (hq : D q) (hbq : b ≠ q) (hch : σ.ch q d = none) (hfar : ∀ f, σ.nx q d = some f → D f ∧ f ≠ b ∧ f ≠ q)
    (σ7 : Sd) (h7 : σ7 = (let s := setNx (setNx (setNx (setCh (setH (setPar σ b (some q)) b 1) q d (some b)) b (!d) (some q)) b d (σ.nx q d)) q d (some b)
      match σ.nx q d with
      | none => setEnd s d (some b)
      | some f => setNx s f (!d) (some b)))
    (hcall : ∀ w1, Rep S D ex s0 w1 σ7 → Calls Yba.prog 23 #[.pointer (some ⟨S.b, S.o, none⟩), .pointer (some ⟨q, 0, none⟩)] w1 fun e w' => e = .returned (.tuple #[]) ∧ ∃ σ', Rep S D ex s0 w' σ' ∧ Kp S D w1 w' ∧ P σ') :
    Calls Yba.prog 20 #[.pointer (some ⟨S.b, S.o, none⟩), .pointer (some ⟨b, 0, none⟩), .agg #[.pointer none, .pointer (some ⟨q, 0, none⟩), wv d]] W fun e w' => e = .returned (.tuple #[]) ∧ ∃ σ', Rep S D ex s0 w' σ' ∧ Kp S D W w' ∧ P σ' := by
  have hw0 : IntKind.i64.wrap 0 = 0 := by rfl
  have hw1 : IntKind.i64.wrap 1 = 1 := by rfl
  cases d
  · show Calls Yba.prog 20 #[.pointer (some ⟨S.b, S.o, none⟩), .pointer (some ⟨b, 0, none⟩), .agg #[.pointer none, .pointer (some ⟨q, 0, none⟩), .int .i64 0]] W _
    have hBA : Below W.heap.size W (W.alloc (.cells #[.pointer none, .pointer (some ⟨q, 0, none⟩), .int .i64 0] 86)) := (Below.refl _ _).alloc (Nat.le_refl _) _
    have h' := h.over hBA
    have cb6 := h'.cell b hb 6 (by omega)
    have cb9 := h'.cell b hb 9 (by omega)
    have cb4 := h'.cell b hb 4 (by omega)
    have cb5 := h'.cell b hb 5 (by omega)
    have fb6 := h'.fz b hb 6
    have fb9 := h'.fz b hb 9
    have fb4 := h'.fz b hb 4
    have fb5 := h'.fz b hb 5
    have cqc := h'.cell q hq 7 (by omega)
    have fqc := h'.fz q hq 7
    have cqn := h'.cell q hq 4 (by omega)
    have fqn := h'.fz q hq 4
    simp only [lv] at cqn
    have hqb : q ≠ b := Ne.symm hbq
    cases hf : σ.nx q false with
    | none =>
      rw [hf] at cqn h7
      simp only [ptr, Option.map_none] at cqn
      go_enter Yba.func20, Yba.ntmps20
      go_wp2
      go_quiet (fail)
      go_wp2
      go_region_held3 (fun _ => True) (trivial) (fail)
      have R6 : Rep S D ex s0 (((((((W.alloc (.cells #[.pointer none, .pointer (some ⟨q, 0, none⟩), .int .i64 0] 86)).drewN nq).setCell ⟨b, 6, none⟩ (.pointer (some ⟨q, 0, none⟩))).setCell ⟨b, 9, none⟩ (.int .i8 1)).setCell ⟨q, 7, none⟩ (.pointer (some ⟨b, 0, none⟩))).setCell ⟨b, 5, none⟩ (.pointer (some ⟨q, 0, none⟩))).setCell ⟨b, 4, none⟩ (.pointer none)).drew (setNx (setNx (setCh (setH (setPar σ b (some q)) b 1) q false (some b)) b true (some q)) b false none) := ((((((h'.drewN nq).setPar hb (some q)).setH hb 1).setCh hq false (some b)).setNx hb true (some q)).setNx hb false none).drew
      have K6 : Kp S D W (((((((W.alloc (.cells #[.pointer none, .pointer (some ⟨q, 0, none⟩), .int .i64 0] 86)).drewN nq).setCell ⟨b, 6, none⟩ (.pointer (some ⟨q, 0, none⟩))).setCell ⟨b, 9, none⟩ (.int .i8 1)).setCell ⟨q, 7, none⟩ (.pointer (some ⟨b, 0, none⟩))).setCell ⟨b, 5, none⟩ (.pointer (some ⟨q, 0, none⟩))).setCell ⟨b, 4, none⟩ (.pointer none)).drew := (((((((Kp.over hBA).drewN nq).set hb 6 _).set hb 9 _).set hq 7 _).set hb 5 _).set hb 4 _).drew
      generalize (((((((W.alloc (.cells #[.pointer none, .pointer (some ⟨q, 0, none⟩), .int .i64 0] 86)).drewN nq).setCell ⟨b, 6, none⟩ (.pointer (some ⟨q, 0, none⟩))).setCell ⟨b, 9, none⟩ (.int .i8 1)).setCell ⟨q, 7, none⟩ (.pointer (some ⟨b, 0, none⟩))).setCell ⟨b, 5, none⟩ (.pointer (some ⟨q, 0, none⟩))).setCell ⟨b, 4, none⟩ (.pointer none)).drew = w6 at *
      have g1 := R6.cell q hq 4 (by omega)
      have g2 := R6.fz q hq 4
      have g3 := R6.side 2 (by omega)
      have g4 := R6.sfz (S.o + 2)
      have zq := R6.ne q hq
      have zq2 := (R6.ne q hq).symm
      have R8 := (R6.setNx hq false (some b)).setEnd false (some b)
      have K8 := (K6.set hq 4 (.pointer (some ⟨b, 0, none⟩))).setS 2 (by omega) (.pointer (some ⟨b, 0, none⟩))
      have R9 : Rep S D ex s0 ((w6.setCell ⟨q, 4, none⟩ (.pointer (some ⟨b, 0, none⟩))).setCell ⟨S.b, S.o + 2, none⟩ (.pointer (some ⟨b, 0, none⟩))) σ7 := by rw [h7]; exact R8
      clear R8 cb6 cb9 cb4 cb5 fb6 fb9 fb4 fb5 cqc fqc cqn fqn h' h7
      go_wp2_with (go_at_call 23; refine (hcall _ R9).mono ?_; rintro e w9 ⟨rfl, σ9, Rp, Kq, Pq⟩)
      go_end0
      exact ⟨rfl, σ9, Rp, K8.trans Kq, Pq⟩
    | some f =>
      rw [hf] at cqn h7
      simp only [ptr, Option.map_some] at cqn
      obtain ⟨hDf, hfb, hfq⟩ := hfar f hf
      go_enter Yba.func20, Yba.ntmps20
      go_wp2
      go_quiet (fail)
      go_wp2
      go_region_held3 (fun _ => True) (trivial) (fail)
      have R6 : Rep S D ex s0 (((((((W.alloc (.cells #[.pointer none, .pointer (some ⟨q, 0, none⟩), .int .i64 0] 86)).drewN nq).setCell ⟨b, 6, none⟩ (.pointer (some ⟨q, 0, none⟩))).setCell ⟨b, 9, none⟩ (.int .i8 1)).setCell ⟨q, 7, none⟩ (.pointer (some ⟨b, 0, none⟩))).setCell ⟨b, 5, none⟩ (.pointer (some ⟨q, 0, none⟩))).setCell ⟨b, 4, none⟩ (.pointer (some ⟨f, 0, none⟩))).drew (setNx (setNx (setCh (setH (setPar σ b (some q)) b 1) q false (some b)) b true (some q)) b false (some f)) := ((((((h'.drewN nq).setPar hb (some q)).setH hb 1).setCh hq false (some b)).setNx hb true (some q)).setNx hb false (some f)).drew
      have K6 : Kp S D W (((((((W.alloc (.cells #[.pointer none, .pointer (some ⟨q, 0, none⟩), .int .i64 0] 86)).drewN nq).setCell ⟨b, 6, none⟩ (.pointer (some ⟨q, 0, none⟩))).setCell ⟨b, 9, none⟩ (.int .i8 1)).setCell ⟨q, 7, none⟩ (.pointer (some ⟨b, 0, none⟩))).setCell ⟨b, 5, none⟩ (.pointer (some ⟨q, 0, none⟩))).setCell ⟨b, 4, none⟩ (.pointer (some ⟨f, 0, none⟩))).drew := (((((((Kp.over hBA).drewN nq).set hb 6 _).set hb 9 _).set hq 7 _).set hb 5 _).set hb 4 _).drew
      generalize (((((((W.alloc (.cells #[.pointer none, .pointer (some ⟨q, 0, none⟩), .int .i64 0] 86)).drewN nq).setCell ⟨b, 6, none⟩ (.pointer (some ⟨q, 0, none⟩))).setCell ⟨b, 9, none⟩ (.int .i8 1)).setCell ⟨q, 7, none⟩ (.pointer (some ⟨b, 0, none⟩))).setCell ⟨b, 5, none⟩ (.pointer (some ⟨q, 0, none⟩))).setCell ⟨b, 4, none⟩ (.pointer (some ⟨f, 0, none⟩))).drew = w6 at *
      have g1 := R6.cell q hq 4 (by omega)
      have g2 := R6.fz q hq 4
      have g3 := R6.cell f hDf 5 (by omega)
      have g4 := R6.fz f hDf 5
      have R8 := (R6.setNx hq false (some b)).setNx hDf true (some b)
      have K8 := (K6.set hq 4 (.pointer (some ⟨b, 0, none⟩))).set hDf 5 (.pointer (some ⟨b, 0, none⟩))
      have R9 : Rep S D ex s0 ((w6.setCell ⟨q, 4, none⟩ (.pointer (some ⟨b, 0, none⟩))).setCell ⟨f, 5, none⟩ (.pointer (some ⟨b, 0, none⟩))) σ7 := by rw [h7]; exact R8
      clear R8 cb6 cb9 cb4 cb5 fb6 fb9 fb4 fb5 cqc fqc cqn fqn h' h7
      go_wp2_with (go_at_call 23; refine (hcall _ R9).mono ?_; rintro e w9 ⟨rfl, σ9, Rp, Kq, Pq⟩)
      go_end0
      exact ⟨rfl, σ9, Rp, K8.trans Kq, Pq⟩
  · show Calls Yba.prog 20 #[.pointer (some ⟨S.b, S.o, none⟩), .pointer (some ⟨b, 0, none⟩), .agg #[.pointer none, .pointer (some ⟨q, 0, none⟩), .int .i64 1]] W _
    have hBA : Below W.heap.size W (W.alloc (.cells #[.pointer none, .pointer (some ⟨q, 0, none⟩), .int .i64 1] 86)) := (Below.refl _ _).alloc (Nat.le_refl _) _
    have h' := h.over hBA
    have cb6 := h'.cell b hb 6 (by omega)
    have cb9 := h'.cell b hb 9 (by omega)
    have cb4 := h'.cell b hb 4 (by omega)
    have cb5 := h'.cell b hb 5 (by omega)
    have fb6 := h'.fz b hb 6
    have fb9 := h'.fz b hb 9
    have fb4 := h'.fz b hb 4
    have fb5 := h'.fz b hb 5
    have cqc := h'.cell q hq 8 (by omega)
    have fqc := h'.fz q hq 8
    have cqn := h'.cell q hq 5 (by omega)
    have fqn := h'.fz q hq 5
    simp only [lv] at cqn
    have hqb : q ≠ b := Ne.symm hbq
    cases hf : σ.nx q true with
    | none =>
      rw [hf] at cqn h7
      simp only [ptr, Option.map_none] at cqn
      go_enter Yba.func20, Yba.ntmps20
      go_wp2
      go_quiet (fail)
      go_wp2
      go_region_held3 (fun _ => True) (trivial) (fail)
      have R6 : Rep S D ex s0 (((((((W.alloc (.cells #[.pointer none, .pointer (some ⟨q, 0, none⟩), .int .i64 1] 86)).drewN nq).setCell ⟨b, 6, none⟩ (.pointer (some ⟨q, 0, none⟩))).setCell ⟨b, 9, none⟩ (.int .i8 1)).setCell ⟨q, 8, none⟩ (.pointer (some ⟨b, 0, none⟩))).setCell ⟨b, 4, none⟩ (.pointer (some ⟨q, 0, none⟩))).setCell ⟨b, 5, none⟩ (.pointer none)).drew (setNx (setNx (setCh (setH (setPar σ b (some q)) b 1) q true (some b)) b false (some q)) b true none) := ((((((h'.drewN nq).setPar hb (some q)).setH hb 1).setCh hq true (some b)).setNx hb false (some q)).setNx hb true none).drew
      have K6 : Kp S D W (((((((W.alloc (.cells #[.pointer none, .pointer (some ⟨q, 0, none⟩), .int .i64 1] 86)).drewN nq).setCell ⟨b, 6, none⟩ (.pointer (some ⟨q, 0, none⟩))).setCell ⟨b, 9, none⟩ (.int .i8 1)).setCell ⟨q, 8, none⟩ (.pointer (some ⟨b, 0, none⟩))).setCell ⟨b, 4, none⟩ (.pointer (some ⟨q, 0, none⟩))).setCell ⟨b, 5, none⟩ (.pointer none)).drew := (((((((Kp.over hBA).drewN nq).set hb 6 _).set hb 9 _).set hq 8 _).set hb 4 _).set hb 5 _).drew
      generalize (((((((W.alloc (.cells #[.pointer none, .pointer (some ⟨q, 0, none⟩), .int .i64 1] 86)).drewN nq).setCell ⟨b, 6, none⟩ (.pointer (some ⟨q, 0, none⟩))).setCell ⟨b, 9, none⟩ (.int .i8 1)).setCell ⟨q, 8, none⟩ (.pointer (some ⟨b, 0, none⟩))).setCell ⟨b, 4, none⟩ (.pointer (some ⟨q, 0, none⟩))).setCell ⟨b, 5, none⟩ (.pointer none)).drew = w6 at *
      have g1 := R6.cell q hq 5 (by omega)
      have g2 := R6.fz q hq 5
      have g3 := R6.side 3 (by omega)
      have g4 := R6.sfz (S.o + 3)
      have zq := R6.ne q hq
      have zq2 := (R6.ne q hq).symm
      have R8 := (R6.setNx hq true (some b)).setEnd true (some b)
      have K8 := (K6.set hq 5 (.pointer (some ⟨b, 0, none⟩))).setS 3 (by omega) (.pointer (some ⟨b, 0, none⟩))
      have R9 : Rep S D ex s0 ((w6.setCell ⟨q, 5, none⟩ (.pointer (some ⟨b, 0, none⟩))).setCell ⟨S.b, S.o + 3, none⟩ (.pointer (some ⟨b, 0, none⟩))) σ7 := by rw [h7]; exact R8
      clear R8 cb6 cb9 cb4 cb5 fb6 fb9 fb4 fb5 cqc fqc cqn fqn h' h7
      go_wp2_with (go_at_call 23; refine (hcall _ R9).mono ?_; rintro e w9 ⟨rfl, σ9, Rp, Kq, Pq⟩)
      go_end0
      exact ⟨rfl, σ9, Rp, K8.trans Kq, Pq⟩
    | some f =>
      rw [hf] at cqn h7
      simp only [ptr, Option.map_some] at cqn
      obtain ⟨hDf, hfb, hfq⟩ := hfar f hf
      go_enter Yba.func20, Yba.ntmps20
      go_wp2
      go_quiet (fail)
      go_wp2
      go_region_held3 (fun _ => True) (trivial) (fail)
      have R6 : Rep S D ex s0 (((((((W.alloc (.cells #[.pointer none, .pointer (some ⟨q, 0, none⟩), .int .i64 1] 86)).drewN nq).setCell ⟨b, 6, none⟩ (.pointer (some ⟨q, 0, none⟩))).setCell ⟨b, 9, none⟩ (.int .i8 1)).setCell ⟨q, 8, none⟩ (.pointer (some ⟨b, 0, none⟩))).setCell ⟨b, 4, none⟩ (.pointer (some ⟨q, 0, none⟩))).setCell ⟨b, 5, none⟩ (.pointer (some ⟨f, 0, none⟩))).drew (setNx (setNx (setCh (setH (setPar σ b (some q)) b 1) q true (some b)) b false (some q)) b true (some f)) := ((((((h'.drewN nq).setPar hb (some q)).setH hb 1).setCh hq true (some b)).setNx hb false (some q)).setNx hb true (some f)).drew
      have K6 : Kp S D W (((((((W.alloc (.cells #[.pointer none, .pointer (some ⟨q, 0, none⟩), .int .i64 1] 86)).drewN nq).setCell ⟨b, 6, none⟩ (.pointer (some ⟨q, 0, none⟩))).setCell ⟨b, 9, none⟩ (.int .i8 1)).setCell ⟨q, 8, none⟩ (.pointer (some ⟨b, 0, none⟩))).setCell ⟨b, 4, none⟩ (.pointer (some ⟨q, 0, none⟩))).setCell ⟨b, 5, none⟩ (.pointer (some ⟨f, 0, none⟩))).drew := (((((((Kp.over hBA).drewN nq).set hb 6 _).set hb 9 _).set hq 8 _).set hb 4 _).set hb 5 _).drew
      generalize (((((((W.alloc (.cells #[.pointer none, .pointer (some ⟨q, 0, none⟩), .int .i64 1] 86)).drewN nq).setCell ⟨b, 6, none⟩ (.pointer (some ⟨q, 0, none⟩))).setCell ⟨b, 9, none⟩ (.int .i8 1)).setCell ⟨q, 8, none⟩ (.pointer (some ⟨b, 0, none⟩))).setCell ⟨b, 4, none⟩ (.pointer (some ⟨q, 0, none⟩))).setCell ⟨b, 5, none⟩ (.pointer (some ⟨f, 0, none⟩))).drew = w6 at *
      have g1 := R6.cell q hq 5 (by omega)
      have g2 := R6.fz q hq 5
      have g3 := R6.cell f hDf 4 (by omega)
      have g4 := R6.fz f hDf 4
      have R8 := (R6.setNx hq true (some b)).setNx hDf false (some b)
      have K8 := (K6.set hq 5 (.pointer (some ⟨b, 0, none⟩))).set hDf 4 (.pointer (some ⟨b, 0, none⟩))
      have R9 : Rep S D ex s0 ((w6.setCell ⟨q, 5, none⟩ (.pointer (some ⟨b, 0, none⟩))).setCell ⟨f, 4, none⟩ (.pointer (some ⟨b, 0, none⟩))) σ7 := by rw [h7]; exact R8
      clear R8 cb6 cb9 cb4 cb5 fb6 fb9 fb4 fb5 cqc fqc cqn fqn h' h7
      go_wp2_with (go_at_call 23; refine (hcall _ R9).mono ?_; rintro e w9 ⟨rfl, σ9, Rp, Kq, Pq⟩)
      go_end0
      exact ⟨rfl, σ9, Rp, K8.trans Kq, Pq⟩
end

end Go.Proofs.Ybulkjrk
