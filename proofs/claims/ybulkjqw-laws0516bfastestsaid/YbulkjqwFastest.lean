import Derived.Test.YbulkjqwG3
import Derived.Test.YbulkjqwG4
namespace Go.Proofs.Ybulkjqw
open Go.ChangeShapes Go.WideShapes Go.ChangeAt Go.RowKit
set_option linter.unusedSimpArgs false
set_option linter.unusedVariables false

theorem law_any (pc po pr pf : Option Addr) (F cF M cM Q cQ N cN : Nat) (bcf ocf bor oor brn orn bfr ofr : Nat) (x0 x1 x2 : Nat → Nat) (x3 : Nat → Int) (ou ru f0 f1 : Nat → Nat) (wt hd0 : Nat) (rest : Int) (w : World)
    (hx0 : ∀ i, x0 i ≤ 255) (hx1 : ∀ i, x1 i ≤ 255) (hx2 : ∀ i, x2 i ≤ 255) (hou : ∀ i, ou i ≤ 255) (hru : ∀ i, ru i ≤ 255) (hf0 : ∀ i, f0 i ≤ 255) (hf1 : ∀ i, f1 i ≤ 255) (hwt : wt ≤ 255) (hhd : hd0 ≤ 255)
    (hpc : InRow w pc F 4 bcf ocf fun i k => if k = 0 then .int .u8 (x0 i) else if k = 1 then .int .u8 (x1 i) else if k = 2 then .int .u8 (x2 i) else .int .i64 (x3 i))
    (hpo : InRow w po M 1 bor oor fun i _ => .int .u8 (ou i)) (hpr : InRow w pr Q 1 brn orn fun i _ => .int .u8 (ru i))
    (hpf : InRow w pf N 2 bfr ofr fun i k => if k = 0 then .int .u8 (f0 i) else .int .u8 (f1 i)) :
    Calls Yba.prog 5 #[.slice pc F cF, .slice po M cM, .int .u8 wt, .int .u8 hd0, .slice pr Q cQ, .slice pf N cN, .int .i64 rest] w
      fun e w' => e = .returned (.bool true) ∧ Below w.heap.size w w' := by
  by_cases h1 : F ≤ 1024 ∧ M ≤ 1024 ∧ Q ≤ 1024 ∧ N ≤ 256
  · exact law_all pc po pr pf F cF M cM Q cQ N cN bcf ocf bor oor brn orn bfr ofr x0 x1 x2 x3 ou ru f0 f1 wt hd0 rest w h1.1 h1.2.1 h1.2.2.1 h1.2.2.2 hx0 hx1 hx2 hou hru hf0 hf1 hwt hhd hpc hpo hpr hpf
  · exact law_great pc po pr pf F cF M cM Q cQ N cN _ _ _ w (by omega)

namespace lawS0516BFastest
theorem own : ownKnob Yba.prog.godebug = none := by kernel_rfl
theorem laidOut : laidOutB Yba.prog = true := by kernel_rfl

set_option maxRecDepth 100000 in
theorem lifted (os : Os) (started : os.Started) (H : Type) (enc : TypeId × Value → H) :
    ReturnsInHanded {} Yba.checked os 5 .any (Rows.lawS0516BFastestSpec.pre6 enc Yba.prog Yba.f5 Rows.lawS0516BFastestRow.domain false) (Rows.lawS0516BFastestSpec.post enc Yba.prog Yba.f5 false true false false) := by
  refine returnsInHanded_of_change (C := Yba.checked) own started (by kernel_rfl) Yba.func5
    (ChangeSpec.witness6 (enc := enc) (C := Yba.checked) false ⟨#[], #[.slice none 0 0, .slice none 0 0, .int .u8 0, .int .u8 0, .slice none 0 0, .slice none 0 0, .int .i64 0], []⟩ 8 (by kernel_rfl) (by kernel_rfl) (by kernel_rfl) (by kernel_rfl)) ?_
  intro W base args ds gs before hval0 hW hcnd _
  have hval : ∀ (j : Nat) t v, Yba.f5.params[j]? = some t → args[j]? = some v → Value.okWide Yba.prog W .any base t v := hval0
  have hW' := hW
  obtain ⟨p, q, hA0, hV, rfl, hfz, hnd⟩ := hW
  have hA : DataW.TrodAll enc Yba.prog W 0 (fun _ => true) true Yba.f5.params.toList args.toList ds p := hA0
  rw [Yba.params5] at hA hval
  obtain ⟨v0, vs0, d0, ds0, p0, q0, hargs, rfl, rfl, h0, r0⟩ := trodAll_cons hA
  obtain ⟨v1, vs1, d1, ds1, p1, q1, rfl, rfl, rfl, h1, r1⟩ := trodAll_cons r0
  obtain ⟨v2, vs2, d2, ds2, p2, q2, rfl, rfl, rfl, h2, r2⟩ := trodAll_cons r1
  obtain ⟨v3, vs3, d3, ds3, p3, q3, rfl, rfl, rfl, h3, r3⟩ := trodAll_cons r2
  obtain ⟨v4, vs4, d4, ds4, p4, q4, rfl, rfl, rfl, h4, r4⟩ := trodAll_cons r3
  obtain ⟨v5, vs5, d5, ds5, p5, q5, rfl, rfl, rfl, h5, r5⟩ := trodAll_cons r4
  obtain ⟨v6, vs6, d6, ds6, p6, q6, rfl, rfl, rfl, h6, r6⟩ := trodAll_cons r5
  obtain ⟨rfl, rfl, rfl⟩ := trodAll_nil r6
  obtain rfl : args = #[v0, v1, v2, v3, v4, v5, v6] := by cases args; simp_all
  obtain ⟨rfl, rfl⟩ := trodVars_none hV
  have k0 := h0
  have lt0 : ∀ x ∈ p0, x.block < W.heap.size := by obtain ⟨m, hm⟩ := k0; exact DataW.trod_lt m _ _ _ hm
  have k1 := h1
  have lt1 : ∀ x ∈ p1, x.block < W.heap.size := by obtain ⟨m, hm⟩ := k1; exact DataW.trod_lt m _ _ _ hm
  have k2 := h2
  have lt2 : ∀ x ∈ p2, x.block < W.heap.size := by obtain ⟨m, hm⟩ := k2; exact DataW.trod_lt m _ _ _ hm
  have k3 := h3
  have lt3 : ∀ x ∈ p3, x.block < W.heap.size := by obtain ⟨m, hm⟩ := k3; exact DataW.trod_lt m _ _ _ hm
  have k4 := h4
  have lt4 : ∀ x ∈ p4, x.block < W.heap.size := by obtain ⟨m, hm⟩ := k4; exact DataW.trod_lt m _ _ _ hm
  have k5 := h5
  have lt5 : ∀ x ∈ p5, x.block < W.heap.size := by obtain ⟨m, hm⟩ := k5; exact DataW.trod_lt m _ _ _ hm
  have k6 := h6
  have lt6 : ∀ x ∈ p6, x.block < W.heap.size := by obtain ⟨m, hm⟩ := k6; exact DataW.trod_lt m _ _ _ hm
  obtain ⟨pc, F, cF, rfl⟩ := okWide_slice Yba.underlying37 (hval 0 37 v0 rfl rfl)
  obtain ⟨po, M, cM, rfl⟩ := okWide_slice Yba.underlying38 (hval 1 38 v1 rfl rfl)
  obtain ⟨x2, rfl, -, -, wf2⟩ := open_int Yba.underlying5 (hval 2 5 v2 rfl rfl) h2
  obtain ⟨x3, rfl, -, -, wf3⟩ := open_int Yba.underlying5 (hval 3 5 v3 rfl rfl) h3
  obtain ⟨pr, Q, cQ, rfl⟩ := okWide_slice Yba.underlying38 (hval 4 38 v4 rfl rfl)
  obtain ⟨pf, N, cN, rfl⟩ := okWide_slice Yba.underlying39 (hval 5 39 v5 rfl rfl)
  obtain ⟨x6, rfl, -, -, -⟩ := open_int Yba.underlying3 (hval 6 3 v6 rfl rfl) h6
  obtain ⟨y2, rfl, b2⟩ := u8_in wf2
  obtain ⟨y3, rfl, b3⟩ := u8_in wf3
  obtain ⟨bA, oA, a0, a1, a2, a3, kA0, kA1, kA2, hA9⟩ := in_cfg h0
  obtain ⟨bB, oB, ou, kB, hB9⟩ := in_u8 h1
  obtain ⟨bC, oC, ru, kC, hC9⟩ := in_u8 h4
  obtain ⟨bD, oD, f0, f1, kD0, kD1, hD9⟩ := in_free h5
  clear hA0 hval0
  refine (law_any pc po pr pf F cF M cM Q cQ N cN bA oA bB oB bC oC bD oD a0 a1 a2 a3 ou ru f0 f1 y2 y3 x6 W kA0 kA1 kA2 kB kC kD0 kD1 b2 b3 hA9 hB9 hC9 hD9).mono fun e W' ⟨he, bel⟩ => ?_
  subst he
  exact ⟨_, rfl, _, _, _, [], _, [], hW', trodAll_mk1 (shut_bool Yba.underlying4 _), (trodAll_cons_mk (Below.trod laidOut (by kernel_rfl) (of_decide_eq_true (by kernel_rfl)) k0 bel lt0) (trodAll_cons_mk (Below.trod laidOut (by kernel_rfl) (of_decide_eq_true (by kernel_rfl)) k1 bel lt1) (trodAll_cons_mk (Below.trod laidOut (by kernel_rfl) (of_decide_eq_true (by kernel_rfl)) k2 bel lt2) (trodAll_cons_mk (Below.trod laidOut (by kernel_rfl) (of_decide_eq_true (by kernel_rfl)) k3 bel lt3) (trodAll_cons_mk (Below.trod laidOut (by kernel_rfl) (of_decide_eq_true (by kernel_rfl)) k4 bel lt4) (trodAll_cons_mk (Below.trod laidOut (by kernel_rfl) (of_decide_eq_true (by kernel_rfl)) k5 bel lt5) (trodAll_cons_mk (Below.trod laidOut (by kernel_rfl) (of_decide_eq_true (by kernel_rfl)) k6 bel lt6) trodAll_mk0))))))), rfl, bel.frame _, fun h => by cases h⟩

theorem over : Rows.lawS0516BFastestRow.holds Yba.pinned (OpenSpec.ofChange Rows.lawS0516BFastestSpec) :=
  OpenClaim.holds_of_wide 5 Yba.f5 rfl rfl rfl rfl rfl rfl rfl ⟨rfl, rfl, rfl, rfl, rfl⟩ rfl rfl rfl rfl rfl (by kernel_rfl) Yba.func5 (by kernel_rfl)
    (of_decide_eq_true (by kernel_rfl)) (by unfold Func.isWrapper; first | (rw [if_pos (by decide +kernel)]; kernel_rfl) | (rw [if_neg (by decide +kernel)]; exact ⟨rfl, rfl⟩))
    (fun os started H enc _ => lifted os started H enc)
end lawS0516BFastest
/-- THE STATEMENT. -/
theorem lawS0516BFastestProved : Rows.LawS0516BFastestSaid := lawS0516BFastest.over
#print axioms lawS0516BFastestProved

end Go.Proofs.Ybulkjqw
