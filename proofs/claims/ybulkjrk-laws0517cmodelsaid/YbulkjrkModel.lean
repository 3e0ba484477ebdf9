/-
  OWN WORK: LawS0517CModel.
-/
import Derived.Test.YbulkjrkQ1
import Derived.Test.YbulkjrkW31
namespace Go.Proofs.Ybulkjrk
open Go.RowKit
set_option maxRecDepth 100000 in
theorem model_great {W : World} {a : Option Addr} {n cap : Nat} (hn : 1024 < n) (x : Int) :
    Calls Yba.prog 6 #[.slice a n cap, .int .u8 x] W fun e w' => e = .returned (.bool true) ∧ Below W.heap.size W w' := by
  have hnI : (1024 : Int) < (n : Int) := by omega
  go_enter Yba.func6, Yba.ntmps6
  go_wp2
  go_ret
  exact ⟨rfl, Below.refl _ _⟩
theorem model_law {W : World} {v : Value} (h : IsStops W v) (x : Int) (hx : 0 ≤ x ∧ x ≤ 255) : Calls Yba.prog 6 #[v, .int .u8 x] W fun e w' => e = .returned (.bool true) ∧ Below W.heap.size W w' := by
  obtain ⟨a, n, cap, rfl, bs, os, en, sl, st, li, qy, ha, hI⟩ := h
  by_cases hn : n ≤ 1024
  · exact model_any ha hI hn x hx
  · exact model_great (by omega) x
end Go.Proofs.Ybulkjrk
namespace Go.Proofs.Ybulkjrk.lawS0517CModel
open Go.ChangeShapes Go.WideShapes Go.ChangeAt Go.RowKit
set_option linter.unusedVariables false
set_option linter.unusedSimpArgs false

theorem own : ownKnob Yba.prog.godebug = none := by kernel_rfl
theorem laidOut : laidOutB Yba.prog = true := by kernel_rfl

set_option maxRecDepth 100000 in
theorem lifted (os : Os) (started : os.Started) (H : Type) (enc : TypeId × Value → H) :
    ReturnsInHanded {} Yba.checked os 6 .any (Rows.lawS0517CModelSpec.pre6 enc Yba.prog Yba.f6 Rows.lawS0517CModelRow.domain false) (Rows.lawS0517CModelSpec.post enc Yba.prog Yba.f6 false true false false) := by
  refine returnsInHanded_of_change (C := Yba.checked) own started (by kernel_rfl) Yba.func6
    (ChangeSpec.witness6 (enc := enc) (C := Yba.checked) false ⟨#[], #[.slice none 0 0, .int .u8 0], []⟩ 8 (by kernel_rfl) (by kernel_rfl) (by kernel_rfl) (by kernel_rfl)) ?_
  intro W base args ds gs before hval0 hW hcnd _
  have hval : ∀ (j : Nat) t v, Yba.f6.params[j]? = some t → args[j]? = some v → Value.okWide Yba.prog W .any base t v := hval0
  have hW' := hW
  obtain ⟨p, q, hA0, hV, rfl, hfz, hnd⟩ := hW
  have hA : DataW.TrodAll enc Yba.prog W 0 (fun _ => true) true Yba.f6.params.toList args.toList ds p := hA0
  rw [Yba.params6] at hA hval
  obtain ⟨v0, vs0, d0, ds0, p0, q0, hargs, rfl, rfl, h0, r0⟩ := trodAll_cons hA
  obtain ⟨v1, vs1, d1, ds1, p1, q1, rfl, rfl, rfl, h1, r1⟩ := trodAll_cons r0
  obtain ⟨rfl, rfl, rfl⟩ := trodAll_nil r1
  obtain rfl : args = #[v0, v1] := by cases args; simp_all
  obtain ⟨rfl, rfl⟩ := trodVars_none hV
  have k0 := h0
  have lt0 : ∀ x ∈ p0, x.block < W.heap.size := by obtain ⟨m, hm⟩ := k0; exact DataW.trod_lt m _ _ _ hm
  have k1 := h1
  have lt1 : ∀ x ∈ p1, x.block < W.heap.size := by obtain ⟨m, hm⟩ := k1; exact DataW.trod_lt m _ _ _ hm
  have w0 := open_stops h0 (okWide_slice Yba.underlying61 (hval 0 61 v0 rfl rfl))
  obtain ⟨x1, rfl, -, -, wf1⟩ := open_int Yba.underlying5 (hval 1 5 v1 rfl rfl) h1
  have hx1 : 0 ≤ x1 ∧ x1 ≤ 255 := by
    simp [Lit.wf, IntKind.min, IntKind.max, IntKind.signed, IntKind.bits] at wf1
    omega
  clear hA0 hval0
  refine (model_law w0 x1 hx1).mono fun e W' ⟨he, bel⟩ => ?_
  subst he
  exact ⟨_, rfl, _, _, _, [], _, [], hW', trodAll_mk1 (shut_bool Yba.underlying4 _), (trodAll_cons_mk (Below.trod laidOut (by kernel_rfl) (of_decide_eq_true (by kernel_rfl)) k0 bel lt0) (trodAll_cons_mk (Below.trod laidOut (by kernel_rfl) (of_decide_eq_true (by kernel_rfl)) k1 bel lt1) trodAll_mk0)), rfl, bel.frame _, fun h => by cases h⟩

theorem over : Rows.lawS0517CModelRow.holds Yba.pinned (OpenSpec.ofChange Rows.lawS0517CModelSpec) :=
  OpenClaim.holds_of_wide 6 Yba.f6 rfl rfl rfl rfl rfl rfl rfl ⟨rfl, rfl, rfl, rfl, rfl⟩ rfl rfl rfl rfl rfl (by kernel_rfl) Yba.func6 (by kernel_rfl)
    (of_decide_eq_true (by kernel_rfl)) (by unfold Func.isWrapper; first | (rw [if_pos (by decide +kernel)]; kernel_rfl) | (rw [if_neg (by decide +kernel)]; exact ⟨rfl, rfl⟩))
    (fun os started H enc _ => lifted os started H enc)

end Go.Proofs.Ybulkjrk.lawS0517CModel
namespace Go.Proofs.Ybulkjrk
/-- THE STATEMENT. -/
theorem lawS0517CModelProved : Rows.LawS0517CModelSaid := lawS0517CModel.over
#print axioms lawS0517CModelProved
end Go.Proofs.Ybulkjrk
