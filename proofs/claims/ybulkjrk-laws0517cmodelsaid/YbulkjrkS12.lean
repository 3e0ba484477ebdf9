/-
  OWN WORK: sort.Sort.
-/
import Derived.Test.YbulkjrkS11
namespace Go.Proofs.Ybulkjrk
open Go.RowKit
open Go.Sort (swp SWO PermIn SortedIn)
set_option linter.unusedSimpArgs false
set_option linter.unusedVariables false
variable {lt : Nat → Nat → Bool}
section
variable {rv sv : Value} {n N0 : Nat} {R : Array Nat → World → Prop}
theorem pdq_any (h : Srt lt rv sv n N0 R) (hS : SWO lt) (hT : ∀ x y, x ≠ y → lt x y = false → lt y x = true) : ∀ m, PdqIH lt rv n R m
  | 0 => fun x y l u v l' dn W _ _ _ hm => by omega
  | m + 1 => fun x y l u v l' dn W hu hv hl hm hxy hy hl64 hR hnd hB => by
    subst hu; subst hv; subst hl
    exact pdq_step h hS hT x y l hxy hy hl64 dn W hR hnd hB (fun x' y' l u v l' dn W e1 e2 e3 h4 => pdq_any h hS hT m x' y' l u v l' dn W e1 e2 e3 (by omega))

set_option maxHeartbeats 4000000 in
set_option maxRecDepth 100000 in
theorem sort_any (h : Srt lt rv sv n N0 R) (hS : SWO lt) (hT : ∀ x y, x ≠ y → lt x y = false → lt y x = true) {d : Array Nat} {W : World} (hr : R d W) (hnd : d.toList.Nodup) :
    Calls Yba.prog 41 #[.iface 120 rv] W fun e w' => e = .returned (.tuple #[]) ∧ ∃ d', R d' w' ∧ PermIn 0 n d d' ∧ SortedIn lt 0 n d' := by
  have hsm := h.small
  have hsz := h.size hr
  have mLn := h.fLen hr
  go_enter Yba.func41, Yba.ntmps41
  by_cases c1 : n ≤ 1
  · go_wp2_with (go_at_call 96; refine (h.len hr).mono ?_; rintro e w' ⟨rfl, rfl⟩)
    ((try simp only [Exit.inBlock, Exit.then]); refine bodyPost_ret (results_none rfl _ _ _) rfl ?_)
    exact ⟨rfl, d, hr, Sort.permIn_refl _ _ _, fun i j _ _ _ => by omega⟩
  · have hL := len_any (n : Int) W (by omega) (by omega)
    have hbl : Lib.bitLen ((n : Int)).toNat ≤ 64 := Lib.bitLen_le _ 64 (by omega) (by omega)
    generalize Lib.bitLen ((n : Int)).toNat = k at hL hbl
    go_wp2_with (first
      | (go_at_call 96; refine (h.len hr).mono ?_; rintro e w' ⟨rfl, rfl⟩)
      | (go_at_call 55; refine hL.mono ?_; rintro e w' ⟨rfl, rfl⟩)
      | (go_at_call 56; refine (pdq_any h hS hT (n + 1) 0 n k _ _ _ _ _ (by omega) (by omega) (by omega) (by omega) (by omega) (by omega) (by omega) hr hnd (.inl rfl)).mono ?_; rintro e w2 ⟨rfl, d2, hR2, hP2, hs2⟩))
    go_end0
    exact ⟨rfl, d2, hR2, hP2, hs2⟩
end
end Go.Proofs.Ybulkjrk
