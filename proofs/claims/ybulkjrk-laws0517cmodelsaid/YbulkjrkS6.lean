/-
  OWN WORK: xorshift.Next, bits.Len, nextPowerOfTwo.
-/
import Derived.Test.YbulkjrkK
import Derived.Shelf.Small.Bits
import Derived.Shelf.Lay
import Derived.Lib.ItoaNum
import Derived.Laws.Bits64b
namespace Go.Proofs
shelf_lay Lays.n125 Nm 125 at Yba as Yba.l125
end Go.Proofs
namespace Go.Proofs.Ybulkjrk
open Go.RowKit
set_option linter.unusedSimpArgs false
set_option linter.unusedVariables false
theorem len_any (x : Int) (w : World) (h0 : 0 ≤ x) (h1 : x < 2 ^ 64) : Calls Yba.prog 55 #[.int .u64 x] w fun e w' => e = .returned (.int .i64 (Lib.bitLen x.toNat)) ∧ w' = w :=
  Any.bits_Len Yba.l125 x w h0 (by omega)
structure BxU (b : Nat) (W : World) : Prop where
  cell : ∃ s : Int, W.cell? ⟨b, 0, none⟩ = some (.int .u64 s) ∧ 0 ≤ s ∧ s < 2 ^ 64
  fz : W.frozen? ⟨b, 0, none⟩ = false

theorem u64_bits (op : BinOp) (x y : Int) : 0 ≤ bits op .u64 x y ∧ bits op .u64 x y < 2 ^ 64 := by
  unfold bits
  split <;> (simp [IntKind.wrap, IntKind.signed, IntKind.bits]; omega)
theorem BxU.put {rb : Nat} {W : World} (h : BxU rb W) (op : BinOp) (x y : Int) : BxU rb (W.setCell ⟨rb, 0, none⟩ (.int .u64 (bits op .u64 x y))) := by
  obtain ⟨⟨s, hc, _⟩, hf⟩ := h
  exact ⟨⟨_, World.cell?_setCell_same _ _ _ hc, u64_bits op x y⟩, (World.frozen?_setCell _ _ _ _).trans hf⟩
theorem BxU.drewN {rb : Nat} {W : World} (h : BxU rb W) (n : Nat) : BxU rb (W.drewN n) := ⟨h.cell, h.fz⟩
theorem BxU.drew {rb : Nat} {W : World} (h : BxU rb W) : BxU rb W.drew := ⟨h.cell, h.fz⟩

set_option maxHeartbeats 1000000 in
set_option maxRecDepth 100000 in
theorem next_any {rb : Nat} {N0 : Nat} (hN : N0 ≤ rb) {W : World} (hx : BxU rb W) :
    Calls Yba.prog 73 #[.pointer (some ⟨rb, 0, none⟩)] W fun e w' => ∃ s : Int, e = .returned (.int .u64 s) ∧ 0 ≤ s ∧ s < 2 ^ 64 ∧ BxU rb w' ∧ Below N0 W w' := by
  have hB0 : Below N0 W W := Below.refl _ _
  go_enter Yba.func73, Yba.ntmps73
  obtain ⟨⟨s, hc, h0, h1⟩, hf⟩ := id hx
  go_wp2
  go_region
  have hx1 := (hx.put .xor s (IntKind.u64.wrap (s * 8192))).drew
  have hB1 : Below N0 W (W.setCell ⟨rb, 0, none⟩ (.int .u64 (bits .xor .u64 s (IntKind.u64.wrap (s * 8192))))).drew := below_draws (hB0.setCell hN _) 1
  generalize (W.setCell ⟨rb, 0, none⟩ (.int .u64 (bits .xor .u64 s (IntKind.u64.wrap (s * 8192))))).drew = W1 at hx1 hB1 ⊢
  clear hx hc hf h0 h1
  obtain ⟨⟨s1, hc, h0, h1⟩, hf⟩ := id hx1
  go_wp2
  go_region
  have hx2 := (hx1.put .xor s1 (s1 / 128)).drew
  have hB2 : Below N0 W (W1.setCell ⟨rb, 0, none⟩ (.int .u64 (bits .xor .u64 s1 (s1 / 128)))).drew := below_draws (hB1.setCell hN _) 1
  generalize (W1.setCell ⟨rb, 0, none⟩ (.int .u64 (bits .xor .u64 s1 (s1 / 128)))).drew = W2 at hx2 hB2 ⊢
  clear hx1 hc hf h0 h1 hB1
  obtain ⟨⟨s2, hc, h0, h1⟩, hf⟩ := id hx2
  go_wp2
  go_region
  have hx3 := (hx2.put .xor s2 (IntKind.u64.wrap (s2 * 131072))).drew
  have hB3 : Below N0 W (W2.setCell ⟨rb, 0, none⟩ (.int .u64 (bits .xor .u64 s2 (IntKind.u64.wrap (s2 * 131072))))).drew := below_draws (hB2.setCell hN _) 1
  generalize (W2.setCell ⟨rb, 0, none⟩ (.int .u64 (bits .xor .u64 s2 (IntKind.u64.wrap (s2 * 131072))))).drew = W3 at hx3 hB3 ⊢
  clear hx2 hc hf h0 h1 hB2
  obtain ⟨⟨s3, hc, h0, h1⟩, hf⟩ := id hx3
  go_wp2
  go_ret
  exact ⟨s3, rfl, h0, h1, hx3, hB3⟩

set_option maxHeartbeats 1000000 in
set_option maxRecDepth 100000 in
theorem pow2_any (x : Int) (l : Nat) (hx : x = l) (h1 : 1 ≤ l) (h2 : l ≤ 1024) (W : World) :
    Calls Yba.prog 72 #[.int .i64 x] W fun e w' => ∃ M : Nat, e = .returned (.int .u64 M) ∧ l < M ∧ M ≤ 2 * l ∧ w' = W := by
  subst hx
  have hb := Lib.bitLenAux_bounds 64 l (by omega) (by omega)
  have hL := len_any (l : Int) W (by omega) (by omega)
  rw [show Lib.bitLen ((l : Int)).toNat = Lib.bitLenAux 64 l from rfl] at hL
  generalize Lib.bitLenAux 64 l = k at hb hL
  obtain ⟨b1, b2, b3⟩ := hb
  have hk : k ≤ 11 := by
    apply Nat.le_of_not_lt; intro h
    have := Nat.pow_le_pow_right (n := 2) (by omega) (show 11 ≤ k - 1 by omega)
    omega
  have hM : 2 ^ k ≤ 2 * l := by
    have : 2 ^ k = 2 * 2 ^ (k - 1) := by rw [← Nat.pow_succ']; congr 1; omega
    omega
  go_enter Yba.func72, Yba.ntmps72
  go_wp2_with (go_at_call 55; refine hL.mono ?_; rintro e w' ⟨rfl, rfl⟩)
  go_ret
  refine ⟨2 ^ k, ?_, b3, hM, rfl⟩
  have : (2 ^ k : Nat) ≤ 2048 := by omega
  have e : ((2 : Int) ^ k) = ((2 ^ k : Nat) : Int) := by simp
  rw [e]
  generalize 2 ^ k = M at *
  have : IntKind.u64.wrap (M : Int) = M := by simp [IntKind.wrap, IntKind.signed, IntKind.bits]; omega
  rw [this]
  rfl
end Go.Proofs.Ybulkjrk
