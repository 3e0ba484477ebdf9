/-
  OWN WORK: trade (which trades nothing), appendRejected.
-/
import Derived.Test.YbulkjrkW17
namespace Go.Proofs.Ybulkjrk
open Go.RowKit
set_option linter.unusedSimpArgs false
set_option linter.unusedVariables false
set_option linter.unusedSectionVars false
set_option maxRecDepth 100000
variable [Base]
section
variable {ob : Nat → Nat} {m c eb bb : Nat} {g : Gp} {W W' : World} {q : Nat → List Nat} {tot : Nat → Int} {lev : Nat → Option Nat}
set_option maxHeartbeats 1000000 in
theorem trade_any (h : Ph ob m eb bb g W) {k : Nat} (hk : k < 4) (i : Nat) (sell : Bool) (price qty stop sp : Int) (b0 : 0 < qty) (hx : crossed (buyk k) (g.σ k) price = false) (evs : Value) :
    Calls Yba.prog 47 #[.pointer (some ⟨eb, 0, none⟩), .pointer (some ⟨bb, 1 + 4 * k, none⟩), ordv i sell price qty stop sp, evs] W fun e w' => e = .returned (.tuple #[.int .i64 qty, evs]) ∧ Below W.heap.size W w' := by
  obtain ⟨sv, hsv⟩ : ∃ sv : Int, sdV sell = .int .u8 sv := ⟨_, rfl⟩
  unfold ordv
  rw [hsv]
  obtain ⟨W0, hW0⟩ : ∃ W0, W0 = W.alloc (.cells #[.int .u64 7, .int .u64 i, .string ⟨#[83]⟩, .int .u8 sv, .int .i64 price, .int .i64 qty, .int .u8 stop, .int .i64 sp, .int .u8 0] 99) := ⟨_, rfl⟩
  have h0 : Ph ob m eb bb g W0 := by rw [hW0]; exact h.alloc _
  have hB0 : Below W.heap.size W W0 := by rw [hW0]; exact (Below.refl _ _).alloc (Nat.le_refl _) _
  have c4 : W0.cell? ⟨W.heap.size, 4, none⟩ = some (.int .i64 price) := by rw [hW0]; exact World.cell?_alloc_at _ _ _ _ rfl
  have z0 : W0.heap.size = W.heap.size + 1 := by rw [hW0]; simp
  have hcr := fun n => crossed_ph h0 hk price n
  rw [hx] at hcr
  go_enter Yba.func47, Yba.ntmps47
  go_wp2
  rw [← hW0]
  go_loopw [3, 10] (fun ve vq wr => ve = evs ∧ vq = .int .i64 qty ∧ wr = W0) (fun _ _ _ => 0)
  case atStart => exact ⟨rfl, rfl, rfl⟩
  case round =>
    obtain ⟨rfl, rfl, rfl⟩ := hrel
    have hc0 := hcr 0
    have HC := hide (And.intro hcr (And.intro h0 hB0))
    clear hcr h0 hB0 hW0 h
    simp only [World.drewN] at hc0
    go_wp2_with (go_at_call 44; refine hc0.mono ?_; rintro e w2 ⟨rfl, n2, rfl⟩)
    go_ret2
    exact ⟨rfl, below_draws HC.out.2.2 _⟩

/-- An event's nine cells. -/
def evc (kind : Int) (i : Int) : List Value := [.int .u8 kind, .int .u64 7, .int .u64 i, .string ⟨#[]⟩, .int .u8 0, .int .i64 0, .int .i64 0, .int .u64 0, .int .u64 0]
theorem info59 : (Yba.prog.info? 59).map (fun i => (i.zero, i.size, i.bytes)) = some (some (.agg #[.int .u8 0, .int .u64 0, .int .u64 0, .string ⟨#[]⟩, .int .u8 0, .int .i64 0, .int .i64 0, .int .u64 0, .int .u64 0]), 9, 80) := by kernel_rfl
set_option maxHeartbeats 1000000 in
theorem rejected_any {v : Value} {n : Nat} {xs : List Value} (ho : W.ownsRow Base.B 59 9 v n xs) (hn : n ≤ 10000) (hbs : Base.B ≤ W.heap.size) (i : Nat) :
    Calls Yba.prog 31 #[v, kv i] W fun e w' => ∃ v', e = .returned v' ∧ w'.ownsRow Base.B 59 9 v' (n + 1) (xs ++ evc 2 i) ∧ Fr (fun b => v.ownBlock = some b) W w' ∧ (v'.ownBlock = v.ownBlock ∨ ∀ b, v'.ownBlock = some b → W.heap.size ≤ b) := by
  obtain ⟨i3, hi3, hz3, hs3, hb3⟩ := info_parts info59
  unfold kv
  go_enter Yba.func31, Yba.ntmps31
  go_wp2_with (at_builtin; (refine wpList_append_lies _ rfl _ _ 40 rfl Base.B 59 i3 _ 9 80 Yba.underlying40 hi3 hz3 hs3 hb3 rfl (by decide) v n xs rfl ((ho.alloc _).alloc _) _ 1 1 (evc 2 i) rfl rfl (lit_cells' _ _ _ (by simp)) (by simp [evc, Value.oneCell']) (by omega) (by unfold maxLen; omega) (by omega) (by simp; omega) _ rfl ?_); intro g cap w2 hown hgrow hat hlt)
  go_ret
  have F2 := Fr.grown (n' := 0) (v' := undef) (xs' := []) ((ho.alloc _).alloc _) (by simp [rowTag]) hgrow
  refine ⟨_, rfl, hown, (((Fr.refl _ W).alloc _).alloc _).join F2 (fun b _ e => e), ?_⟩
  rcases hat with h1 | h1
  · exact .inl (by rw [h1]; rfl)
  · refine .inr fun b hb => ?_
    have hgb : g = b := by simpa [Value.ownBlock] using hb
    simp at h1
    omega
end
end Go.Proofs.Ybulkjrk
