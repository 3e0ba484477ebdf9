/-
  OWN WORK: the walk of rebalance.
-/
import Derived.Test.YbulkjrkV7
import Derived.Deep.LoopGhost
namespace Go.Proofs.Ybulkjrk
open Go.RowKit
set_option linter.unusedSimpArgs false
set_option linter.unusedVariables false

theorem Tree.hb {σ : Sd} {par b l h} (t : Tree σ par b l h) : l.length < 2 ^ 20 → ∀ y ∈ l, 0 ≤ σ.h y ∧ σ.h y ≤ 41 := by
  refine Tree.ind (σ := σ) (P := fun par b l h => l.length < 2 ^ 20 → ∀ y ∈ l, 0 ≤ σ.h y ∧ σ.h y ≤ 41) (fun _ _ y hy => by simp at hy) ?_ t
  intro par x l1 l2 h1 h2 h e1 t1 t2 e2 e3 e4 e5 i1 i2 hl y hy
  have hlen : l1.length + (l2.length + 1) < 2 ^ 20 := by simpa using hl
  have tt : Tree σ par (some x) (l1 ++ x :: l2) h := Tree.node e1 t1 t2 e2 e3 e4 e5
  rcases List.mem_append.1 hy with hy | hy
  · exact i1 (by omega) y hy
  · rcases List.mem_cons.1 hy with rfl | hy
    · rw [e2]; exact ⟨tt.pos, tt.low hl⟩
    · exact i2 (by omega) y hy
theorem C.hb {σ : Sd} {n : Nat} : ∀ {p hole was L R}, C σ n p hole was L R → 0 ≤ was → L.length + R.length < 2 ^ 20 → ∀ y, y ∈ L ∨ y ∈ R → 0 ≤ σ.h y ∧ σ.h y ≤ 43 := by
  induction n with
  | zero => intro p hole was L R c; exact c.elim
  | succ n ih =>
    intro p hole was L R c hw hl y hy
    rcases c with ⟨rfl, e, rfl, rfl⟩ | ⟨q, d, ls, ho, L', R', rfl, e1, ts, e2, e3, e4, c, e5⟩
    · simp at hy
    · have hlen : ls.length + (L'.length + R'.length) + 1 < 2 ^ 20 := by
        rcases e5 with ⟨rfl, rfl, rfl⟩ | ⟨rfl, rfl, rfl⟩ <;> simp at hl <;> omega
      have hlow := ts.low (by omega)
      have hpos := ts.pos
      have hq : 0 ≤ σ.h q ∧ σ.h q ≤ 43 := by omega
      have hm : y = q ∨ y ∈ ls ∨ (y ∈ L' ∨ y ∈ R') := by
        rcases e5 with ⟨rfl, rfl, rfl⟩ | ⟨rfl, rfl, rfl⟩
        · simp at hy
          rcases hy with h | h | h | h <;> simp [h]
        · simp at hy
          rcases hy with (h | h | h) | h <;> simp [h]
      rcases hm with rfl | h | h
      · exact hq
      · have := ts.hb (by omega) y h; omega
      · exact ih c hq.1 (by omega) y h
theorem RB.hb {σ : Sd} {n x : Nat} {l L R : List Nat} (h : RB σ n x l L R) (hl : (L ++ (l ++ R)).length < 2 ^ 20) : ∀ y, y ∈ L ++ (l ++ R) → 0 ≤ σ.h y ∧ σ.h y ≤ 43 := by
  obtain ⟨l1, l2, h1, h2, c1, c2, rfl, t1, t2, ctx, nd, e1, e2, e3, e4⟩ := h
  simp at hl
  have p1 := t1.pos
  have p2 := t2.pos
  have u1 := t1.low (by omega)
  have u2 := t2.low (by omega)
  intro y hy
  simp at hy
  have hq : 0 ≤ σ.h x ∧ σ.h x ≤ 43 := by omega
  rcases hy with h | h | h | h | h
  · exact ctx.hb hq.1 (by omega) y (.inl h)
  · have := t1.hb (by omega) y h; omega
  · subst h; exact hq
  · have := t2.hb (by omega) y h; omega
  · exact ctx.hb hq.1 (by omega) y (.inr h)
theorem RB.mem {σ : Sd} {n x : Nat} {l L R : List Nat} (h : RB σ n x l L R) : x ∈ L ++ (l ++ R) := by
  obtain ⟨l1, l2, h1, h2, c1, c2, rfl, _⟩ := h
  simp

section
variable {S : Sid} {ex : Nat → Nat → Value} {s0 : Value} {ll : List Nat}
/-- A round's call of balance. -/
theorem balance_rb {W : World} {σ : Sd} {n x : Nat} {l L R : List Nat} (h : Rep S (· ∈ ll) ex s0 W σ) (hC : Cl σ (· ∈ ll)) (hlen : ll.length < 2 ^ 20) (hRB : RB σ n x l L R) (e : L ++ (l ++ R) = ll) :
    Calls Yba.prog 33 #[.pointer (some ⟨S.b, S.o, none⟩), .pointer (some ⟨x, 0, none⟩)] W fun e w' => ∃ σ' y, bal σ x = (σ', y) ∧ y ∈ ll ∧ e = .returned (.pointer (some ⟨y, 0, none⟩)) ∧ Rep S (· ∈ ll) ex s0 w' σ' ∧ Kp S (· ∈ ll) W w' ∧ Cl σ' (· ∈ ll) := by
  have hb : Hb σ (· ∈ ll) 43 := fun b hb => by rw [← e] at hb hlen; exact hRB.hb hlen b hb
  have hx : x ∈ ll := by rw [← e]; exact hRB.mem
  obtain ⟨σ', y, eb, _, _, _, hy, _⟩ := rb_step hRB
  obtain ⟨l1, l2, h1, h2, c1, c2, rfl, t1, t2, ctx, nd, e1, e2, e3, e4⟩ := hRB
  obtain ⟨nd1, nd2, nd3⟩ := nodup3 nd
  refine (balance_any x h hC hb (by omega) hx t1 t2 (by omega) (by omega) nd1 (fun y hy hm => ?_)).mono ?_
  · have := nd2 y hm
    rcases ctx.parIn hy with h | h
    · exact this.1 h
    · exact this.2 h
  · rintro e9 w' ⟨rfl, r1, r2, r3, r4⟩
    rw [eb] at r1 r3 ⊢
    exact ⟨σ', y, rfl, by rw [← e]; simp only [List.mem_append]; exact .inr (.inl (by simpa using hy)), rfl, r1, r2, r3⟩

set_option maxRecDepth 100000 in
set_option maxHeartbeats 1000000 in
theorem rebalance_any {W : World} {σ : Sd} {n x : Nat} {l L R : List Nat} (h : Rep S (· ∈ ll) ex s0 W σ) (hC : Cl σ (· ∈ ll)) (hlen : ll.length < 2 ^ 20) (hRB : RB σ n x l L R) (e : L ++ (l ++ R) = ll) :
    Calls Yba.prog 23 #[.pointer (some ⟨S.b, S.o, none⟩), .pointer (some ⟨x, 0, none⟩)] W fun e w' => e = .returned (.tuple #[]) ∧ ∃ σ', Rep S (· ∈ ll) ex s0 w' σ' ∧ Kp S (· ∈ ll) W w' ∧ Cl σ' (· ∈ ll) ∧ (∃ h', Tree σ' none σ'.root ll h') ∧ σ'.nx = σ.nx ∧ σ'.price = σ.price ∧ σ'.ends = σ.ends := by
  go_enter Yba.func23, Yba.ntmps23
  go_wp2
  go_loopg [1] n (fun k v wr => ∃ σr, Rep S (· ∈ ll) ex s0 wr σr ∧ Kp S (· ∈ ll) W wr ∧ Cl σr (· ∈ ll) ∧ (σr.nx = σ.nx ∧ σr.price = σ.price ∧ σr.ends = σ.ends) ∧ ((v = .pointer none ∧ ∃ h', Tree σr none σr.root ll h') ∨ ∃ y l' L' R', v = .pointer (some ⟨y, 0, none⟩) ∧ RB σr k y l' L' R' ∧ L' ++ (l' ++ R') = ll))
  case atStart => exact ⟨σ, h, Kp.refl _ _ _, hC, ⟨rfl, rfl, rfl⟩, .inr ⟨x, l, L, R, rfl, hRB, e⟩⟩
  case round =>
    obtain ⟨σr, hR, hK, hCr, he, hor⟩ := hrel
    rcases hor with ⟨rfl, hT⟩ | ⟨y, l', L', R', rfl, hB, e'⟩
    · go_wp2
      go_end0
      exact ⟨rfl, σr, hR, hK, hCr, hT, he.1, he.2.1, he.2.2⟩
    · have hy : y ∈ ll := by rw [← e']; exact hB.mem
      have c9 := hR.cell y hy 9 (by omega)
      simp only [lv] at c9
      have hcall := balance_rb hR hCr hlen hB e'
      obtain ⟨σ9, y9, eb, z1, z2, z3, _, hs1, hs2⟩ := rb_step hB
      have HS := hide (And.intro hs1 hs2)
      clear hs1 hs2
      go_wp2_with (go_at_call 33; refine hcall.mono ?_; rintro e w2 ⟨σ2, y2, eb2, hy2, rfl, R2, K2, C2⟩; rw [eb] at eb2; cases eb2; have d9 := R2.cell y9 hy2 9 (by omega); have d6 := R2.cell y9 hy2 6 (by omega); simp only [lv] at d9 d6)
      · rename_i hq
        have hq' : σ9.h y9 = σr.h y := by simpa using hq
        refine bodyPost_ret (results_none rfl _ _ _) rfl ?_
        exact ⟨rfl, σ9, R2, hK.trans K2, C2, by rw [← e']; exact HS.out.1 hq', z1.trans he.1, z2.trans he.2.1, z3.trans he.2.2⟩
      · rename_i hq
        have hq' : σ9.h y9 ≠ σr.h y := by simpa using hq
        have hstep := HS.out.2 hq'
        cases hp : σ9.par y9 with
        | none =>
          rw [hp] at hstep
          have hg : 0 < gk := by
            obtain ⟨_, _, _, _, _, _, _, _, _, ctx, _⟩ := hB
            cases gk with
            | zero => exact ctx.elim
            | succ _ => omega
          go_roundg 0
          case rel => exact ⟨σ9, R2, hK.trans K2, C2, ⟨z1.trans he.1, z2.trans he.2.1, z3.trans he.2.2⟩, .inl ⟨rfl, by rw [← e']; exact hstep⟩⟩
          case measure => exact hg
        | some q =>
          rw [hp] at hstep
          obtain ⟨m, l9, L9, R9, hg, hl9, hB9⟩ := hstep
          go_roundg m
          case rel => exact ⟨σ9, R2, hK.trans K2, C2, ⟨z1.trans he.1, z2.trans he.2.1, z3.trans he.2.2⟩, .inr ⟨q, l9, L9, R9, rfl, hB9, hl9.trans e'⟩⟩
          case measure => omega
end

end Go.Proofs.Ybulkjrk
