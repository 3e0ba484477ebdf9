/-
  OWN WORK: what unlink's walk leans on.
-/
import Derived.Test.YbulkjrkV14
namespace Go.Proofs.Ybulkjrk
open Go.RowKit
set_option linter.unusedSimpArgs false
set_option linter.unusedVariables false

theorem Rep.sub {S : Sid} {D D' : Nat → Prop} {ex : Nat → Nat → Value} {s0 : Value} {W : World} {σ : Sd} (h : Rep S D ex s0 W σ) (hd : ∀ b, D' b → D b) : Rep S D' ex s0 W σ :=
  ⟨fun b hb => h.lt b (hd b hb), fun b hb => h.ne b (hd b hb), h.slt, fun b hb => h.cell b (hd b hb), fun b hb => h.fz b (hd b hb), h.side, h.sfz, fun b hb => h.blk b (hd b hb)⟩
theorem Kp.mono {S : Sid} {D D' : Nat → Prop} {W W' : World} (h : Kp S D' W W') (hd : ∀ b, D' b → D b) : Kp S D W W' :=
  ⟨h.os, h.tape, h.output, h.size, fun b hb h1 h2 => h.block b hb h1 (fun h3 => h2 (hd b h3)), fun hs h2 => h.own hs (fun h3 => h2 (hd _ h3)), fun hs h2 => h.frz hs (fun h3 => h2 (hd _ h3)), h.shp⟩

theorem offNx_tree (σ : Sd) (x : Nat) : (offNx σ x).ch = σ.ch ∧ (offNx σ x).par = σ.par ∧ (offNx σ x).h = σ.h ∧ (offNx σ x).root = σ.root ∧ (offNx σ x).price = σ.price := by
  unfold offNx
  cases σ.nx x false <;> cases σ.nx x true <;> exact ⟨rfl, rfl, rfl, rfl, rfl⟩
theorem offNx_chain {σ : Sd} {L R : List Nat} {x : Nat} (hc : Chain σ (L ++ x :: R)) (nd : (L ++ x :: R).Nodup) : Chain (offNx σ x) (L ++ R) ∧ ∀ e, (offNx σ x).nx x e = σ.nx x e := by
  obtain ⟨nL, nxR, nLR⟩ := List.nodup_append.1 nd
  obtain ⟨hxR, nR⟩ := List.nodup_cons.1 nxR
  have hxL : x ∉ L := fun h => nLR x h x (by simp) rfl
  have dLR : ∀ y ∈ L, y ∉ R := fun y h1 h2 => nLR y h1 y (by simp [h2]) rfl
  obtain ⟨e0, e1⟩ := hc.1 L x R rfl
  have key : ∀ o : Option Nat, ∀ g : Option Nat, L.getLast? = o → R.head? = g → Chain (offNx σ x) (L ++ R) ∧ ∀ e, (offNx σ x).nx x e = σ.nx x e := by
    intro o g ho hg
    cases o with
    | none =>
      have hL0 : L = [] := List.getLast?_eq_none_iff.1 ho
      subst hL0
      cases g with
      | none =>
        have hR0 : R = [] := List.head?_eq_none_iff.1 hg
        subst hR0
        simp at e0 e1
        refine ⟨⟨fun A y B h => by simp at h, ?_, ?_⟩, fun e => ?_⟩
        · simp [offNx, e0, e1, setEnd, setNx]
        · simp [offNx, e0, e1, setEnd, setNx]
        · simp [offNx, e0, e1, setEnd, setNx]
      | some g =>
        rw [hg] at e1
        simp at e0
        have hgx : g ≠ x := fun e => hxR (e ▸ head_mem hg)
        have hR0 : R ≠ [] := by intro e; rw [e] at hg; simp at hg
        refine ⟨chain_remove hc nd (fun y hy => by simp at hy) (fun y hy => ?_) (fun y hy h1 h2 e => ?_) ?_ ?_, fun e => ?_⟩
        · rw [hg] at hy; cases hy
          simp [offNx, e0, e1, setEnd, setNx, up2]
        · have hyg : y ≠ g := fun e => h2 (by rw [hg, e])
          simp [offNx, e0, e1, setEnd, setNx, up2, hyg]
        · simp [offNx, e0, e1, setEnd, setNx, hg]
        · rw [if_neg hR0]; simp [offNx, e0, e1, setEnd, setNx]
        · simp [offNx, e0, e1, setEnd, setNx, up2, Ne.symm hgx]
    | some f =>
      rw [ho] at e0
      have hfL := last_mem ho
      have hfx : f ≠ x := fun e => hxL (e ▸ hfL)
      have hL0 : L ≠ [] := by intro e; rw [e] at ho; simp at ho
      cases g with
      | none =>
        have hR0 : R = [] := List.head?_eq_none_iff.1 hg
        subst hR0
        simp at e1
        refine ⟨chain_remove hc nd (fun y hy => ?_) (fun y hy => by simp at hy) (fun y hy h1 h2 e => ?_) ?_ ?_, fun e => ?_⟩
        · rw [ho] at hy; cases hy
          simp [offNx, e0, e1, setEnd, setNx, up2]
        · have hyf : y ≠ f := fun e => h1 (by rw [ho, e])
          simp [offNx, e0, e1, setEnd, setNx, up2, hyf]
        · rw [if_neg hL0]; simp [offNx, e0, e1, setEnd, setNx]
        · simp [offNx, e0, e1, setEnd, setNx, ho]
        · simp [offNx, e0, e1, setEnd, setNx, up2, Ne.symm hfx]
      | some g =>
        rw [hg] at e1
        have hgR := head_mem hg
        have hgx : g ≠ x := fun e => hxR (e ▸ hgR)
        have hfg : f ≠ g := fun e => dLR f hfL (e ▸ hgR)
        have hR0 : R ≠ [] := by intro e; rw [e] at hg; simp at hg
        refine ⟨chain_remove hc nd (fun y hy => ?_) (fun y hy => ?_) (fun y hy h1 h2 e => ?_) ?_ ?_, fun e => ?_⟩
        · rw [ho] at hy; cases hy
          rw [hg]; simp [offNx, e0, e1, setEnd, setNx, up2, hfg]
        · rw [hg] at hy; cases hy
          rw [ho]; simp [offNx, e0, e1, setEnd, setNx, up2, Ne.symm hfg]
        · have hyf : y ≠ f := fun e => h1 (by rw [ho, e])
          have hyg : y ≠ g := fun e => h2 (by rw [hg, e])
          simp [offNx, e0, e1, setEnd, setNx, up2, hyf, hyg]
        · rw [if_neg hL0]; simp [offNx, e0, e1, setEnd, setNx]
        · rw [if_neg hR0]; simp [offNx, e0, e1, setEnd, setNx]
        · simp [offNx, e0, e1, setEnd, setNx, up2, Ne.symm hfx, Ne.symm hgx]
  exact key _ _ rfl rfl
theorem takeOver_rest (s : Sd) (x n b : Nat) : (takeOver s x n b).nx = s.nx ∧ (takeOver s x n b).price = s.price ∧ (takeOver s x n b).ends = s.ends := repl_rest _ _ _

section
variable {S : Sid} {ex : Nat → Nat → Value} {s0 : Value}
theorem rebalance_nil (W : World) : Calls Yba.prog 23 #[.pointer (some ⟨S.b, S.o, none⟩), .pointer none] W fun e w' => e = .returned (.tuple #[]) ∧ w' = W := by
  go_enter Yba.func23, Yba.ntmps23
  go_wp2
  go_loopg [1] 0 (fun k v wr => v = .pointer none ∧ wr = W)
  case atStart => exact ⟨rfl, rfl⟩
  case round =>
    obtain ⟨rfl, rfl⟩ := hrel
    go_wp2
    go_end0
    exact ⟨rfl, rfl⟩

/-- The end of unlink, where rebalance starts at q. -/
theorem off_end {w1 : World} {σ σ7 : Sd} {L R : List Nat} {x q m : Nat} {l' L' R' : List Nat} (hG : Good σ (L ++ x :: R)) (hlen : (L ++ x :: R).length < 2 ^ 20) (r : Rep S (· ∈ L ++ x :: R) ex s0 w1 σ7) (rb : RB σ7 m q l' L' R') (hl : L' ++ (l' ++ R') = L ++ R)
    (hnx : σ7.nx = (offNx σ x).nx) (hpr : σ7.price = σ.price) (hen : σ7.ends = (offNx σ x).ends) :
    Calls Yba.prog 23 #[.pointer (some ⟨S.b, S.o, none⟩), .pointer (some ⟨q, 0, none⟩)] w1 fun e w' => e = .returned (.tuple #[]) ∧ ∃ σ', Rep S (· ∈ L ++ R) ex s0 w' σ' ∧ Kp S (· ∈ L ++ x :: R) w1 w' ∧ Good σ' (L ++ R) ∧ σ'.price = σ.price := by
  have hsub : ∀ y, y ∈ L ++ R → y ∈ L ++ x :: R := fun y hy => by simp at hy ⊢; rcases hy with h | h <;> simp [h]
  have hcl := rb.cl
  rw [hl] at hcl
  have nd' : (L ++ R).Nodup := by
    obtain ⟨a, b, c⟩ := List.nodup_append.1 hG.nd
    exact List.nodup_append.2 ⟨a, (List.nodup_cons.1 b).2, fun y hy z hz => c y hy z (by simp [hz])⟩
  refine (rebalance_any (r.sub hsub) hcl (by simp at hlen ⊢; omega) rb hl).mono ?_
  rintro e w' ⟨rfl, σ', r1, r2, r3, r4, r5, r6, r7⟩
  refine ⟨rfl, σ', r1, r2.mono hsub, ⟨r4, nd', r3, ?_, ?_⟩, r6.trans hpr⟩
  · unfold Chain; rw [r5, r7, hnx, hen]; exact (offNx_chain hG.chain hG.nd).1
  · rw [r6, hpr]
    obtain ⟨a, b, c⟩ := List.pairwise_append.1 hG.sort
    exact List.pairwise_append.2 ⟨a, (List.pairwise_cons.1 b).2, fun y hy z hz => c y hy z (by simp [hz])⟩
/-- The end of unlink, where the tree has no level above. -/
theorem off_end0 {w1 : World} {σ σ7 : Sd} {L R : List Nat} {x : Nat} {h' : Int} (hG : Good σ (L ++ x :: R)) (r : Rep S (· ∈ L ++ x :: R) ex s0 w1 σ7) (t : Tree σ7 none σ7.root (L ++ R) h')
    (hnx : σ7.nx = (offNx σ x).nx) (hpr : σ7.price = σ.price) (hen : σ7.ends = (offNx σ x).ends) :
    Rep S (· ∈ L ++ R) ex s0 w1 σ7 ∧ Good σ7 (L ++ R) := by
  have hsub : ∀ y, y ∈ L ++ R → y ∈ L ++ x :: R := fun y hy => by simp at hy ⊢; rcases hy with h | h <;> simp [h]
  have nd' : (L ++ R).Nodup := by
    obtain ⟨a, b, c⟩ := List.nodup_append.1 hG.nd
    exact List.nodup_append.2 ⟨a, (List.nodup_cons.1 b).2, fun y hy z hz => c y hy z (by simp [hz])⟩
  refine ⟨r.sub hsub, ⟨h', t⟩, nd', t.clAll nd', ?_, ?_⟩
  · unfold Chain; rw [hnx, hen]; exact (offNx_chain hG.chain hG.nd).1
  · rw [hpr]
    obtain ⟨a, b, c⟩ := List.pairwise_append.1 hG.sort
    exact List.pairwise_append.2 ⟨a, (List.pairwise_cons.1 b).2, fun y hy z hz => c y hy z (by simp [hz])⟩
end

end Go.Proofs.Ybulkjrk
