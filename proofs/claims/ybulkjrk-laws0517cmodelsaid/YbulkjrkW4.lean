/-
  OWN WORK: freeOrder, freeLevel.
-/
import Derived.Test.YbulkjrkW3
namespace Go.Proofs.Ybulkjrk
open Go.RowKit
set_option linter.unusedSimpArgs false
set_option linter.unusedVariables false
set_option linter.unusedSectionVars false
variable [Base]
theorem info34 : (Yba.prog.info? 34).map (fun i => (i.zero, i.size, i.bytes)) = some (some (.pointer none), 1, 8) := by kernel_rfl
theorem info29 : (Yba.prog.info? 29).map (fun i => (i.zero, i.size, i.bytes)) = some (some (.pointer none), 1, 8) := by kernel_rfl
theorem size82 : (Yba.prog.info? 82).map (·.size) = some 12 := by kernel_rfl
theorem size37 : (Yba.prog.info? 37).map (·.size) = some 10 := by kernel_rfl
theorem one_ozero : ozero.all (·.oneCell') = true := by simp [ozero, Value.oneCell']
theorem one_lfresh : (lfresh 0).all (·.oneCell') = true := by simp [lfresh, Value.oneCell']
theorem rowFr {A : Nat → Prop} {W W' : World} {base : Nat} {e : TypeId} {size n : Nat} {v : Value} {xs : List Value} (h : W.ownsRow base e size v n xs) (k : Fr A W W') (hA : ∀ b, v.ownBlock = some b → ¬ A b) : W'.ownsRow base e size v n xs := by
  refine ⟨h.1, ?_⟩
  rcases h.2 with h0 | ⟨g, cap, cur, rfl, hb, hc, hr⟩
  · exact .inl h0
  · exact .inr ⟨g, cap, cur, rfl, hb, (k.block g (Array.getElem?_eq_some_iff.1 hc).1 (hA g rfl)).trans hc, hr⟩
theorem lit_cells' (w : World) (vs : List Value) (t : TypeId) {b : Nat} (hb : b = w.heap.size) : ∀ j u, vs[j]? = some u → (w.alloc (.cells vs.toArray t)).cell? ((⟨b, 0, none⟩ : Addr).add j) = some u := by
  subst hb
  exact World.news_of_block (heap_alloc_new _ _)

set_option maxRecDepth 100000 in
set_option maxHeartbeats 1000000 in
theorem freeOrder_any {eb x n : Nat} {W : World} {xs : List Value} {ec : Nat → Value} (hE : Bk eb 79 8 ec W) (hO : Blk W x 82 12) (hrow : W.ownsRow Base.B 34 1 (ec 5) n xs) (hn : n ≤ 4000) :
    Calls Yba.prog 29 #[.pointer (some ⟨eb, 5, none⟩), .pointer (some ⟨x, 0, none⟩)] W fun e w' => e = .returned (.tuple #[]) ∧ ∃ v', Bk eb 79 8 (upd ec 5 v') w' ∧ Bk x 82 12 (fun k => ozero.toList.getD k undef) w' ∧ w'.ownsRow Base.B 34 1 v' (n + 1) (xs ++ [.pointer (some ⟨x, 0, none⟩)]) ∧
      Fr (fun b => b = eb ∨ b = x ∨ (ec 5).ownBlock = some b) W w' ∧ (v'.ownBlock = (ec 5).ownBlock ∨ ∀ k, v'.ownBlock = some k → W.heap.size ≤ k) := by
  have hxe : x ≠ eb := hO.ne hE.blk (by decide)
  have hrx := hO.neRow hrow (by decide)
  have hre := hE.blk.neRow hrow (by decide)
  have F1 : Fr (fun b => b = eb ∨ b = x ∨ (ec 5).ownBlock = some b) W (W.setCells x 0 ozero.toList) := Fr.setCells _ _ (Fr.refl _ _) (fun _ => .inr (.inl rfl))
  have X1 := Bk.sets hO ozero.toList rfl
  have E1 : Bk eb 79 8 ec (W.setCells x 0 ozero.toList) := hE.fr (Fr.setCells (A := fun b => b = x) ozero.toList 0 (Fr.refl _ W) (fun _ => rfl)) (by simp [rowTag]) (Ne.symm hxe)
  have O1 : (W.setCells x 0 ozero.toList).ownsRow Base.B 34 1 (ec 5) n xs := rowFr hrow (Fr.setCells (A := fun b => b = x) ozero.toList 0 (Fr.refl _ W) (fun _ => rfl)) (fun b hb e => hrx (by rw [hb, e]))
  have hth := hO.there
  obtain ⟨i3, hi3, hz3, hs3, hb3⟩ := info_parts info34
  have hsz : W.heap.size ≤ (W.setCells x 0 ozero.toList).heap.size := F1.size
  generalize hW1 : W.setCells x 0 ozero.toList = W1 at F1 X1 E1 O1 hsz
  have c5 := E1.cell 5 (by omega)
  have f5 := E1.frozen 5
  go_enter Yba.func29, Yba.ntmps29
  go_wp2_with (first
    | (at_builtin; refine wpList_append_lies _ rfl _ _ 73 rfl Base.B 34 i3 (.pointer none) 1 8 Yba.underlying73 hi3 hz3 hs3 hb3 rfl (by decide) (ec 5) n xs rfl (O1.alloc _) _ 1 1 [.pointer (some ⟨x, 0, none⟩)] rfl rfl (lit_cells' _ _ _ (by simp)) (by simp [Value.oneCell']) (by omega) (by unfold maxLen; omega) (by omega) (by have := E1.base; simp; omega) _ rfl ?_; intro g cap w2 hown hgrow hat hlt
       have F2 := Fr.grown (n' := 0) (v' := undef) (xs' := []) (O1.alloc _) (by simp [rowTag]) hgrow
       have E2 := (E1.alloc _).fr F2 (by simp [rowTag]) hre
       have X2 := (X1.alloc _).fr F2 (by simp [rowTag]) hrx
       have F3 := (F1.alloc (.cells #[.pointer (some ⟨x, 0, none⟩)] 34)).join F2 (fun b _ hb => .inr (.inr hb))
       have c5' := E2.cell 5 (by omega)
       have f5' := E2.frozen 5)
    | (refine wpList_store_mid (op := ⟨none, .store 82 (.tmp 6) (.tmp 5), 0, _, _, none⟩) rfl 82 (.tmp 6) (.tmp 5) rfl x 0 ozero rfl rfl hth size82 one_ozero ?_; rw [hW1]))
  go_end0
  have hge : g ≠ eb := by
    rintro rfl
    exact E2.blk.neRow hown (by decide) rfl
  refine ⟨rfl, _, E2.set (by omega) _, X2.setO (Ne.symm hxe) _, rowFr hown ((Fr.refl (fun b => b = eb) w2).setCell (fun _ => rfl) _ _) (fun b hb => by
    have : g = b := by simpa [Value.ownBlock] using hb
    omega), F3.setCell (fun _ => .inl rfl) _ _, ?_⟩
  rcases hat with hat | hat
  · exact .inl hat.symm
  · refine .inr fun k hk => ?_
    have : g = k := by simpa [Value.ownBlock] using hk
    simp at hat
    omega
set_option maxRecDepth 100000 in
set_option maxHeartbeats 1000000 in
theorem freeLevel_any {eb x n : Nat} {W : World} {xs : List Value} {ec : Nat → Value} (hE : Bk eb 79 8 ec W) (hO : Blk W x 37 10) (hrow : W.ownsRow Base.B 29 1 (ec 6) n xs) (hn : n ≤ 4000) :
    Calls Yba.prog 54 #[.pointer (some ⟨eb, 5, none⟩), .pointer (some ⟨x, 0, none⟩)] W fun e w' => e = .returned (.tuple #[]) ∧ ∃ v', Bk eb 79 8 (upd ec 6 v') w' ∧ Bk x 37 10 (fun k => (lfresh 0).toList.getD k undef) w' ∧ w'.ownsRow Base.B 29 1 v' (n + 1) (xs ++ [.pointer (some ⟨x, 0, none⟩)]) ∧
      Fr (fun b => b = eb ∨ b = x ∨ (ec 6).ownBlock = some b) W w' ∧ (v'.ownBlock = (ec 6).ownBlock ∨ ∀ k, v'.ownBlock = some k → W.heap.size ≤ k) := by
  have hxe : x ≠ eb := hO.ne hE.blk (by decide)
  have hrx := hO.neRow hrow (by decide)
  have hre := hE.blk.neRow hrow (by decide)
  have F1 : Fr (fun b => b = eb ∨ b = x ∨ (ec 6).ownBlock = some b) W (W.setCells x 0 (lfresh 0).toList) := Fr.setCells _ _ (Fr.refl _ _) (fun _ => .inr (.inl rfl))
  have X1 := Bk.sets hO (lfresh 0).toList rfl
  have E1 : Bk eb 79 8 ec (W.setCells x 0 (lfresh 0).toList) := hE.fr (Fr.setCells (A := fun b => b = x) (lfresh 0).toList 0 (Fr.refl _ W) (fun _ => rfl)) (by simp [rowTag]) (Ne.symm hxe)
  have O1 : (W.setCells x 0 (lfresh 0).toList).ownsRow Base.B 29 1 (ec 6) n xs := rowFr hrow (Fr.setCells (A := fun b => b = x) (lfresh 0).toList 0 (Fr.refl _ W) (fun _ => rfl)) (fun b hb e => hrx (by rw [hb, e]))
  have hth := hO.there
  obtain ⟨i3, hi3, hz3, hs3, hb3⟩ := info_parts info29
  have hsz : W.heap.size ≤ (W.setCells x 0 (lfresh 0).toList).heap.size := F1.size
  generalize hW1 : W.setCells x 0 (lfresh 0).toList = W1 at F1 X1 E1 O1 hsz
  have c5 := E1.cell 6 (by omega)
  have f5 := E1.frozen 6
  go_enter Yba.func54, Yba.ntmps54
  go_wp2_with (first
    | (at_builtin; refine wpList_append_lies _ rfl _ _ 74 rfl Base.B 29 i3 (.pointer none) 1 8 Yba.underlying74 hi3 hz3 hs3 hb3 rfl (by decide) (ec 6) n xs rfl (O1.alloc _) _ 1 1 [.pointer (some ⟨x, 0, none⟩)] rfl rfl (lit_cells' _ _ _ (by simp)) (by simp [Value.oneCell']) (by omega) (by unfold maxLen; omega) (by omega) (by have := E1.base; simp; omega) _ rfl ?_; intro g cap w2 hown hgrow hat hlt
       have F2 := Fr.grown (n' := 0) (v' := undef) (xs' := []) (O1.alloc _) (by simp [rowTag]) hgrow
       have E2 := (E1.alloc _).fr F2 (by simp [rowTag]) hre
       have X2 := (X1.alloc _).fr F2 (by simp [rowTag]) hrx
       have F3 := (F1.alloc (.cells #[.pointer (some ⟨x, 0, none⟩)] 29)).join F2 (fun b _ hb => .inr (.inr hb))
       have c5' := E2.cell 6 (by omega)
       have f5' := E2.frozen 6)
    | (refine wpList_store_mid (op := ⟨none, .store 37 (.tmp 6) (.tmp 5), 0, _, _, none⟩) rfl 37 (.tmp 6) (.tmp 5) rfl x 0 (lfresh 0) rfl rfl hth size37 one_lfresh ?_; rw [hW1]))
  go_end0
  have hge : g ≠ eb := by
    rintro rfl
    exact E2.blk.neRow hown (by decide) rfl
  refine ⟨rfl, _, E2.set (by omega) _, X2.setO (Ne.symm hxe) _, rowFr hown ((Fr.refl (fun b => b = eb) w2).setCell (fun _ => rfl) _ _) (fun b hb => by
    have : g = b := by simpa [Value.ownBlock] using hb
    omega), F3.setCell (fun _ => .inl rfl) _ _, ?_⟩
  rcases hat with hat | hat
  · exact .inl hat.symm
  · refine .inr fun k hk => ?_
    have : g = k := by simpa [Value.ownBlock] using hk
    simp at hat
    omega
end Go.Proofs.Ybulkjrk
