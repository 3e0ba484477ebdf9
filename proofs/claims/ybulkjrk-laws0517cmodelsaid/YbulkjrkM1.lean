/-
  OWN WORK: the engine's map of orders.
-/
import Derived.Test.YbulkjrkW5
import Derived.Maps.OwnSet
import Derived.DeepKeys4
namespace Go.Proofs.Ybulkjrk
open Go.RowKit
open Go.Maps (Keyed IsMap Tidy)
set_option linter.unusedSimpArgs false
set_option linter.unusedVariables false
set_option linter.unusedSectionVars false
set_option maxRecDepth 100000
variable [Base]
theorem laidY : laidOutB Yba.prog = true := by kernel_rfl
theorem row57 : (57 : TypeId) < Yba.prog.types.size := of_decide_eq_true (by kernel_rfl)
theorem wide57 : (match Yba.prog.underlying 57 with | some (.array _ _) | some (.struct _) => true | _ => false) = true := by rw [Yba.underlying57]
theorem key57 : Yba.prog.keyTypeAt 3 57 = true := by kernel_rfl
theorem KL : Keyed Yba.prog 57 := Keyed.of_law (deep_law_laid laidY (m := 3) (by omega) row57 key57 wide57)
theorem kt57 : Yba.prog.keyType 57 = true := by kernel_rfl
theorem co57 : Yba.prog.cellsOf 57 = 2 := by kernel_rfl
theorem co55 : Yba.prog.cellsOf 55 = 1 := by kernel_rfl
theorem types180 : Yba.prog.types.size = 180 := by kernel_rfl
/-- The key of order i. -/
def kv (i : Nat) : Value := .agg #[.int .u64 7, .int .u64 i]
def kl (i : Nat) : Lit := .string (keyBytes [.int .u64 7, .int .u64 i])
theorem kl_key {i : Nat} (h1 : i < 2 ^ 63) : keyOf Yba.prog 57 (kv i) = some (kl i) := by
  have hw : ((Lit.int .u64 (i : Int)).wf) = true := by simp [Lit.wf, IntKind.min, IntKind.max, IntKind.signed, IntKind.bits]; omega
  have hw7 : ((Lit.int .u64 7).wf) = true := by decide
  have h55 : ∀ n : Int, (Lit.int .u64 n).wf = true → Yba.prog.keyLits 180 55 [.int .u64 n] = some [.int .u64 n] := fun n hn => by
    show Yba.prog.keyLits (179 + 1) 55 _ = _
    simp [Program.keyLits, Yba.underlying55, hn]
  unfold keyOf
  rw [Yba.underlying57]
  have hf : Value.formed Yba.prog 57 (kv i) = true := by simp [kv, Value.formed, Yba.underlying57, co57]
  simp only [kt57, hf, Bool.and_self, if_true, types180]
  show Option.map _ (Yba.prog.keyLits (180 + 1) 57 [.int .u64 7, .int .u64 i]) = some (Lit.string (keyBytes [.int .u64 7, .int .u64 i]))
  have a1 := h55 7 hw7
  have a2 := h55 i hw
  clear h55
  generalize 180 = d at a1 a2 ⊢
  simp [Program.keyLits, Yba.underlying57, co57, co55, a1, a2]
theorem kl_ne {i j : Nat} (hi : i < 2 ^ 63) (hj : j < 2 ^ 63) (h : i ≠ j) : kl i ≠ kl j := fun e => by
  have h1 := kl_key hi
  rw [e] at h1
  have := KL.inj h1 (kl_key hj)
  simp [kv] at this
  omega
/-- How a pointer to an order reads. -/
def Rp : Value → Option (DataW Unit × List MemPlace)
  | .pointer none => some (.nil, [])
  | .pointer (some ⟨b, 0, none⟩) => some (.lit (.int .u64 b), [])
  | _ => none
def enP : Option Nat → DataW Unit
  | none => .nil
  | some b => .lit (.int .u64 b)
theorem Rp_ptr (o : Option Nat) : Rp (ptr o) = some (enP o, []) := by cases o <;> rfl
theorem Rp_inv {v : Value} {o : Option Nat} {ps} (h : Rp v = some (enP o, ps)) : v = ptr o := by
  unfold Rp at h
  split at h
  · cases o with
    | none => rfl
    | some b => cases h
  · cases o with
    | none => cases h
    | some b =>
      cases h
      rfl
  · cases h
/-- The map of orders: order i is M i's block. -/
structure MapIs (mb : Nat) (M : Nat → Option Nat) (cnt c : Nat) (W : World) : Prop where
  ex : ∃ n D, W.ownsMap Yba.prog 57 Rp mb n D ∧ n ≤ c ∧ (∀ i, i < 2 ^ 60 → D.atKey (kl i) .nil = enP (M i) ∧ Maps.has D (kl i) = (M i).isSome) ∧ Maps.size D = cnt
variable {mb cnt c : Nat} {M : Nat → Option Nat} {W W' : World}
theorem zero34 (w : World) : (zeroValue 34).run Yba.prog w = .ok (.pointer none) w := by
  obtain ⟨i, hi, hz⟩ := Option.map_eq_some_iff.1 (show (Yba.prog.info? 34).map (fun i => i.zero) = some (some (.pointer none)) by kernel_rfl)
  simp [zeroValue, typeInfo, hi, hz]
theorem MapIs.lt (h : MapIs mb M cnt c W) : mb < W.heap.size := by
  obtain ⟨n, D, ho, _⟩ := h.ex
  exact ho.lt
theorem MapIs.kept (h : MapIs mb M cnt c W) (hb : W'.heap[mb]? = W.heap[mb]?) : MapIs mb M cnt c W' := by
  obtain ⟨n, D, ho, r⟩ := h.ex
  obtain ⟨es, clock, e, r'⟩ := ho
  exact ⟨n, D, ⟨es, clock, hb.trans e, r'⟩, r⟩
theorem MapIs.notTagged (h : MapIs mb M cnt c W) (T : List TypeId) : ¬ Tagged T W mb := fun ⟨_, cs, t, fr, e, _⟩ => by
  obtain ⟨n, D, ⟨es, clock, e', _⟩, _⟩ := h.ex
  rw [e] at e'
  cases e'
theorem MapIs.notBlk (h : MapIs mb M cnt c W) {b t n} (hb : Blk W b t n) : b ≠ mb := fun e => by
  subst e
  exact h.notTagged [t] (hb.tagged (by simp))
theorem MapIs.notRow (h : MapIs mb M cnt c W) {e : TypeId} {v : Value} {n : Nat} {xs : List Value} (ho : W.ownsRow Base.B e 1 v n xs) : v.ownBlock ≠ some mb := fun e' => h.notTagged [e] (rowTagged ho (by simp) e')
theorem MapIs.look (h : MapIs mb M cnt c W) {i : Nat} (hi : i < 2 ^ 60) : (Instr.lookup 72 (.map (some mb)) (kv i) false).run Yba.prog W = .ok (ptr (M i)) W := by
  obtain ⟨n, D, ho, _, hM, _⟩ := h.ex
  obtain ⟨v, ps, hr, hv⟩ := ho.lookup KL Yba.underlying72 (zero34 W) (zd := .nil) (zp := []) rfl (kl_key (i := i) (by omega))
  rw [(hM i hi).1] at hv
  rw [hr, Rp_inv hv]
theorem MapIs.len (h : MapIs mb M cnt c W) (ty : TypeId) : (Builtin.len_ #[72] ty #[.map (some mb)]).run Yba.prog W = .ok (.int .i64 cnt) W := by
  obtain ⟨n, D, ho, _, hM, hs⟩ := h.ex
  rw [ho.len Yba.underlying72 ty, hs]
theorem kl_lit {i : Nat} (hi : i < 2 ^ 63) : WideAt.IsKeyLit (kl i) := KL.key (kl_key hi)
theorem MapIs.put (h : MapIs mb M cnt c W) (hc : c ≤ 100000) {i : Nat} (hi : i < 2 ^ 60) (b : Nat) : ∃ w', (Instr.mapUpdate 72 (.map (some mb)) (kv i) (pt b)).run Yba.prog W = .ok () w' ∧ MapIs mb (upN M i (some b)) (if (M i).isSome then cnt else cnt + 1) (c + 1) w' ∧ W.mapTurned w' mb := by
  obtain ⟨n, D, ho, hn, hM, hs⟩ := h.ex
  obtain ⟨w', hr, ho', ht⟩ := ho.store KL Yba.underlying72 (by unfold maxLen; omega) (kl_key (i := i) (by omega)) (val := pt b) (d := .lit (.int .u64 b)) (ps := []) rfl
  refine ⟨w', hr, ⟨n + 1, _, ho', by omega, fun j hj => ?_, ?_⟩, ht⟩
  · by_cases e : j = i
    · subst e
      rw [upN_same]
      exact ⟨Maps.atKey_put_same ho.isMap (kl_lit (by omega)) _ _, Maps.has_put_same ho.isMap (kl_lit (by omega)) _⟩
    · rw [upN_other _ _ e]
      have hne := kl_ne (i := j) (j := i) (by omega) (by omega) e
      rw [Maps.atKey_put_other hne, Maps.has_put_other hne]
      exact hM j hj
  · rw [Maps.size_put (ho.tidy KL), (hM i hi).2, hs]
theorem MapIs.del (h : MapIs mb M cnt c W) {i : Nat} (hi : i < 2 ^ 60) (ty : TypeId) : ∃ w' cnt', (Builtin.delete_ #[72, 57] ty #[.map (some mb), kv i]).run Yba.prog W = .ok (.tuple #[]) w' ∧ MapIs mb (upN M i none) cnt' c w' ∧ cnt' + (if (M i).isSome then 1 else 0) = cnt ∧ W.mapTurned w' mb := by
  obtain ⟨n, D, ho, hn, hM, hs⟩ := h.ex
  obtain ⟨w', hr, ho', ht⟩ := ho.drop KL Yba.underlying72 (kl_key (i := i) (by omega)) ty
  refine ⟨w', Maps.size (D.del (kl i)), hr, ⟨n, _, ho', hn, fun j hj => ?_, rfl⟩, ?_, ht⟩
  · by_cases e : j = i
    · subst e
      rw [upN_same]
      exact ⟨Maps.atKey_del_same _, Maps.has_del_same⟩
    · rw [upN_other _ _ e]
      have hne := kl_ne (i := j) (j := i) (by omega) (by omega) e
      rw [Maps.atKey_del_other hne, Maps.has_del_other hne]
      exact hM j hj
  · have := Maps.size_del (k := kl i) (ho.tidy KL)
    rw [(hM i hi).2, hs] at this
    exact this
theorem turned_fr (h : W.mapTurned W' mb) : Fr (fun b => b = mb) W W' := by
  have hg := h.grown
  refine ⟨hg.os, hg.tape, hg.output, hg.size, fun k hk hne => hg.block k hk (fun e => hne (Option.some.inj e)), fun b cs t fr _ hb => ⟨cs, ?_, rfl⟩⟩
  rw [hg.block b (Array.getElem?_eq_some_iff.1 hb).1 ?_, hb]
  intro e
  have : b = mb := Option.some.inj e
  subst this
  obtain ⟨es, cl, _, _, h1, _⟩ := h
  rw [hb] at h1
  cases h1
theorem MapIs.made (W : World) : MapIs W.heap.size (fun _ => none) 0 0 (W.alloc (.map #[] 0)) :=
  ⟨0, .map [], World.ownsMap_made W _ _ _, Nat.le_refl _, fun i _ => ⟨rfl, rfl⟩, rfl⟩
end Go.Proofs.Ybulkjrk
