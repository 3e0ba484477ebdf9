/-
  OWN WORK: activateStops.
-/
import Derived.Test.YbulkjrkW27
import Derived.Lib.SliceRun
namespace Go.Proofs.Ybulkjrk
open Go.RowKit
set_option linter.unusedSimpArgs false
set_option linter.unusedVariables false
set_option linter.unusedSectionVars false
set_option maxRecDepth 100000
variable [Base]
section
variable {s : Nat → Stp} {n eb bb mb : Nat} {W0 : World} {A R Z : List Nat} {ob : Nat → Nat} {g : Gp} {q : Nat → List Nat} {tot : Nat → Int} {lev M : Nat → Option Nat} {cnt c cm : Nat} {W W' : World}
/-- The events' cells. -/
def evs (E : List (Int × Nat)) : List Value := E.flatMap fun x => evc x.1 x.2
/-- What the loop keeps: k orders of the queue activated. -/
structure QS (s : Nat → Stp) (n eb bb mb : Nat) (W0 : World) (A R T : List Nat) (ob : Nat → Nat) (qv : Value) (ke : Nat) (xs : List Value) (k : Nat) (ev : Value) (W : World) : Prop where
  ex : ∃ g q tot lev M cnt c cm, ES s n eb bb mb W0 (A ++ T.take k) ((T.take k).foldl (act1 s) (R, [])).1 (T.drop k) ob g q tot lev M cnt c cm W ∧ Qrow ob g qv T W
  ev : W.ownsRow Base.B 59 9 ev (ke + ((T.take k).foldl (act1 s) (R, [])).2.length) (xs ++ evs ((T.take k).foldl (act1 s) (R, [])).2)
theorem act1_len (s : Nat → Stp) (st : List Nat × List (Int × Nat)) (x : Nat) : (act1 s st x).2.length ≤ st.2.length + 2 := by
  unfold act1
  split
  · simp
  · split <;> simp
theorem fold_len (s : Nat → Stp) : ∀ (T : List Nat) (st : List Nat × List (Int × Nat)), (T.foldl (act1 s) st).2.length ≤ st.2.length + 2 * T.length
  | [], st => by simp
  | x :: T, st => by
    have h1 := fold_len s T (act1 s st x)
    have h2 := act1_len s st x
    simp only [List.foldl_cons, List.length_cons]
    omega
/-- While one order is activated. -/
structure Md (n eb bb mb : Nat) (ob : Nat → Nat) (g : Gp) (M : Nat → Option Nat) (cnt cm : Nat) (qv : Value) (T : List Nat) (ev : Value) (ke : Nat) (xs : List Value) (Wr W : World) : Prop where
  ph : Ph ob n eb bb g W
  map : MapIs mb M cnt cm W
  q : Qrow ob g qv T W
  ev : W.ownsRow Base.B 59 9 ev ke xs
  below : Below Base.B Wr W
  mbB : Base.B ≤ mb
section
variable {qv ev : Value} {T : List Nat} {ke : Nat} {xs : List Value} {Wr : World}
theorem Md.keep (h : Md n eb bb mb ob g M cnt cm qv T ev ke xs Wr W) {X : Nat → Prop} (F : Fr X W W') (h1 : ∀ b t k, Blk W b t k → ¬ X b) (h2 : ∀ v e sz k xs, W.ownsRow Base.B e sz v k xs → ∀ b, v.ownBlock = some b → ¬ X b) (h3 : ¬ X mb) (h4 : ∀ b, X b → Base.B ≤ b) : Md n eb bb mb ob g M cnt cm qv T ev ke xs Wr W' :=
  ⟨h.ph.fr F (h1 _ _ _ h.ph.en.blk) (h1 _ _ _ h.ph.bk) (fun b hb => h1 _ _ _ hb) (fun i hi => h1 _ _ _ (h.ph.ord i hi).blk) (h2 _ _ _ _ _ h.ph.flr) (h2 _ _ _ _ _ h.ph.por), h.map.kept (F.block mb h.map.lt h3), h.q.keep F (h2 _ _ _ _ _ h.q.own), rowFr h.ev F (h2 _ _ _ _ _ h.ev), h.below.trans (F.toBelow h.ph.en.base h4), h.mbB⟩
theorem Md.under (h : Md n eb bb mb ob g M cnt cm qv T ev ke xs Wr W) (hB : Below W.heap.size W W') : Md n eb bb mb ob g M cnt cm qv T ev ke xs Wr W' :=
  h.keep (X := fun _ => False) (Fr.below hB) (fun _ _ _ _ e => e) (fun _ _ _ _ _ _ _ _ e => e) (fun e => e) (fun _ e => e.elim)
theorem MapIs.notRowAny (h : MapIs mb M cnt cm W) {e : TypeId} {sz : Nat} {v : Value} {k : Nat} {xs : List Value} (ho : W.ownsRow Base.B e sz v k xs) {b : Nat} (hb : v.ownBlock = some b) : ¬ b = mb := fun e' => h.notTagged [e] (rowTagged ho (by simp) (by rw [hb, e']))
theorem Md.turn (h : Md n eb bb mb ob g M cnt cm qv T ev ke xs Wr W) {M' : Nat → Option Nat} {cnt' cm' : Nat} (ht : W.mapTurned W' mb) (hM : MapIs mb M' cnt' cm' W') : Md n eb bb mb ob g M' cnt' cm' qv T ev ke xs Wr W' :=
  have F := turned_fr ht
  ⟨h.ph.fr F (h.map.notBlk h.ph.en.blk) (h.map.notBlk h.ph.bk) (fun b hb => h.map.notBlk hb) (fun j hj => h.map.notBlk (h.ph.ord j hj).blk) (fun b hb => h.map.notRowAny h.ph.flr hb) (fun b hb => h.map.notRowAny h.ph.por hb), hM, h.q.keep F (fun b hb => h.map.notRowAny h.q.own hb), rowFr h.ev F (fun b hb => h.map.notRowAny h.ev hb), h.below.trans (F.toBelow h.ph.en.base (fun b e => by rw [e]; exact h.mbB)), h.mbB⟩
theorem Md.append (h : Md n eb bb mb ob g M cnt cm qv T ev ke xs Wr W) {ev' : Value} {ke' : Nat} {xs' : List Value} (F : Fr (fun b => ev.ownBlock = some b) W W') (ho : W'.ownsRow Base.B 59 9 ev' ke' xs') : Md n eb bb mb ob g M cnt cm qv T ev' ke' xs' Wr W' :=
  have nb : ∀ {b t k}, Blk W b t k → t ≠ 59 → ¬ ev.ownBlock = some b := fun hb ht e => hb.neRow h.ev ht e
  have nr : ∀ {e sz v k xs}, W.ownsRow Base.B e sz v k xs → e ≠ 59 → ∀ b, v.ownBlock = some b → ¬ ev.ownBlock = some b := fun ho he b hb e => rowNotTagged (T := [59]) ho (by simpa using he) hb (rowTagged h.ev (by simp) e)
  ⟨h.ph.fr F (nb h.ph.en.blk (by decide)) (nb h.ph.bk (by decide)) (fun b hb => nb hb (by decide)) (fun j hj => nb (h.ph.ord j hj).blk (by decide)) (nr h.ph.flr (by decide)) (nr h.ph.por (by decide)), h.map.kept (F.block mb h.map.lt (fun e => h.map.notRowAny h.ev e rfl)), h.q.keep F (nr h.q.own (by decide)), ho, h.below.trans (F.toBelow h.ph.en.base (fun b e => (rowTagged (T := [59]) h.ev (by simp) e).1)), h.mbB⟩
theorem Md.free {i : Nat} (h : Md n eb bb mb ob g M cnt cm qv T ev ke xs Wr W) (hi : i < n) {v5 : Value} (hph : Ph ob n eb bb { g with oc := upN g.oc i ozf, ec := upd g.ec 5 v5, pn := g.pn + 1, px := g.px ++ [pt (ob i)] } W') (F : Fr (fun b => b = eb ∨ b = ob i ∨ (g.ec 5).ownBlock = some b) W W') (hv : v5.ownBlock = (g.ec 5).ownBlock ∨ ∀ k, v5.ownBlock = some k → W.heap.size ≤ k) :
    Md n eb bb mb ob { g with oc := upN g.oc i ozf, ec := upd g.ec 5 v5, pn := g.pn + 1, px := g.px ++ [pt (ob i)] } M cnt cm qv T ev ke xs Wr W' := by
  have nrE : ∀ {e sz v k xs}, W.ownsRow Base.B e sz v k xs → 79 ≠ e → 82 ≠ e → (∀ b, v.ownBlock = some b → (g.ec 5).ownBlock ≠ some b) → ∀ b, v.ownBlock = some b → ¬ (b = eb ∨ b = ob i ∨ (g.ec 5).ownBlock = some b) := fun ho h1 h2 h3 b hb => by
    rintro (e | e | e)
    · exact h.ph.en.blk.neRow ho h1 (by rw [hb, e])
    · exact (h.ph.ord i hi).blk.neRow ho h2 (by rw [hb, e])
    · exact h3 b hb e
  refine ⟨hph, h.map.kept (F.block mb h.map.lt ?_), ⟨rowFr h.q.own F (nrE h.q.own (by decide) (by decide) h.q.far), fun b hb => ?_⟩, rowFr h.ev F (nrE h.ev (by decide) (by decide) (fun b hb e => rowNotTagged (T := [34]) h.ev (by decide) hb (rowTagged h.ph.por (by simp) e))), h.below.trans (F.toBelow h.ph.en.base ?_), h.mbB⟩
  · rintro (e | e | e)
    · exact h.map.notBlk h.ph.en.blk e.symm
    · exact h.map.notBlk (h.ph.ord i hi).blk e.symm
    · exact h.map.notRow h.ph.por e
  · show (upd g.ec 5 v5 5).ownBlock ≠ _
    rw [upd_same]
    rcases hv with e | e
    · rw [e]; exact h.q.far b hb
    · intro e'
      have h1 := e b e'
      have h2 := (h.q.own.lt b hb).2
      omega
  · rintro b (e | e | e)
    · rw [e]; exact h.ph.en.blk.1
    · rw [e]; exact (h.ph.ord i hi).blk.1
    · exact (rowTagged (T := [34]) h.ph.por (by simp) e).1
end
theorem clear_row {a : Option Addr} {k cap : Nat} {xs : List Value} (h : W.ownsRow Base.B 34 1 (.slice a k cap) k xs) (ty : TypeId) : ∃ w', (Builtin.clear_ #[73] ty #[.slice a k cap]).run Yba.prog W = .ok (.tuple #[]) w' ∧ Fr (fun b => (Value.slice a k cap).ownBlock = some b) W w' ∧ w'.ownsRow Base.B 34 1 (.slice a 0 cap) 0 [] := by
  have hz : ∀ w, (zeroValue 34).run Yba.prog w = .ok (.pointer none) w := zero34
  have h0 : ∀ (a : Option Addr) (cap : Nat), (Builtin.clear_ #[73] ty #[.slice a 0 cap]).run Yba.prog W = .ok (.tuple #[]) W := fun a cap => by
    cases a <;> simp [Builtin.clear_, run_underlying Yba.underlying73, hz]
  rcases h.2 with ⟨e, e0⟩ | ⟨gb, cap', cur, e, hlo, hb, hc, hm, hs, hx⟩
  · cases e
    exact ⟨W, h0 _ _, Fr.refl _ _, by simp, .inl ⟨rfl, rfl⟩⟩
  · cases e
    by_cases hk : k = 0
    · subst hk
      exact ⟨W, h0 _ _, Fr.refl _ _, by simp, .inr ⟨gb, cap, cur, rfl, hlo, hb, by omega, hm, hs, by simp⟩⟩
    · refine ⟨_, Go.Lib.run_clear_slice W 73 34 ty (.pointer none) Yba.underlying73 hz rfl rfl gb 0 k cap (by omega) (fun j hj => ?_) (fun j hj => ?_), Fr.setCells _ _ (Fr.refl _ _) (fun _ => rfl), by simp, ?_⟩
      · rw [Nat.zero_add, h.cellAt j (by omega)]
        have := h.1
        simp [show j < xs.length by omega]
      · exact h.frozenAt _
      · obtain ⟨cs', e1, e2⟩ := Shp.sets gb (List.replicate k (.pointer none)) 0 W gb cur 34 (0, 0) hb
        exact .inr ⟨gb, cap, cs', rfl, hlo, e1, by omega, hm, by omega, by simp⟩
theorem ES.queue (h : ES s n eb bb mb W0 A R Z ob g q tot lev M cnt c cm W) {qv : Value} {T : List Nat} (hq : Qrow ob g qv T W) (F : Fr (fun b => qv.ownBlock = some b) W W') : ES s n eb bb mb W0 A R Z ob g q tot lev M cnt c cm W' :=
  ⟨h.ph.frQ hq F, h.lg, h.map.kept (F.block mb h.map.lt (fun e => h.map.notRow hq.own e)), h.cle, h.cmle, h.nd, h.lt, h.sub, h.mM, h.cnt, h.on0, h.on1, h.on2, h.on3, h.ocw, h.ocr, h.ec1, h.ec2, h.pn, h.levZ, h.below.trans (F.toBelow h.ph.en.base (fun b e => (rowTagged (T := [34]) hq.own (by simp) e).1)), h.mbB⟩
theorem ES.trq (h : ES s n eb bb mb W0 A R Z ob g q tot lev M cnt c cm W) (v : Value) : ES s n eb bb mb W0 A R Z ob { g with ec := upd g.ec 4 v } q tot lev M cnt c cm (W.setCell ⟨eb, 4, none⟩ v) := by
  have F : Fr (fun b => b = eb) W (W.setCell ⟨eb, 4, none⟩ v) := Fr.one _ _ _ _
  exact ⟨h.ph.setE (by omega) (by omega) (by omega) v, h.lg.oc rfl rfl rfl (fun _ _ => rfl), h.map.kept (F.block mb h.map.lt (fun e => h.map.notBlk h.ph.en.blk e.symm)), h.cle, h.cmle, h.nd, h.lt, h.sub, h.mM, h.cnt, h.on0, h.on1, h.on2, h.on3, h.ocw, h.ocr, (upd_other g.ec (k := 4) (j := 1) v (by decide)).trans h.ec1, (upd_other g.ec (k := 4) (j := 2) v (by decide)).trans h.ec2, h.pn, h.levZ, h.below.trans (F.toBelow h.ph.en.base (fun b e => by rw [e]; exact h.ph.en.blk.1)), h.mbB⟩
theorem evs_append (a b : List (Int × Nat)) : evs (a ++ b) = evs a ++ evs b := by simp [evs]
theorem QS.next {T : List Nat} {qv ev : Value} {ke k i : Nat} {xs : List Value} {RK : List Nat × List (Int × Nat)} (hk : k < T.length) (hi : i = T[k]) (hRK : RK = (T.take k).foldl (act1 s) (R, [])) (h : ES s n eb bb mb W0 (A ++ T.take k ++ [i]) (act1 s RK i).1 (T.drop (k + 1)) ob g q tot lev M cnt c cm W) (hq : Qrow ob g qv T W) (he : W.ownsRow Base.B 59 9 ev (ke + (act1 s RK i).2.length) (xs ++ evs (act1 s RK i).2)) : QS s n eb bb mb W0 A R T ob qv ke xs (k + 1) ev W := by
  have ht : T.take (k + 1) = T.take k ++ [i] := by rw [hi]; exact List.take_succ_eq_append_getElem hk
  have hf : (T.take (k + 1)).foldl (act1 s) (R, []) = act1 s RK i := by rw [ht, List.foldl_append, ← hRK]; rfl
  refine ⟨⟨g, q, tot, lev, M, cnt, c, cm, ?_, hq⟩, ?_⟩
  · rw [hf, ht, ← List.append_assoc]; exact h
  · rw [hf]; exact he
theorem act1_bar {s : Nat → Stp} {RK : List Nat × List (Int × Nat)} {i : Nat} (h : RK.1.any (bars s i) = true) : act1 s RK i = (RK.1, RK.2 ++ [(5, i), (2, i)]) := by unfold act1; rw [if_pos h]
theorem act1_zero {s : Nat → Stp} {RK : List Nat × List (Int × Nat)} {i : Nat} (h : ¬ RK.1.any (bars s i) = true) (h0 : (s i).lim = 0) : act1 s RK i = (RK.1, RK.2 ++ [(5, i)]) := by unfold act1; rw [if_neg h, if_pos h0]
theorem act1_rest {s : Nat → Stp} {RK : List Nat × List (Int × Nat)} {i : Nat} (h : ¬ RK.1.any (bars s i) = true) (h0 : ¬ (s i).lim = 0) : act1 s RK i = (RK.1 ++ [i], RK.2 ++ [(5, i)]) := by unfold act1; rw [if_neg h, if_neg h0]
theorem enter_none' {m : Nat} (h : Ph ob m eb bb g W) (i : Nat) (sell : Bool) (price qty : Int) (hp : price = 0) (b0 : 0 < qty) (hx : crossed (buyk (sdn !sell)) (g.σ (sdn !sell)) price = false) {pa pb : Option Addr} {pd : Int} {a : Option Addr} {n cap : Nat} (hn : n ≤ 100000) :
    Calls Yba.prog 32 #[.pointer (some ⟨eb, 0, none⟩), .pointer (some ⟨bb, 0, none⟩), ordv i sell price qty 0 0, .agg #[.pointer pa, .pointer pb, .int .i64 pd], .slice a n cap] W fun e w' => e = .returned (.tuple #[.slice a n cap, .int .i64 0]) ∧ Below W.heap.size W w' := by
  subst hp
  exact enter_none h i sell qty b0 hx hn
set_option maxHeartbeats 4000000 in
theorem act_any (h : ES s n eb bb mb W0 A R [] ob g q tot lev M cnt c cm W) (hn : n ≤ 1024) (hs : ∀ i, i < n → 0 < (s i).qty ∧ (s i).qty ≤ 1000) (lp : Int) (hq : Qrow ob g (g.ec 4) [] W) (hA : A = [] ∨ ∀ i, i < n → i ∉ A → trg s lp i = false) {ev : Value} {ke : Nat} {xs : List Value} (he : W.ownsRow Base.B 59 9 ev ke xs) (hke : ke ≤ 4000) :
    Calls Yba.prog 16 #[.pointer (some ⟨eb, 0, none⟩), .pointer (some ⟨bb, 0, none⟩), .int .i64 lp, ev] W fun e w' => ∃ ev' T, e = .returned ev' ∧ T.Pairwise (· < ·) ∧ (∀ i, i ∈ T ↔ (i < n ∧ i ∉ A ∧ trg s lp i = true)) ∧ (∃ g' q' tot' lev' M' cnt' c' cm', ES s n eb bb mb W0 (A ++ T) (T.foldl (act1 s) (R, [])).1 [] ob g' q' tot' lev' M' cnt' c' cm' w' ∧ Qrow ob g' (g'.ec 4) [] w') ∧ w'.ownsRow Base.B 59 9 ev' (ke + (T.foldl (act1 s) (R, [])).2.length) (xs ++ evs (T.foldl (act1 s) (R, [])).2) := by
  obtain ⟨a4, cap4, h4⟩ := rowForm hq.own
  simp only [List.length_nil] at h4
  have c4 := h.ph.en.cell 4 (by omega)
  rw [h4] at c4 hq
  have hB0 : Below W.heap.size W W.drew := (Below.refl _ _).drew
  have ht := trig_es (h.under hB0) hn lp (qv0 := .slice a4 0 cap4) (W := W.drew) (hq.keep (X := fun _ => False) (Fr.below hB0) (fun _ _ e => e)) hA
  have HH := hide (And.intro h (And.intro hq he))
  clear h hq
  go_enter Yba.func16, Yba.ntmps16
  go_wp2
  go_region_held3 (fun w' => w'.cell? ⟨eb, 4, none⟩ = some (.slice a4 0 cap4)) (first | exact c4 | exact c4') (first | (go_at_call 28; refine ht.mono ?_; rintro e w1 ⟨g1, lev1, qv1, T, rfl, E1, Q1, hup, hT, hec, F1⟩; have c4' : w1.cell? ⟨eb, 4, none⟩ = some (.slice a4 0 cap4) := (by rw [E1.ph.en.cell 4 (by omega), hec 4 (by omega) (by omega), h4])))
  clear ht c4 c4' hec
  have hTl : T.length ≤ 1024 := by have := E1.alen; omega
  have he1 : w1.ownsRow Base.B 59 9 ev ke xs := rowFr HH.out.2.2.drew F1 (fun b hb e => e.elim (rowNotTagged HH.out.2.2.drew (by decide) hb) (fun e => rowNotTagged (T := [34]) HH.out.2.2 (by decide) hb (rowTagged HH.out.2.1.own (by simp) e)))
  clear F1
  go_wp2
  go_loopw [2, 3, 9, 10] (fun v2 v3 v9 v10 wr => ∃ (k : Nat) (x : Int) (ev' : Value), k ≤ T.length ∧ v2 = .int .i64 x ∧ v3 = ev' ∧ v9 = qv1 ∧ v10 = .int .i64 k ∧ QS s n eb bb mb W0 A R T ob qv1 ke xs k ev' wr) (fun _ _ _ v10 _ => T.length - (intOf v10).toNat)
  case atStart => exact ⟨0, lp, ev, by omega, rfl, rfl, rfl, rfl, ⟨_, _, _, _, _, _, _, _, by simpa using E1, Q1⟩, by simpa [evs] using he1⟩
  case round =>
    obtain ⟨k, x, ev', hk, rfl, rfl, rfl, rfl, hQS⟩ := hrel
    clear E1 Q1 he1 he
    by_cases hlt : k < T.length
    · obtain ⟨⟨g, q, tot, lev, M, cnt, c, cm, E, Q⟩, hev⟩ := hQS
      obtain ⟨N1, hN1⟩ : ∃ N1, T.length = N1 + 1 := ⟨T.length - 1, by omega⟩
      have hown := Q.own
      rw [hN1] at hown
      obtain ⟨qb, cap, hq2, hcap⟩ := rowForm1 hown
      subst hq2
      obtain ⟨i, hi⟩ : ∃ i, i = T[k] := ⟨_, rfl⟩
      have hdrop : T.drop k = i :: T.drop (k + 1) := by rw [hi]; exact List.drop_eq_getElem_cons hlt
      have qc : wr.cell? ⟨qb, k, none⟩ = some (.pointer (some ⟨ob i, 0, none⟩)) := by
        rw [hown.cellAt k (by omega), List.getElem?_map, List.getElem?_eq_getElem hlt, ← hi]
        rfl
      rw [hdrop] at E
      obtain ⟨RK, hRK⟩ : ∃ RK, RK = (T.take k).foldl (act1 s) (R, []) := ⟨_, rfl⟩
      rw [← hRK] at E hev
      have hin : i < n := E.lt i (by simp)
      have hiA : i ∉ A ++ T.take k := fun e => (List.nodup_append.1 E.nd).2.2 i e i (by simp) rfl
      have HI := hide (And.intro hi (And.intro hRK (And.intro hdrop hiA)))
      have oo : ∀ j, j < 9 → wr.cell? ⟨ob i, j, none⟩ = some ((waits bb i (sdI (s i).sell) (stI (s i).entry) (s i).sp (s i).qty (s i).lim ((i : Int) + 1)).getD j undef) := fun j hj => by
        rw [(E.ph.ord i hin).cell j (by omega), E.ocw i hin hiA j hj]
      have m0 : Md n eb bb mb ob g M cnt cm (.slice (some ⟨qb, 0, none⟩) (N1 + 1) cap) T u3 (ke + RK.2.length) (xs ++ evs RK.2) wr wr := ⟨E.ph, E.map, Q, hev, Below.refl _ _, E.mbB⟩
      have o0 : wr.cell? ⟨ob i, 0, none⟩ = some (.int .u64 7) := oo 0 (by omega)
      have o1 : wr.cell? ⟨ob i, 1, none⟩ = some (.int .u64 i) := oo 1 (by omega)
      have e1 : wr.cell? ⟨eb, 1, none⟩ = some (.map (some mb)) := by rw [E.ph.en.cell 1 (by omega), E.ec1]
      obtain ⟨w1, cnt1, hrun, hM1, hcnt1, ht1⟩ := (E.map.kept (W' := wr.drew) rfl).del (i := i) (by omega) 0
      have m1 := (m0.under (Below.refl _ _).drew).turn ht1 hM1
      have F1 := turned_fr ht1
      have e1' : w1.cell? ⟨eb, 1, none⟩ = some (.map (some mb)) := (F1.cell (b := eb) E.ph.en.lt (E.map.notBlk E.ph.en.blk) 1).trans e1
      have oo1 : ∀ j, j < 9 → w1.cell? ⟨ob i, j, none⟩ = some ((waits bb i (sdI (s i).sell) (stI (s i).entry) (s i).sp (s i).qty (s i).lim ((i : Int) + 1)).getD j undef) := fun j hj => (F1.cell (b := ob i) (E.ph.ord i hin).lt (E.map.notBlk (E.ph.ord i hin).blk) j).trans (oo j hj)
      have o0' : w1.cell? ⟨ob i, 0, none⟩ = some (.int .u64 7) := oo1 0 (by omega)
      have o1' : w1.cell? ⟨ob i, 1, none⟩ = some (.int .u64 i) := oo1 1 (by omega)
      simp only [kv] at hrun
      have HE := hide (And.intro E (And.intro m0 (And.intro hcnt1 oo)))
      clear E Q hev m0 hown hM1 ht1 F1 hcnt1 hi hdrop hRK oo hiA
      have hklt : (k : Int) < ((N1 + 1 : Nat) : Int) := by omega
      have M1 := hide (And.intro m1 oo1)
      clear m1 oo1
      go_wp2
      go_region_held3 (fun w' => w'.cell? ⟨eb, 1, none⟩ = some (.map (some mb)) ∧ w'.cell? ⟨ob i, 0, none⟩ = some (.int .u64 7) ∧ w'.cell? ⟨ob i, 1, none⟩ = some (.int .u64 i)) (first | exact ⟨e1, o0, o1⟩ | exact ⟨e1', o0', o1'⟩) (fail)
      clear hrun e1 o0 o1 qc
      obtain ⟨i3, hi3, hz3, hs3, hb3⟩ := info_parts info59
      obtain ⟨NE, hNE⟩ : ∃ NE, NE = ke + RK.2.length := ⟨_, rfl⟩
      obtain ⟨XE, hXE⟩ : ∃ XE, XE = xs ++ evs RK.2 := ⟨_, rfl⟩
      have ho1 := M1.out.1.ev
      rw [← hNE, ← hXE] at ho1
      have hNEb : NE ≤ 9000 := by
        have h1 := fold_len s (T.take k) (R, [])
        rw [← HI.out.2.1] at h1
        have h2 := HE.out.1.alen
        simp at h1 h2
        omega
      have hbs : Base.B ≤ w1.heap.size := M1.out.1.ph.en.base
      have HN := hide (And.intro hNE hXE)
      clear hNE hXE
      go_wp2_with (at_builtin; (refine wpList_append_lies _ rfl _ _ 40 rfl Base.B 59 i3 _ 9 80 Yba.underlying40 hi3 hz3 hs3 hb3 rfl (by decide) u3 NE XE rfl (ho1.alloc _) _ 1 1 (evc 5 i) rfl rfl (lit_cells' _ _ _ (by simp)) (by simp [evc, Value.oneCell']) (by omega) (by unfold maxLen; omega) (by omega) (by simp; omega) _ rfl ?_); intro gX capX w2 hown2 hgrow2 hat2 hlt2)
      have F2 := Fr.grown (n' := 0) (v' := undef) (xs' := []) (ho1.alloc _) (by simp [rowTag]) hgrow2
      have F12 := ((Fr.refl (fun b => u3.ownBlock = some b) w1).alloc _).join F2 (fun b _ e => e)
      obtain ⟨m1, oo1⟩ := M1.out
      have m2 := m1.append F12 hown2
      have oo2 : ∀ j, j < 9 → w2.cell? ⟨ob i, j, none⟩ = some ((waits bb i (sdI (s i).sell) (stI (s i).entry) (s i).sp (s i).qty (s i).lim ((i : Int) + 1)).getD j undef) := fun j hj => (F12.cell (b := ob i) (m1.ph.ord i hin).lt (fun e => (m1.ph.ord i hin).blk.neRow ho1 (by decide) e) j).trans (oo1 j hj)
      obtain ⟨EV, hEV⟩ : ∃ EV, EV = Value.slice (some ⟨gX, 0, none⟩) (NE + 1) capX := ⟨_, rfl⟩
      have p0 : w2.cell? ⟨ob i, 0, none⟩ = some (.int .u64 7) := oo2 0 (by omega)
      have p1 : w2.cell? ⟨ob i, 1, none⟩ = some (.int .u64 i) := oo2 1 (by omega)
      have p2 : w2.cell? ⟨ob i, 2, none⟩ = some (.int .u8 (sdI (s i).sell)) := oo2 2 (by omega)
      have p5 : w2.cell? ⟨ob i, 5, none⟩ = some (.int .i64 (s i).qty) := oo2 5 (by omega)
      have p6 : w2.cell? ⟨ob i, 6, none⟩ = some (.int .i64 (s i).lim) := oo2 6 (by omega)
      have pb : w2.cell? ⟨bb, 0, none⟩ = some (.string ⟨#[83]⟩) := m2.ph.sym
      have zo : ob i < w2.heap.size := (m2.ph.ord i hin).lt
      have zb : bb < w2.heap.size := m2.ph.bk.lt
      have M2 := hide m2
      clear M1 m1 oo1 m2 oo2 F2 F12 hgrow2 hat2 hlt2 hown2 ho1 hi3 hz3 hs3 hb3 e1' o0' o1' hbs
      go_region_held3 (fun w' => w'.cell? ⟨ob i, 0, none⟩ = some (.int .u64 7) ∧ w'.cell? ⟨ob i, 1, none⟩ = some (.int .u64 i) ∧ w'.cell? ⟨ob i, 2, none⟩ = some (.int .u8 (sdI (s i).sell)) ∧ w'.cell? ⟨ob i, 5, none⟩ = some (.int .i64 (s i).qty) ∧ w'.cell? ⟨ob i, 6, none⟩ = some (.int .i64 (s i).lim) ∧ w'.cell? ⟨bb, 0, none⟩ = some (.string ⟨#[83]⟩)) (first | exact ⟨p0, p1, p2, p5, p6, pb⟩ | go_keep) (fail)
      generalize hw3 : (w2.alloc (.cells #[.int .u64 7, .int .u64 i, .string ⟨#[83]⟩, .int .u8 (sdI (s i).sell), .int .i64 (s i).lim, .int .i64 (s i).qty, .int .u8 0, .int .i64 0, .int .u8 0] 99)).drew = w3
      have hB3 : Below w2.heap.size w2 w3 := by rw [← hw3]; exact ((Below.refl _ _).alloc (Nat.le_refl _) _).drew
      have Bx3 : Bk w2.heap.size 99 9 (fun k => #[Value.int .u64 7, .int .u64 i, .string ⟨#[83]⟩, .int .u8 (sdI (s i).sell), .int .i64 (s i).lim, .int .i64 (s i).qty, .int .u8 0, .int .i64 0, .int .u8 0].getD k undef) w3 := by rw [← hw3]; exact (Bk.new w2 #[Value.int .u64 7, .int .u64 i, .string ⟨#[83]⟩, .int .u8 (sdI (s i).sell), .int .i64 (s i).lim, .int .i64 (s i).qty, .int .u8 0, .int .i64 0, .int .u8 0] 99 M2.out.ph.en.base).drew
      have m3 := M2.out.under hB3
      obtain ⟨NB, hNB⟩ : ∃ NB, NB = w2.heap.size := ⟨_, rfl⟩
      rw [← hNB] at Bx3
      simp only [← hNB]
      have hpn : g.pn ≤ 1024 := by have h1 := HE.out.1.pn; have h2 := HE.out.1.alen; omega
      have hfree := freeOrder_ph m3.ph hin (by omega)
      simp only [pt] at hfree
      have M3 := hide (And.intro m3 Bx3)
      clear hw3 hNB hB3 M2 m3 Bx3 p0 p1 p2 p5 p6 pb
      go_wp2_with (go_at_call 29; refine hfree.mono ?_; rintro e w4 ⟨rfl, v5, P4, F4, hv5⟩; obtain ⟨m3, Bx3⟩ := M3.out; have Bx4 := Bx3.fr F4 (by simp [rowTag]) (by rintro (e | e | e); exact Bx3.blk.ne m3.ph.en.blk (by decide) e; exact Bx3.blk.ne (m3.ph.ord i hin).blk (by decide) e; exact Bx3.blk.neRow m3.ph.por (by decide) e); have x0 : w4.cell? ⟨NB, 0, none⟩ = some (.int .u64 7) := Bx4.cell 0 (by simp); have x1 : w4.cell? ⟨NB, 1, none⟩ = some (.int .u64 i) := Bx4.cell 1 (by simp); have x2 : w4.cell? ⟨NB, 2, none⟩ = some (.string ⟨#[83]⟩) := Bx4.cell 2 (by simp); have x3 : w4.cell? ⟨NB, 3, none⟩ = some (.int .u8 (sdI (s i).sell)) := Bx4.cell 3 (by simp); have x4 : w4.cell? ⟨NB, 4, none⟩ = some (.int .i64 (s i).lim) := Bx4.cell 4 (by simp); have x5 : w4.cell? ⟨NB, 5, none⟩ = some (.int .i64 (s i).qty) := Bx4.cell 5 (by simp); have x6 : w4.cell? ⟨NB, 6, none⟩ = some (.int .u8 0) := Bx4.cell 6 (by simp); have x7 : w4.cell? ⟨NB, 7, none⟩ = some (.int .i64 0) := Bx4.cell 7 (by simp); have x8 : w4.cell? ⟨NB, 8, none⟩ = some (.int .u8 0) := Bx4.cell 8 (by simp); have H4 := hide (And.intro (m3.free hin P4 F4 hv5) Bx4); clear m3 Bx3 M3 P4 F4 hv5 Bx4 hfree)
      obtain ⟨m4, Bx4⟩ := H4.out
      have hE0 := HE.out.1
      have hc0 := hE0.cle
      have hcm0 := hE0.cmle
      have hal := hE0.alen
      obtain ⟨hq0, hq1⟩ := hs i hin
      obtain ⟨ES4, hlev4⟩ := hE0.free m4.ph m4.map HE.out.2.2.1 m4.below
      have hMi4 : upN M i none i = none := upN_same _ _ _
      have hbar4 := ES4.bars i
      have hadm : Calls Yba.prog 30 #[.pointer (some ⟨eb, 0, none⟩), .pointer (some ⟨bb, 0, none⟩), ordv i (s i).sell (s i).lim (s i).qty 0 0] w4 _ := admit_any ES4.ph ES4.lg (by omega) ES4.ec2 i (s i).sell (s i).lim (s i).qty 0 0 (by omega) hq1
      have HM := hide (And.intro m4 (And.intro Bx4 (And.intro ES4 (And.intro hlev4 (And.intro hMi4 hbar4)))))
      refine hadm.mono ?_
      clear hadm m4 Bx4 ES4 hlev4 hMi4 H4 hE0 x0 x1 x2 x3 x4 x5 x6 x7 x8 hbar4
      rintro e w5 ⟨hB5, pa, pb, pd, ok, rfl, hok, hpl⟩
      dsimp only
      obtain ⟨w6, hw6⟩ : ∃ w6, w6 = w5.alloc (.cells #[.pointer pa, .pointer pb, .int .i64 pd] 86) := ⟨_, rfl⟩
      have hB6 : Below w4.heap.size w4 w6 := by rw [hw6]; exact hB5.alloc hB5.size _
      have By6 : Bk w5.heap.size 86 3 (fun k => #[Value.pointer pa, .pointer pb, .int .i64 pd].getD k undef) w6 := by rw [hw6]; exact Bk.new w5 #[Value.pointer pa, .pointer pb, .int .i64 pd] 86 (Nat.le_trans HM.out.1.ph.en.base hB5.size)
      obtain ⟨PB, hPB⟩ : ∃ PB, PB = w5.heap.size := ⟨_, rfl⟩
      rw [← hPB] at By6
      have Bx5 := HM.out.2.1.below hB5
      have x0 : w5.cell? ⟨NB, 0, none⟩ = some (.int .u64 7) := Bx5.cell 0 (by simp)
      have x1 : w5.cell? ⟨NB, 1, none⟩ = some (.int .u64 i) := Bx5.cell 1 (by simp)
      have x2 : w5.cell? ⟨NB, 2, none⟩ = some (.string ⟨#[83]⟩) := Bx5.cell 2 (by simp)
      have x3 : w5.cell? ⟨NB, 3, none⟩ = some (.int .u8 (sdI (s i).sell)) := Bx5.cell 3 (by simp)
      have x4 : w5.cell? ⟨NB, 4, none⟩ = some (.int .i64 (s i).lim) := Bx5.cell 4 (by simp)
      have x5 : w5.cell? ⟨NB, 5, none⟩ = some (.int .i64 (s i).qty) := Bx5.cell 5 (by simp)
      have x6 : w5.cell? ⟨NB, 6, none⟩ = some (.int .u8 0) := Bx5.cell 6 (by simp)
      have x7 : w5.cell? ⟨NB, 7, none⟩ = some (.int .i64 0) := Bx5.cell 7 (by simp)
      have x8 : w5.cell? ⟨NB, 8, none⟩ = some (.int .u8 0) := Bx5.cell 8 (by simp)
      have zN : NB < w5.heap.size := Bx5.lt
      have ES6 := HM.out.2.2.1.under hB6
      have m6 := HM.out.1.under hB6
      have H6 := hide (And.intro hw6 (And.intro hB6 (And.intro hPB (And.intro ES6 m6))))
      by_cases hbar : RK.1.any (bars s i) = true
      · obtain rfl : ok = false := hok.2 (HM.out.2.2.2.2.2.2 hbar)
        have hrj := rejected_any m6.ev (by omega) ES6.ph.en.base i
        simp only [kv] at hrj
        clear ES6 m6 Bx5 By6 hB5 hB6 hok hpl
        go_wp2_with (go_at_call 99)
        rw [← hw6]
        refine hrj.mono ?_
        rintro e w7 ⟨v', rfl, hrow7, F7, hv7⟩
        dsimp only
        obtain ⟨hw6', hB6, hPB', ES6, m6⟩ := H6.out
        have hfin : QS s n eb bb mb W0 A R T ob (.slice (some ⟨qb, 0, none⟩) (N1 + 1) cap) ke xs (k + 1) v' w7 := by
          obtain ⟨hi, hRK, hdrop, hiA⟩ := HI.out
          have e1 : act1 s RK i = (RK.1, RK.2 ++ [(5, i), (2, i)]) := act1_bar hbar
          refine QS.next hlt hi hRK (by rw [e1]; exact ES6.events m6.ev F7) (m6.q.keep F7 (fun b hb e => rowNotTagged (T := [59]) m6.q.own (by decide) hb (rowTagged m6.ev (by simp) e))) ?_
          rw [e1]
          have h1 := hrow7
          rw [HN.out.1, HN.out.2] at h1
          simpa [evs, evc, Nat.add_assoc] using h1
        have HFIN := hide hfin
        clear hfin hrow7 F7 hv7 hrj ES6 m6 hB6 x0 x1 x2 x3 x4 x5 x6 x7 x8
        go_wp2
        go_roundw
        case rel => exact ⟨k + 1, x, v', by omega, rfl, rfl, rfl, by simp, HFIN.out⟩
        case measure => simp [intOf]; omega
      · obtain rfl : ok = true := by
          cases ok
          · exact absurd (HM.out.2.2.2.2.2.1 (hok.1 rfl)) hbar
          · rfl
        have hcx : crossed (buyk (sdn !(s i).sell)) (({ g with oc := upN g.oc i ozf, ec := upd g.ec 5 v5, pn := g.pn + 1, px := g.px ++ [pt (ob i)] } : Gp).σ (sdn !(s i).sell)) (s i).lim = false := by
          cases hc : crossed (buyk (sdn !(s i).sell)) (g.σ (sdn !(s i).sell)) (s i).lim
          · rfl
          · exact absurd (HM.out.2.2.2.2.2.1 hc) hbar
        by_cases hp0 : (s i).lim = 0
        · have hen : Calls Yba.prog 32 #[.pointer (some ⟨eb, 0, none⟩), .pointer (some ⟨bb, 0, none⟩), ordv i (s i).sell (s i).lim (s i).qty 0 0, .agg #[.pointer pa, .pointer pb, .int .i64 pd], .slice (some ⟨gX, 0, none⟩) (NE + 1) capX] w6 _ := enter_none' ES6.ph i (s i).sell (s i).lim (s i).qty hp0 hq0 hcx (by omega)
          have HP0 := hide hp0
          clear ES6 m6 Bx5 By6 hB5 hB6 hok hpl hcx hp0
          go_wp2_with (go_at_call 99)
          rw [← hw6]
          refine hen.mono ?_
          rintro e w7 ⟨rfl, hB7⟩
          dsimp only
          obtain ⟨hw6', hB6, hPB', ES6, m6⟩ := H6.out
          have hfin : QS s n eb bb mb W0 A R T ob (.slice (some ⟨qb, 0, none⟩) (N1 + 1) cap) ke xs (k + 1) (.slice (some ⟨gX, 0, none⟩) (NE + 1) capX) w7 := by
            obtain ⟨hi, hRK, hdrop, hiA⟩ := HI.out
            have e1 : act1 s RK i = (RK.1, RK.2 ++ [(5, i)]) := act1_zero hbar HP0.out
            have m7 := m6.under hB7
            refine QS.next hlt hi hRK (by rw [e1]; exact ES6.under hB7) m7.q ?_
            rw [e1]
            have h1 := m7.ev
            rw [HN.out.1, HN.out.2] at h1
            rw [HN.out.1]
            simpa [evs, evc, Nat.add_assoc] using h1
          have HFIN := hide hfin
          clear hfin hen ES6 m6 hB6 hB7 x0 x1 x2 x3 x4 x5 x6 x7 x8
          go_wp2_with (go_at_call 28; refine (trig_zero _ _ _ _).mono ?_; rintro e w8 ⟨rfl, rfl⟩)
          go_roundw
          case rel => exact ⟨k + 1, 0, _, by omega, rfl, rfl, rfl, by simp, HFIN.out⟩
          case measure => simp [intOf]; omega
        · have hplc := hpl rfl hp0
          have hpe := ES6.pn
          have hE1 := ES6.ec1
          have hen : Calls Yba.prog 32 #[.pointer (some ⟨eb, 0, none⟩), .pointer (some ⟨bb, 0, none⟩), ordv i (s i).sell (s i).lim (s i).qty 0 0, .agg #[.pointer pa, .pointer pb, .int .i64 pd], .slice (some ⟨gX, 0, none⟩) (NE + 1) capX] w6 _ := enter_rest ES6.ph ES6.lg ES6.map (by omega) (by omega) hin hn HM.out.2.2.2.1 rfl rfl (by show g.pn + 1 ≤ 4000; omega) hE1 (s i).sell (s i).lim (s i).qty hp0 hq0 hq1 hcx hplc (by omega)
          have HP0 := hide (And.intro hp0 hpe)
          clear ES6 m6 Bx5 By6 hB5 hB6 hok hpl hcx hp0 hplc hpe hE1
          go_wp2_with (go_at_call 99)
          rw [← hw6]
          refine hen.mono ?_
          rintro e w7 ⟨rfl, g7, q7, tot7, lev7, E7⟩
          dsimp only
          obtain ⟨hw6', hB6, hPB', ES6, m6⟩ := H6.out
          have hfin : QS s n eb bb mb W0 A R T ob (.slice (some ⟨qb, 0, none⟩) (N1 + 1) cap) ke xs (k + 1) (.slice (some ⟨gX, 0, none⟩) (NE + 1) capX) w7 := by
            obtain ⟨hi, hRK, hdrop, hiA⟩ := HI.out
            have e1 : act1 s RK i = (RK.1 ++ [i], RK.2 ++ [(5, i)]) := act1_rest hbar HP0.out.1
            have hiR : i ∉ RK.1 := fun e => hiA (HE.out.1.sub i e)
            have h5B : ∀ b, (({ g with oc := upN g.oc i ozf, ec := upd g.ec 5 v5, pn := g.pn + 1, px := g.px ++ [pt (ob i)] } : Gp).ec 5).ownBlock = some b → Base.B ≤ b := fun b e => (rowTagged (T := [34]) ES6.ph.por (by simp) e).1
            have ES7 := ES6.rest HM.out.2.2.2.2.1 hiR (by simp; simp at hc0; omega) (by simp; simp at hcm0; omega) (n0 := g.pn) (by have := HE.out.1.pn; omega) E7 h5B
            have nq : ∀ b, (Value.slice (some ⟨qb, 0, none⟩) (N1 + 1) cap).ownBlock = some b → ¬ (Tagged addTags w6 b ∨ (({ g with oc := upN g.oc i ozf, ec := upd g.ec 5 v5, pn := g.pn + 1, px := g.px ++ [pt (ob i)] } : Gp).ec 5).ownBlock = some b ∨ b = mb) := fun b hb => by
              rintro (e | e | e)
              · exact rowNotTagged m6.q.own (by decide) hb e
              · exact m6.q.far b hb e
              · exact m6.map.notRowAny m6.q.own hb e
            have nev : ∀ b, (Value.slice (some ⟨gX, 0, none⟩) (NE + 1) capX).ownBlock = some b → ¬ (Tagged addTags w6 b ∨ (({ g with oc := upN g.oc i ozf, ec := upd g.ec 5 v5, pn := g.pn + 1, px := g.px ++ [pt (ob i)] } : Gp).ec 5).ownBlock = some b ∨ b = mb) := fun b hb => by
              rintro (e | e | e)
              · exact rowNotTagged m6.ev (by decide) hb e
              · exact rowNotTagged (T := [34]) m6.ev (by decide) hb (rowTagged m6.ph.por (by simp) e)
              · exact m6.map.notRowAny m6.ev hb e
            refine QS.next hlt hi hRK (by rw [e1]; exact ES7) ⟨rowFr m6.q.own E7.fr nq, fun b hb e => m6.q.far b hb (by rw [← E7.e5]; exact e)⟩ ?_
            rw [e1]
            have h1 := rowFr m6.ev E7.fr nev
            rw [HN.out.1, HN.out.2] at h1
            rw [HN.out.1]
            simpa [evs, evc, Nat.add_assoc] using h1
          have HFIN := hide hfin
          clear hfin hen ES6 m6 hB6 E7 x0 x1 x2 x3 x4 x5 x6 x7 x8
          go_wp2_with (go_at_call 28; refine (trig_zero _ _ _ _).mono ?_; rintro e w8 ⟨rfl, rfl⟩)
          go_roundw
          case rel => exact ⟨k + 1, 0, _, by omega, rfl, rfl, rfl, by simp, HFIN.out⟩
          case measure => simp [intOf]; omega
    · obtain rfl : k = T.length := by omega
      obtain ⟨⟨g, q, tot, lev, M, cnt, c, cm, E, Q⟩, hev⟩ := hQS
      simp only [List.take_length, List.drop_length] at E hev
      obtain ⟨aq, capq, hq2⟩ := rowForm Q.own
      subst hq2
      obtain ⟨w8, hrun, F8, hrow8⟩ := clear_row Q.own 0
      have E8 := E.queue Q F8
      have c4 := E8.ph.en.cell 4 (by omega)
      have f4 := E8.ph.en.frozen 4
      have E9 := E8.trq (.slice aq 0 capq)
      have F9 : Fr (fun b => b = eb) w8 (w8.setCell ⟨eb, 4, none⟩ (.slice aq 0 capq)) := Fr.one _ _ _ _
      have he8 := rowFr hev F8 (fun b hb e => rowNotTagged (T := [34]) hev (by decide) hb (rowTagged Q.own (by simp) e))
      have he9 := rowFr he8 F9 (fun b hb e => E8.ph.en.blk.neRow he8 (by decide) (by rw [hb, e]))
      have hr9 := rowFr hrow8 F9 (fun b hb e => E8.ph.en.blk.neRow hrow8 (by decide) (by rw [hb, e]))
      have hfar : ∀ b, (Value.slice aq 0 capq).ownBlock = some b → (g.ec 5).ownBlock ≠ some b := fun b hb => Q.far b (by cases aq with | none => exact hb | some _ => exact hb)
      have HF := hide (And.intro E9 (And.intro he9 (And.intro hr9 hfar)))
      clear E Q hev F8 hrow8 E8 E9 F9 he8 he9 hr9 hfar
      go_wp2
      go_ret
      refine ⟨_, T, rfl, hup, hT, ⟨_, _, _, _, _, _, _, _, HF.out.1, ?_⟩, HF.out.2.1⟩
      show Qrow ob _ (upd g.ec 4 (.slice aq 0 capq) 4) [] _
      rw [upd_same]
      refine ⟨HF.out.2.2.1, fun b hb => ?_⟩
      show (upd g.ec 4 (.slice aq 0 capq) 5).ownBlock ≠ _
      rw [upd_other _ _ (by decide)]
      exact HF.out.2.2.2 b hb
end
end Go.Proofs.Ybulkjrk
