/-
  OWN WORK: takeCrossed, the walk.
-/
import Derived.Test.YbulkjrkW11
namespace Go.Proofs.Ybulkjrk
open Go.RowKit
set_option linter.unusedSimpArgs false
set_option linter.unusedVariables false
set_option linter.unusedSectionVars false
variable [Base]
section
variable {ob : Nat → Nat} {m c eb bb : Nat} {g : Gp} {W W' : World} {q : Nat → List Nat} {tot : Nat → Int} {lev : Nat → Option Nat}
theorem Qrow.drewN {qv : Value} {T : List Nat} (h : Qrow ob g qv T W) (n : Nat) : Qrow ob g qv T (W.drewN n) := ⟨h.own, h.far⟩
theorem Tk.drewN {k : Nat} {price : Int} {T0 : List Nat} {W0 W1 : World} {qv0 qv1 : Value} {g1 : Gp} {lev1 : Nat → Option Nat} {T : List Nat} (K : Tk ob m c eb bb g q tot lev k price T0 W0 qv0 g1 lev1 qv1 T W1) (n : Nat) : Tk ob m c eb bb g q tot lev k price T0 W0 qv0 g1 lev1 qv1 T (W1.drewN n) :=
  ⟨K.ph.drewN n, K.lg, K.row.drewN n, K.on, K.got, K.nd, K.lt, K.oc, K.ec, K.pn, K.px, K.lev0, K.levO, K.fr.drewN n, K.qb⟩
/-- What the inner loop keeps. -/
structure In (ob : Nat → Nat) (m eb bb : Nat) (g1 : Gp) (T0 T : List Nat) (W0 : World) (qv0 : Value) (A : List Nat) (qv : Value) (W : World) : Prop where
  ph : Ph ob m eb bb { g1 with oc := offL g1.oc A } W
  row : Qrow ob g1 qv (T0 ++ (T ++ A)) W
  fr : Fr (fun b => Tagged addTags W0 b ∨ qv0.ownBlock = some b) W0 W
  qb : qv.ownBlock = qv0.ownBlock ∨ ∀ b, qv.ownBlock = some b → W0.heap.size ≤ b
theorem Tagged.back {T : List TypeId} {A : Nat → Prop} {W W' : World} (F : Fr A W W') {b : Nat} (hb : b < W.heap.size) (h : Tagged T W' b) : A b ∨ Tagged T W b := by
  by_cases hA : A b
  · exact .inl hA
  · obtain ⟨hlo, cs, t, fr, e, ht⟩ := h
    rw [F.block b hb hA] at e
    exact .inr ⟨hlo, cs, t, fr, e, ht⟩
/-- One order more in the row: behind the append. -/
theorem In.next {g1 : Gp} {T0 T : List Nat} {W0 : World} {qv0 : Value} {A : List Nat} {qv : Value} (I : In ob m eb bb g1 T0 T W0 qv0 A qv W) {i : Nat} (hi : i < m) {w2 : World} {gb cap n0 : Nat} {o : Obj} (hn0 : n0 = (T0 ++ (T ++ A)).length)
    (hown : w2.ownsRow Base.B 34 1 (.slice (some ⟨gb, 0, none⟩) (n0 + 1) cap) (n0 + 1) ((T0 ++ (T ++ A)).map (fun i => pt (ob i)) ++ [.pointer (some ⟨ob i, 0, none⟩)]))
    (hgrow : ((((W.setCell ⟨ob i, 9, none⟩ (.pointer none)).setCell ⟨ob i, 10, none⟩ (.pointer none)).setCell ⟨ob i, 11, none⟩ (.pointer none)).alloc o).grownBy w2 qv.ownBlock) (hat : qv.ownBlock = some gb ∨ gb = W.heap.size + 1) :
    In ob m eb bb g1 T0 T W0 qv0 (A ++ [i]) (.slice (some ⟨gb, 0, none⟩) (n0 + 1) cap) w2 := by
  have hO : Blk W (ob i) 82 12 := (I.ph.ord i hi).blk
  have P5 := (I.ph.off hi).alloc o
  have F5 : Fr (fun b => b = ob i) W ((((W.setCell ⟨ob i, 9, none⟩ (.pointer none)).setCell ⟨ob i, 10, none⟩ (.pointer none)).setCell ⟨ob i, 11, none⟩ (.pointer none)).alloc o) :=
    (((Fr.one W (ob i) 9 (.pointer none)).setCell (b := ob i) (fun _ => rfl) 10 (.pointer none)).setCell (b := ob i) (fun _ => rfl) 11 (.pointer none)).alloc o
  have Q5 : Qrow ob { g1 with oc := offO (offL g1.oc A) i } qv (T0 ++ (T ++ A)) ((((W.setCell ⟨ob i, 9, none⟩ (.pointer none)).setCell ⟨ob i, 10, none⟩ (.pointer none)).setCell ⟨ob i, 11, none⟩ (.pointer none)).alloc o) :=
    ⟨rowFr I.row.own F5 (fun b hb e => hO.neRow I.row.own (by decide) (by rw [hb, e])), I.row.far⟩
  obtain ⟨P6, F6⟩ := P5.grownQ Q5 hgrow
  refine ⟨by rw [offL_snoc]; exact P6, ⟨?_, fun b hb e => ?_⟩, ?_, ?_⟩
  · have e2 : (T0 ++ (T ++ (A ++ [i]))).length = n0 + 1 := by rw [hn0]; simp; omega
    have e3 : (T0 ++ (T ++ (A ++ [i]))).map (fun i => pt (ob i)) = (T0 ++ (T ++ A)).map (fun i => pt (ob i)) ++ [.pointer (some ⟨ob i, 0, none⟩)] := by simp [pt]
    rw [e2, e3]
    exact hown
  · have hgb : gb = b := by simpa [Value.ownBlock] using hb
    subst hgb
    rcases hat with h1 | h1
    · exact I.row.far gb h1 e
    · have := (I.ph.por.lt gb e).2
      omega
  · refine (I.fr.join F5 (fun b hb e => ?_)).join F6 (fun b hb e => ?_)
    · subst e
      exact (Tagged.back I.fr hb (hO.tagged (by decide))).elim id .inl
    · rcases I.qb with h1 | h1
      · exact .inr (by rw [← h1]; exact e)
      · have := h1 b e
        omega
  · rcases hat with h1 | h1
    · rcases I.qb with h2 | h2
      · exact .inl (by rw [← h2, h1]; rfl)
      · refine .inr fun b hb => ?_
        have hgb : gb = b := by simpa [Value.ownBlock] using hb
        subst hgb
        exact h2 gb h1
    · refine .inr fun b hb => ?_
      have hgb : gb = b := by simpa [Value.ownBlock] using hb
      have := I.fr.size
      omega

set_option maxRecDepth 100000 in
set_option maxHeartbeats 4000000 in
theorem take_any (h : Ph ob m eb bb g W) (L : Lg m c ob g q tot lev) {k : Nat} (hk : k < 4) (hc : c ≤ 3000) (hm : m ≤ 1024) (price : Int) {qv0 : Value} {T0 : List Nat} (hr : Qrow ob g qv0 T0 W) (nd : T0.Nodup) (h0 : ∀ i ∈ T0, i < m ∧ lev i = none) :
    Calls Yba.prog 40 #[.pointer (some ⟨bb, 1 + 4 * k, none⟩), qv0, .int .i64 price, .pointer (some ⟨eb, 5, none⟩)] W fun e w' => ∃ g1 lev1 qv1 T, e = .returned qv1 ∧ Tk ob m c eb bb g q tot lev k price T0 W qv0 g1 lev1 qv1 T w' ∧ ∀ l ∈ g1.ll k, reach (buyk k) price ((g1.σ k).price l) = false := by
  have K0 := Tk.start (k := k) (price := price) h L hr nd h0
  obtain ⟨i3, hi3, hz3, hs3, hb3⟩ := info_parts info34
  go_enter Yba.func40, Yba.ntmps40
  go_wp2
  go_loopg [1] (g.ll k).length (fun n v wr => ∃ g1 lev1 T, Tk ob m c eb bb g q tot lev k price T0 W qv0 g1 lev1 v T wr ∧ (g1.ll k).length = n)
  case atStart => exact ⟨g, lev, [], K0, rfl⟩
  case round =>
    obtain ⟨g1, lev1, T, K, hn⟩ := hrel
    clear K0 hr nd h0
    have hG := K.ph.good k hk
    have hcr : Calls Yba.prog 44 #[.pointer (some ⟨bb, 1 + 4 * k, none⟩), .int .i64 price] wr _ := crossed_any (K.ph.rep k hk) (fun l e => ends_mem hG e) price
    cases hx : crossed (buyk k) (g1.σ k) price with
    | false =>
      rw [hx] at hcr
      go_wp2_with (go_at_call 44; refine hcr.mono ?_; rintro e w1 ⟨rfl, n1, rfl⟩)
      go_ret
      refine ⟨g1, lev1, _, T, rfl, K.drewN n1, fun l hl => ?_⟩
      cases e : reach (buyk k) price ((g1.σ k).price l) with
      | false => rfl
      | true => rw [(crossed_iff hG (buyk k) price).2 ⟨l, hl, e⟩] at hx; cases hx
    | true =>
      rw [hx] at hcr
      obtain ⟨x, he, hxm, hre⟩ := crossed_best hG hx
      have V := K.lg.lv k hk x hxm
      have hbe : ∀ n, Calls Yba.prog 34 #[.pointer (some ⟨bb, 1 + 4 * k, none⟩)] (wr.drewN n) fun e w' => e = .returned (.pointer (some ⟨x, 0, none⟩)) ∧ ∃ q, w' = (wr.drewN n).drewN q := fun n => by
        have := best_any ((K.ph.drewN n).rep k hk)
        rw [he] at this
        exact this
      have x2 := (K.ph.rep k hk).cell x hxm 2 (by omega)
      simp only [lv] at x2
      rw [V.e2] at x2
      obtain ⟨hv, hhv⟩ : ∃ hv, hv = ptr ((q x).head?.map ob) := ⟨_, rfl⟩
      rw [← hhv] at x2
      have HHV := hide hhv
      clear hhv
      go_wp2_with (first
        | (go_at_call 44; refine hcr.mono ?_; rintro e w1 ⟨rfl, n1, rfl⟩)
        | (go_at_call 34; refine (hbe _).mono ?_; rintro e w2 ⟨rfl, n2, rfl⟩))
      have I0 : In ob m eb bb g1 T0 T W qv0 [] u1 (wr.drewN (n1 + n2)) := ⟨K.ph.drewN _, by simpa using K.row.drewN _, K.fr.drewN _, K.qb⟩
      have hlenT : ∀ A B, q x = A ++ B → (T0 ++ (T ++ A)).length ≤ 2048 := fun A B e => by
        have h1 := nodup_len m (T0 ++ T) K.nd K.lt
        have h2 := nodup_len m (q x) V.nd (fun i hi => (V.mem i hi).1)
        rw [e] at h2
        simp at h1 h2 ⊢
        omega
      have hlens := K.lg.lens hk
      have HK := hide (And.intro K hlenT)
      clear K hlenT hcr hbe x2
      go_loopg [1, 10] (q x).length (fun n v1 v10 ws => ∃ A B, q x = A ++ B ∧ B.length = n ∧ v10 = ptr (B.head?.map ob) ∧ In ob m eb bb g1 T0 T W qv0 A v1 ws)
      case atStart => exact ⟨[], q x, rfl, rfl, HHV.out, I0⟩
      case round =>
        obtain ⟨A, B, hAB, hBn, rfl, I⟩ := hrel
        clear I0
        cases B with
        | nil =>
          simp only [List.head?_nil, Option.map_none, ptr]
          simp at hAB
          subst hAB
          obtain ⟨Lx, Rx, hLR⟩ := List.append_of_mem hxm
          have hLR' := hLR.symm
          go_wp2_with (first
            | (go_at_call 54; refine (freeLevel_ph P5 hXb hxn hxf (by show g1.fl.length ≤ 4000; omega)).mono ?_; rintro e w6 ⟨rfl, v6, P6, F6⟩)
            | (go_at_call 10; refine (unlink_ph (g := { g1 with oc := offL g1.oc (q x) }) I.ph hk hLR' (by show (g1.ll k).length ≤ 4000; omega)).mono ?_; rintro e w5 ⟨rfl, σ', P5, hXb, hpr, F5⟩
               have hxn : ∀ j, j < 4 → x ∉ upN g1.ll k (Lx ++ Rx) j := fun j hj => by
                 have K := HK.out.1
                 by_cases ej : j = k
                 · subst ej
                   rw [upN_same]
                   have nd := hG.nd
                   rw [hLR] at nd
                   intro hh
                   rcases List.mem_append.1 hh with h1 | h1
                   · exact (List.nodup_append.1 nd).2.2 x h1 x (by simp) rfl
                   · exact (List.nodup_cons.1 (List.nodup_append.1 nd).2.1).1 h1
                 · rw [upN_other _ _ ej]
                   exact fun hh => K.ph.dis j k hj hk ej x hh hxm
               have hxf : x ∉ g1.fl := fun hh => HK.out.1.ph.fld k hk x hxm hh))
          have K := HK.out.1
          have hxk : x ∈ g1.ll k := hxm
          have sub : ∀ {T : List TypeId}, (∀ t ∈ T, t ∈ addTags) → ∀ (w : World) b, Tagged T w b → Tagged addTags w b := fun hT w b ⟨hlo, cs, t, fr, e, ht⟩ => ⟨hlo, cs, t, fr, e, hT t ht⟩
          have R5 := rowFr I.row.own F5 (fun b hb => rowNotTagged I.row.own (by decide) hb)
          have R6 := rowFr R5 F6 (fun b hb => rowNotTagged R5 (by decide) hb)
          have FA := I.fr.join F5 (fun b hb e => (Tagged.back I.fr hb (sub (by decide) _ b e)).elim id .inl)
          have FB := FA.join F6 (fun b hb e => (Tagged.back FA hb (sub (by decide) _ b e)).elim id .inl)
          obtain ⟨g4, lev4, K4, hl4⟩ := K.next hk hLR' hre hpr P6 ⟨R6, I.row.far⟩ FB I.qb
          go_roundg ((g1.ll k).length - 1)
          case rel => exact ⟨g4, lev4, T ++ q x, K4, by omega⟩
          case measure => omega
        | cons i B =>
          have hi : i < m := (V.mem i (by rw [hAB]; simp)).1
          have hO := I.ph.ord i hi
          have hiA : i ∉ A := fun hh => by
            have nd := V.nd
            rw [hAB] at nd
            exact (List.nodup_append.1 nd).2.2 i hh i (by simp) rfl
          have c9 := hO.cell 9 (by omega)
          have c10 := hO.cell 10 (by omega)
          have c11 : wr.cell? ⟨ob i, 11, none⟩ = some (ptr (B.head?.map ob)) := by
            rw [hO.cell 11 (by omega), ← V.lnk A i B hAB]
            show some (offL g1.oc A i 11) = _
            rw [offL_other _ _ hiA]
          have f9 := hO.frozen 9
          have f10 := hO.frozen 10
          have f11 := hO.frozen 11
          have hlA := HK.out.2 A _ hAB
          obtain ⟨n0, hn0⟩ : ∃ n0, n0 = (T0 ++ (T ++ A)).length := ⟨_, rfl⟩
          rw [← hn0] at hlA
          have O1 : (((wr.setCell ⟨ob i, 9, none⟩ (.pointer none)).setCell ⟨ob i, 10, none⟩ (.pointer none)).setCell ⟨ob i, 11, none⟩ (.pointer none)).ownsRow Base.B 34 1 u1 n0 ((T0 ++ (T ++ A)).map fun i => pt (ob i)) :=
            rowFr (by rw [hn0]; exact I.row.own) (((Fr.one wr (ob i) 9 (.pointer none)).setCell (b := ob i) (fun _ => rfl) 10 (.pointer none)).setCell (b := ob i) (fun _ => rfl) 11 (.pointer none)) (fun b hb e => hO.blk.neRow I.row.own (by decide) (by rw [hb, e]))
          simp only [List.head?_cons, Option.map_some, ptr]
          have HAB := hide (And.intro hAB hn0)
          clear hAB hn0
          go_wp2_with (at_builtin; refine wpList_append_lies _ rfl _ _ 73 rfl Base.B 34 i3 (.pointer none) 1 8 Yba.underlying73 hi3 hz3 hs3 hb3 rfl (by decide) u1 n0 _ rfl (O1.alloc _) _ 1 1 [.pointer (some ⟨ob i, 0, none⟩)] rfl rfl (lit_cells' _ _ _ (by simp)) (by simp [Value.oneCell']) (by omega) (by unfold maxLen; omega) (by omega) (by have := I.ph.en.base; simp; omega) _ rfl ?_; intro gb cap w2 hown hgrow hat hlt)
          go_roundg B.length
          case rel => exact ⟨A ++ [i], B, by rw [HAB.out.1]; simp, rfl, rfl, I.next hi HAB.out.2 hown hgrow (by simpa using hat)⟩
          case measure => simp at hBn; omega
end
end Go.Proofs.Ybulkjrk
