/-
  OWN WORK: takeTriggered, the walk.
-/
import Derived.Test.YbulkjrkW13
namespace Go.Proofs.Ybulkjrk
open Go.RowKit
open Go.Sort (swp SWO PermIn SortedIn)
set_option linter.unusedSimpArgs false
set_option linter.unusedVariables false
set_option linter.unusedSectionVars false
variable [Base]
section
variable {ob : Nat → Nat} {m c eb bb : Nat} {g : Gp} {W W' : World} {q : Nat → List Nat} {tot : Nat → Int} {lev : Nat → Option Nat}
set_option maxRecDepth 100000 in
theorem trig_zero (bv qv pv : Value) (W : World) : Calls Yba.prog 28 #[bv, qv, .int .i64 0, pv] W fun e w' => e = .returned qv ∧ w' = W := by
  go_enter Yba.func28, Yba.ntmps28
  go_wp2
  go_ret
  exact ⟨rfl, rfl⟩

set_option maxRecDepth 100000 in
set_option maxHeartbeats 4000000 in
theorem trig_any (h : Ph ob m eb bb g W) (L : Lg m c ob g q tot lev) (hc : c ≤ 3000) (hm : m ≤ 1024) {price : Int} (hp : price ≠ 0) {qv0 : Value} (hr : Qrow ob g qv0 [] W) (hseq : (∃ i p, (On g q 2 i p ∧ reach true price p = true) ∨ (On g q 3 i p ∧ reach false price p = true)) → ∀ i, i < m → g.oc i 7 = .int .u64 ((i : Int) + 1)) :
    Calls Yba.prog 28 #[.pointer (some ⟨bb, 0, none⟩), qv0, .int .i64 price, .pointer (some ⟨eb, 5, none⟩)] W fun e w' => ∃ g1 lev1 qv1 T, e = .returned qv1 ∧ Trig ob m c eb bb g q tot lev price W qv0 g1 lev1 qv1 T w' := by
  obtain ⟨a0, cap0, hq0⟩ := rowForm hr.own
  simp only [List.length_nil] at hq0
  have t2 : Calls Yba.prog 40 #[.pointer (some ⟨bb, 9, none⟩), qv0, .int .i64 price, .pointer (some ⟨eb, 5, none⟩)] W _ := take_any (k := 2) h L (by omega) hc hm price hr (by simp) (fun i hi => by simp at hi)
  subst hq0
  have once : True := trivial
  go_enter Yba.func28, Yba.ntmps28
  go_wp2_with (go_at_call 40; clear once; refine t2.mono ?_; rintro e w1 ⟨g1, lev1, qv1, T2, rfl, K1, U1⟩)
  have t3 : Calls Yba.prog 40 #[.pointer (some ⟨bb, 13, none⟩), qv1, .int .i64 price, .pointer (some ⟨eb, 5, none⟩)] w1 _ := take_any (k := 3) (T0 := T2) K1.ph K1.lg (by omega) hc hm price K1.row K1.nd (fun i hi => ⟨K1.lt i hi, K1.lev0 i hi⟩)
  refine t3.mono ?_
  rintro e w2 ⟨g2, lev2, qv2, T3, rfl, K2, U2⟩
  dsimp only
  obtain ⟨M1, M2, M3, M4, M5, M6, M7, M8, M9, M10⟩ := Tk.join h L K1 U1 K2 U2
  have hlen := nodup_len m (T2 ++ T3) K2.nd K2.lt
  obtain ⟨N, hN⟩ : ∃ N, N = (T2 ++ T3).length := ⟨_, rfl⟩
  have hrow := K2.row.own
  rw [← hN] at hrow hlen
  have HN := hide hN
  by_cases c1 : N ≤ 1
  · have hup : (T2 ++ T3).Pairwise (· < ·) := by
      rw [hN] at c1
      generalize T2 ++ T3 = T at c1
      match T, c1 with
      | [], _ => exact List.Pairwise.nil
      | [a], _ => simp
      | a :: b :: t, h => simp at h
    obtain ⟨a2, cap2, hq2⟩ := rowForm hrow
    have HF := hide (show Trig ob m c eb bb g q tot lev price W (.slice a0 0 cap0) g2 lev2 qv2 (T2 ++ T3) w2 from ⟨K2.ph, K2.lg, K2.row, hup, M1, M2, K2.lt, M3, fun j h6 _ => M4 j h6, M5, M6, M7, M8, M9, M10⟩)
    clear M1 M2 M3 M4 M5 M6 M7 M8 M9 M10 K1 K2 U1 U2 hrow t2 t3 h L hr hup hN
    subst hq2
    go_wp2
    go_ret
    exact ⟨g2, lev2, _, _, rfl, HF.out⟩
  · obtain ⟨N1, rfl⟩ : ∃ N1, N = N1 + 1 := ⟨N - 1, by omega⟩
    obtain ⟨qb, cap, hq2, hcap⟩ := rowForm1 hrow
    subst hq2
    have hen := K2.ph.en
    have c7 := hen.cell 7 (by omega)
    have f7 := hen.frozen 7
    have heq : eb ≠ qb := fun e => hen.blk.neRow hrow (by decide) (by rw [e]; rfl)
    obtain ⟨sv, hsv⟩ : ∃ sv, sv = Value.slice (some ⟨qb, 0, none⟩) (N1 + 1) cap := ⟨_, rfl⟩
    have F3 : Fr (fun b => b = eb) w2 (w2.setCell ⟨eb, 7, none⟩ sv) := Fr.one _ _ _ _
    have P3 := K2.ph.setE (j := 7) (by omega) (by omega) (by omega) sv
    have hrow3 := rowFr hrow F3 (fun b hb e => heq (by
      have : qb = b := by simpa [Value.ownBlock] using hb
      omega))
    have Q3 : Qrow ob { g2 with ec := upd g2.ec 7 sv } (.slice (some ⟨qb, 0, none⟩) (N1 + 1) cap) (T2 ++ T3) (w2.setCell ⟨eb, 7, none⟩ sv) := ⟨by rw [← hN]; exact hrow3, K2.row.far⟩
    have hqb : qb < (w2.setCell ⟨eb, 7, none⟩ sv).heap.size := (hrow3.lt qb rfl).2
    obtain ⟨cur, hcur⟩ : ∃ cur, (w2.setCell ⟨eb, 7, none⟩ sv).heap[qb]? = some (.cells cur 34 (0, 0)) := by
      rcases hrow3.2 with ⟨h0, _⟩ | ⟨g', cap', cur, h0, _, hc', _⟩
      · cases h0
      · cases h0; exact ⟨cur, hc'⟩
    have he3 := (P3.en.cell 7 (by omega))
    replace he3 : (w2.setCell ⟨eb, 7, none⟩ sv).cell? ⟨eb, 7, none⟩ = some (.slice (some ⟨qb, 0, none⟩) (N1 + 1) cap) := by rw [he3]; show some (upd g2.ec 7 sv 7) = _; rw [upd_same, hsv]
    replace hseq := hseq (by
      obtain ⟨x, hx⟩ := List.exists_mem_of_length_pos (l := T2 ++ T3) (by omega)
      obtain ⟨p, hp⟩ := (M1 x).1 hx
      exact ⟨x, p, hp⟩)
    have ho3 : ∀ i, i < m → (w2.setCell ⟨eb, 7, none⟩ sv).cell? ⟨ob i, 7, none⟩ = some (.int .u64 ((i : Int) + 1)) := fun i hi => by
      rw [(P3.ord i hi).cell 7 (by omega)]
      show some (g2.oc i 7) = _
      rw [M3 i 7 (by omega), hseq i hi]
    have hoq : ∀ i, i < m → ob i ≠ qb := fun i hi e => (P3.ord i hi).blk.neRow hrow3 (by decide) (by rw [e]; rfl)
    have hsr := srt_of (ob := ob) (m := m) hqb he3 heq (by omega) ho3 hoq
    have S0 : SR ob m (w2.setCell ⟨eb, 7, none⟩ sv) qb (N1 + 1) cap (T2 ++ T3).toArray (w2.setCell ⟨eb, 7, none⟩ sv) :=
      ⟨by simp only [List.size_toArray]; omega, fun i hi => K2.lt i (by simpa using hi), rfl, rfl, rfl, Nat.le_refl _, fun _ _ _ => rfl, hrow3⟩
    have hsort := sort_any hsr swoN (fun x y hne hxy => by simp at hxy ⊢; omega) S0 (by simpa using K2.nd)
    have Hfin := hide (And.intro h (And.intro L (And.intro K2 (And.intro M1 (And.intro M2 (And.intro M3 (And.intro M4 (And.intro M5 (And.intro M6 (And.intro M7 (And.intro M8 (And.intro M9 (And.intro M10 (And.intro P3 (And.intro Q3 hcur)))))))))))))))
    have zE := P3.en.lt
    have fE := P3.en.frozen 7
    subst hsv
    clear M1 M2 M3 M4 M5 M6 M7 M8 M9 M10 K1 K2 U1 U2 hrow t2 t3 h L hr hN hen P3 Q3 hrow3 F3 hcur ho3 hoq hsr S0
    go_wp2_with (go_at_call 41; refine hsort.mono ?_; rintro e w4 ⟨rfl, d', S4, hP4, hS4⟩; have c7' := (World.cell?_of_block (a := ⟨eb, 7, none⟩) (S4.blk eb zE heq)).trans he3; have f7' := (World.frozen?_of_block (a := ⟨eb, 7, none⟩) (S4.blk eb zE heq)).trans fE)
    go_ret
    obtain ⟨h, L, K2, M1, M2, M3, M4, M5, M6, M7, M8, M9, M10, P3, Q3, hcur⟩ := Hfin.out
    have FS := (SR.fr S4 (by simp [rowTag]) hcur).mono (B := fun b => (Value.slice (some ⟨qb, 0, none⟩) (N1 + 1) cap).ownBlock = some b) (fun b _ e => by rw [e]; rfl)
    have P4 := P3.frQ Q3 FS
    have P5 := P4.setE (j := 7) (by omega) (by omega) (by omega) (.slice none 0 0)
    have F5 : Fr (fun b => b = eb) w4 (w4.setCell ⟨eb, 7, none⟩ (.slice none 0 0)) := Fr.one _ _ _ _
    have hsz : d'.size = N1 + 1 := S4.sz
    obtain ⟨hup, hper⟩ := sorted_up (T := T2 ++ T3) (n := N1 + 1) HN.out.symm K2.nd hP4 hS4
    have hmem : ∀ i, i ∈ d'.toList ↔ i ∈ T2 ++ T3 := fun i => hper.mem_iff
    have R5 : Qrow ob { g2 with ec := upd (upd g2.ec 7 (.slice (some ⟨qb, 0, none⟩) (N1 + 1) cap)) 7 (.slice none 0 0) } (.slice (some ⟨qb, 0, none⟩) (N1 + 1) cap) d'.toList (w4.setCell ⟨eb, 7, none⟩ (.slice none 0 0)) := by
      refine ⟨?_, K2.row.far⟩
      have := rowFr S4.row F5 (fun b hb e => heq (by
        have : qb = b := by simpa [Value.ownBlock] using hb
        omega))
      rw [Array.length_toList, hsz]
      exact this
    have te : Tagged addTags W eb := h.en.blk.tagged (by decide)
    refine ⟨_, lev2, _, d'.toList, rfl, P5, ⟨fun k hk l hl => (K2.lg.lv k hk l hl).congr (Nat.le_refl _) (Nat.le_refl _) rfl rfl rfl (fun _ _ => rfl) (fun _ _ => rfl) (fun _ _ => rfl), K2.lg.len⟩, R5, hup, fun i => (hmem i).trans (M1 i), fun j hj i p => ?_, fun i hi => K2.lt i ((hmem i).1 hi), M3, fun j h6 h7 => ?_, M5, M6, fun i hi => M7 i ((hmem i).1 hi), fun i hi => M8 i (fun hh => hi ((hmem i).2 hh)), ?_, M10⟩
    · rw [hmem]; exact M2 j hj i p
    · show upd (upd g2.ec 7 _) 7 _ j = _
      rw [upd_other _ _ h7, upd_other _ _ h7]
      exact M4 j h6
    · refine ((M9.setCell (b := eb) (fun _ => .inl te) 7 (.slice (some ⟨qb, 0, none⟩) (N1 + 1) cap)).join FS (fun b hb e => ?_)).setCell (b := eb) (fun _ => .inl te) 7 (.slice none 0 0)
      rcases M10 with h1 | h1
      · exact .inr (by rw [← h1]; exact e)
      · have := h1 b e
        omega
end
end Go.Proofs.Ybulkjrk
