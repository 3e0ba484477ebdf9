import Derived.Test.YbulkjrkN6
import Derived.ProofKit
import Derived.OpenShut
import Derived.ShutString
import Derived.ChangeOld
import Derived.Deep.Slices
namespace Go.Proofs.Ybulkjrk
open Go.ChangeShapes Go.WideShapes Go.ChangeAt Go.RowKit
open Go.ChangeMaps (open_string shut_string)
set_option linter.unusedSimpArgs false
set_option linter.unusedVariables false

theorem c59 : Yba.prog.cellsOf 59 = 9 := by kernel_rfl
theorem c57 : Yba.prog.cellsOf 57 = 2 := by kernel_rfl
theorem c54 : Yba.prog.cellsOf 54 = 1 := by kernel_rfl
theorem c55 : Yba.prog.cellsOf 55 = 1 := by kernel_rfl
theorem c30 : Yba.prog.cellsOf 30 = 1 := by kernel_rfl
theorem c9 : Yba.prog.cellsOf 9 = 1 := by kernel_rfl
theorem c2 : Yba.prog.cellsOf 2 = 1 := by kernel_rfl

section
variable {H : Type} {enc : TypeId × Value → H} {w : World} {base : Nat} {spare : Nat → Bool} {held : Bool}
theorem field_int {n : Nat} {t : TypeId} {k : IntKind} {c : Value} {x : Option (DataW H × List MemPlace)} (ht : Yba.prog.underlying t = some (.int k))
    (h : DataW.trod enc Yba.prog w base spare held n t [c] = x) (hx : x.isSome = true) : ∃ a, c = .int k a := by
  obtain ⟨y, rfl⟩ := Option.isSome_iff_exists.1 hx
  obtain ⟨a, e, _, _⟩ := DataW.trod_int ht h
  exact ⟨a, by simpa using e⟩
theorem field_string {n : Nat} {t : TypeId} {c : Value} {x : Option (DataW H × List MemPlace)} (ht : Yba.prog.underlying t = some .string)
    (h : DataW.trod enc Yba.prog w base spare held n t [c] = x) (hx : x.isSome = true) : ∃ a, c = .string a := by
  obtain ⟨y, rfl⟩ := Option.isSome_iff_exists.1 hx
  obtain ⟨a, e, _, _⟩ := DataW.trod_string ht h
  exact ⟨a, by simpa using e⟩
set_option maxRecDepth 100000 in
theorem field_id {n : Nat} {c0 c1 : Value} {x : Option (DataW H × List MemPlace)} (h : DataW.trod enc Yba.prog w base spare held n 57 [c0, c1] = x) (hx : x.isSome = true) : ∃ a b, c0 = .int .u64 a ∧ c1 = .int .u64 b := by
  obtain ⟨y, rfl⟩ := Option.isSome_iff_exists.1 hx
  obtain ⟨xs, m, _, _, _, hlen, hall⟩ := DataW.trod_struct Yba.underlying57 h
  have hlen : xs.length = 2 := hlen
  have i : ∀ j, j < 2 → (xs[j]?).isSome = true := fun j hj => by simp [List.getElem?_eq_getElem (show j < xs.length by omega)]
  obtain ⟨a, rfl⟩ := field_int (c := c0) Yba.underlying55 (by simpa [c55] using hall 0 _ rfl) (i 0 (by omega))
  obtain ⟨b, rfl⟩ := field_int (c := c1) Yba.underlying55 (by simpa [c55] using hall 1 _ rfl) (i 1 (by omega))
  exact ⟨a, b, rfl, rfl⟩
set_option maxRecDepth 100000 in
/-- An Event's nine cells, read. -/
theorem open_ev {n : Nat} {cs : List Value} {x : DataW H × List MemPlace} (h : DataW.trod enc Yba.prog w base spare held n 59 cs = some x) : ∃ e : Ev, ∀ k, k < 9 → cs[k]? = some (e.at k) := by
  obtain ⟨xs, m, _, _, hcl, hlen, hall⟩ := DataW.trod_struct Yba.underlying59 h
  rw [c59] at hcl
  have hlen : xs.length = 7 := hlen
  have i : ∀ j, j < 7 → (xs[j]?).isSome = true := fun j hj => by simp [List.getElem?_eq_getElem (show j < xs.length by omega)]
  match cs, hcl with
  | [c0, c1, c2, c3, c4, c5, c6, c7, c8], _ =>
    obtain ⟨a0, rfl⟩ := field_int (c := c0) Yba.underlying54 (by simpa [c54] using hall 0 _ rfl) (i 0 (by omega))
    obtain ⟨a1, a2, rfl, rfl⟩ := field_id (c0 := c1) (c1 := c2) (by simpa [c57] using hall 1 _ rfl) (i 1 (by omega))
    obtain ⟨a3, rfl⟩ := field_string (c := c3) Yba.underlying9 (by simpa [c9] using hall 2 _ rfl) (i 2 (by omega))
    obtain ⟨a4, rfl⟩ := field_int (c := c4) Yba.underlying30 (by simpa [c30] using hall 3 _ rfl) (i 3 (by omega))
    obtain ⟨a5, rfl⟩ := field_int (c := c5) Yba.underlying2 (by simpa [Go.Proofs.Ybulkjrk.c2] using hall 4 _ rfl) (i 4 (by omega))
    obtain ⟨a6, rfl⟩ := field_int (c := c6) Yba.underlying2 (by simpa [Go.Proofs.Ybulkjrk.c2] using hall 5 _ rfl) (i 5 (by omega))
    obtain ⟨a7, a8, rfl, rfl⟩ := field_id (c0 := c7) (c1 := c8) (by simpa [c57] using hall 6 _ rfl) (i 6 (by omega))
    refine ⟨⟨a0, a1, a2, a3, a4, a5, a6, a7, a8⟩, fun k hk => ?_⟩
    match k, hk with
    | 0, _ | 1, _ | 2, _ | 3, _ | 4, _ | 5, _ | 6, _ | 7, _ | 8, _ => rfl

theorem choose_ev {n : Nat} {p : Nat → Ev → Prop} (h : ∀ i, i < n → ∃ e, p i e) : ∃ es : Nat → Ev, ∀ i, i < n → p i (es i) :=
  ⟨fun i => if hi : i < n then Classical.choose (h i hi) else ⟨0, 0, 0, ByteArray.empty, 0, 0, 0, 0, 0⟩, fun i hi => by simp only [hi, dif_pos]; exact Classical.choose_spec (h i hi)⟩

/-- What the walk is told of a slice of Events: nil; or an address and a length; and where there are elements, their cells. -/
def IsEvs (w : World) (v : Value) : Prop :=
  v = .slice none 0 0 ∨ (∃ a c, v = .slice (some a) 0 c) ∨ ∃ (b off n c : Nat) (es : Nat → Ev), v = .slice (some ⟨b, off, none⟩) n c ∧ b < w.heap.size ∧ ∀ i, i < n → IsEv w b (off + i * 9) (es i)

theorem open_evs {v : Value} {d : DataW H} {p : List MemPlace} (h : DataW.Trod enc Yba.prog w base spare held 40 v d p) (hv : ∃ a len cap, v = .slice a len cap) : IsEvs w v := by
  obtain ⟨a0, len0, cap0, rfl⟩ := hv
  obtain ⟨fuel, hf⟩ := h
  rcases Go.Deep.open_slice Yba.underlying40 hf with ⟨hcs, _⟩ | ⟨a, len, cap, m, n, D, Pl, hcs, hb, hl, hm, hmm, _, hx⟩
  · simp [Value.cells] at hcs
    obtain ⟨rfl, rfl, rfl⟩ := hcs
    exact .inl rfl
  · simp [Value.cells] at hcs
    obtain ⟨rfl, rfl, rfl⟩ := hcs
    rw [c59] at hx
    by_cases h0 : len0 = 0
    · subst h0; exact .inr (.inl ⟨a, cap0, rfl⟩)
    · have hle : len0 ≤ m := by rw [hmm]; split <;> omega
      have hcell : ∀ i, i < len0 → ∃ e : Ev, ∀ k, k < 9 → w.cell? ((a.add (i * 9)).add k) = some (e.at k) := fun i hi => by
        obtain ⟨cs', h1, h2⟩ := hx i (by omega)
        obtain ⟨e, he⟩ := open_ev h2
        obtain ⟨_, hlen, hc⟩ := World.cells?_some h1
        refine ⟨e, fun k hk => ?_⟩
        exact (hc k (by omega)).trans (he k hk)
      obtain ⟨b, off, spot⟩ := a
      have hspot : spot = none := by
        obtain ⟨e, he⟩ := hcell 0 (by omega)
        have := he 0 (by omega)
        simp only [Nat.zero_mul, Addr.add, if_true] at this
        exact World.cell?_spot this
      subst hspot
      simp only [Addr.add_mid] at hcell
      obtain ⟨es, hes⟩ := choose_ev hcell
      refine .inr (.inr ⟨b, off, len0, cap0, es, rfl, ?_, fun i hi k hk => hes i hi k hk⟩)
      exact World.block_lt_of_cell? w _ (hes 0 (by omega) 0 (by omega))
end


theorem law_any (sym : ByteArray) (v : Value) (bH sH : Bool) (p q p' q' : Int) (w : World) (h : IsEvs w v) :
    Calls Yba.prog 5 #[.string sym, v, .bool bH, .bool sH, .int .i64 p, .int .i64 q, .int .i64 p', .int .i64 q'] w fun e w' => e = .returned (.bool true) ∧ Below w.heap.size w w' := by
  rcases h with rfl | ⟨a, c, rfl⟩ | ⟨b, off, n, c, es, rfl, hb, he⟩
  · exact law_nil sym bH sH p q p' q' w
  · exact law_zero sym a c bH sH p q p' q' w
  · by_cases hn : n ≤ 1024
    · exact law_some sym b off n c es hn bH sH p q p' q' w hb he
    · exact law_great sym _ n c (by omega) bH sH p q p' q' w

namespace lawS0517BNoChangeFromTop
theorem own : ownKnob Yba.prog.godebug = none := by kernel_rfl
theorem laidOut : laidOutB Yba.prog = true := by kernel_rfl

set_option maxRecDepth 100000 in
theorem lifted (os : Os) (started : os.Started) (H : Type) (enc : TypeId × Value → H) :
    ReturnsInHanded {} Yba.checked os 5 .any (Rows.lawS0517BNoChangeFromTopSpec.pre6 enc Yba.prog Yba.f5 Rows.lawS0517BNoChangeFromTopRow.domain false) (Rows.lawS0517BNoChangeFromTopSpec.post enc Yba.prog Yba.f5 false true false false) := by
  refine returnsInHanded_of_change (C := Yba.checked) own started (by kernel_rfl) Yba.func5
    (ChangeSpec.witness6 (enc := enc) (C := Yba.checked) false ⟨#[], #[.string ByteArray.empty, .slice none 0 0, .bool false, .bool false, .int .i64 0, .int .i64 0, .int .i64 0, .int .i64 0], []⟩ 8 (by kernel_rfl) (by kernel_rfl) (by kernel_rfl) (by kernel_rfl)) ?_
  intro W base args ds gs before hval0 hW hcnd _
  have hval : ∀ (j : Nat) t v, Yba.f5.params[j]? = some t → args[j]? = some v → Value.okWide Yba.prog W .any base t v := hval0
  have hW' := hW
  obtain ⟨p, q, hA0, hV, rfl, hfz, hnd⟩ := hW
  have hA : DataW.TrodAll enc Yba.prog W 0 (fun _ => true) true Yba.f5.params.toList args.toList ds p := hA0
  rw [Yba.params5] at hA hval
  obtain ⟨v0, vs0, d0, ds0, p0, q0, hargs, rfl, rfl, h0, r0⟩ := trodAll_cons hA
  obtain ⟨v1, vs1, d1, ds1, p1, q1, rfl, rfl, rfl, h1, r1⟩ := trodAll_cons r0
  obtain ⟨v2, vs2, d2, ds2, p2, q2, rfl, rfl, rfl, h2, r2⟩ := trodAll_cons r1
  obtain ⟨v3, vs3, d3, ds3, p3, q3, rfl, rfl, rfl, h3, r3⟩ := trodAll_cons r2
  obtain ⟨v4, vs4, d4, ds4, p4, q4, rfl, rfl, rfl, h4, r4⟩ := trodAll_cons r3
  obtain ⟨v5, vs5, d5, ds5, p5, q5, rfl, rfl, rfl, h5, r5⟩ := trodAll_cons r4
  obtain ⟨v6, vs6, d6, ds6, p6, q6, rfl, rfl, rfl, h6, r6⟩ := trodAll_cons r5
  obtain ⟨v7, vs7, d7, ds7, p7, q7, rfl, rfl, rfl, h7, r7⟩ := trodAll_cons r6
  obtain ⟨rfl, rfl, rfl⟩ := trodAll_nil r7
  obtain rfl : args = #[v0, v1, v2, v3, v4, v5, v6, v7] := by cases args; simp_all
  obtain ⟨rfl, rfl⟩ := trodVars_none hV
  have k0 := h0
  have lt0 : ∀ x ∈ p0, x.block < W.heap.size := by obtain ⟨m, hm⟩ := k0; exact DataW.trod_lt m _ _ _ hm
  have k1 := h1
  have lt1 : ∀ x ∈ p1, x.block < W.heap.size := by obtain ⟨m, hm⟩ := k1; exact DataW.trod_lt m _ _ _ hm
  have k2 := h2
  have lt2 : ∀ x ∈ p2, x.block < W.heap.size := by obtain ⟨m, hm⟩ := k2; exact DataW.trod_lt m _ _ _ hm
  have k3 := h3
  have lt3 : ∀ x ∈ p3, x.block < W.heap.size := by obtain ⟨m, hm⟩ := k3; exact DataW.trod_lt m _ _ _ hm
  have k4 := h4
  have lt4 : ∀ x ∈ p4, x.block < W.heap.size := by obtain ⟨m, hm⟩ := k4; exact DataW.trod_lt m _ _ _ hm
  have k5 := h5
  have lt5 : ∀ x ∈ p5, x.block < W.heap.size := by obtain ⟨m, hm⟩ := k5; exact DataW.trod_lt m _ _ _ hm
  have k6 := h6
  have lt6 : ∀ x ∈ p6, x.block < W.heap.size := by obtain ⟨m, hm⟩ := k6; exact DataW.trod_lt m _ _ _ hm
  have k7 := h7
  have lt7 : ∀ x ∈ p7, x.block < W.heap.size := by obtain ⟨m, hm⟩ := k7; exact DataW.trod_lt m _ _ _ hm
  obtain ⟨s0, rfl, -, -, -⟩ := open_string Yba.underlying9 (hval 0 9 v0 rfl rfl) h0
  have w1 := open_evs h1 (okWide_slice Yba.underlying40 (hval 1 40 v1 rfl rfl))
  obtain ⟨b2, rfl, -, -⟩ := open_bool Yba.underlying4 (hval 2 4 v2 rfl rfl) h2
  obtain ⟨b3, rfl, -, -⟩ := open_bool Yba.underlying4 (hval 3 4 v3 rfl rfl) h3
  obtain ⟨x4, rfl, -, -, -⟩ := open_int Yba.underlying2 (hval 4 2 v4 rfl rfl) h4
  obtain ⟨x5, rfl, -, -, -⟩ := open_int Yba.underlying2 (hval 5 2 v5 rfl rfl) h5
  obtain ⟨x6, rfl, -, -, -⟩ := open_int Yba.underlying2 (hval 6 2 v6 rfl rfl) h6
  obtain ⟨x7, rfl, -, -, -⟩ := open_int Yba.underlying2 (hval 7 2 v7 rfl rfl) h7
  clear hA0 hval0
  refine (law_any s0 v1 b2 b3 x4 x5 x6 x7 W w1).mono fun e W' ⟨he, bel⟩ => ?_
  subst he
  exact ⟨_, rfl, _, _, _, [], _, [], hW', trodAll_mk1 (shut_bool Yba.underlying4 _), (trodAll_cons_mk (Below.trod laidOut (by kernel_rfl) (of_decide_eq_true (by kernel_rfl)) k0 bel lt0) (trodAll_cons_mk (Below.trod laidOut (by kernel_rfl) (of_decide_eq_true (by kernel_rfl)) k1 bel lt1) (trodAll_cons_mk (Below.trod laidOut (by kernel_rfl) (of_decide_eq_true (by kernel_rfl)) k2 bel lt2) (trodAll_cons_mk (Below.trod laidOut (by kernel_rfl) (of_decide_eq_true (by kernel_rfl)) k3 bel lt3) (trodAll_cons_mk (Below.trod laidOut (by kernel_rfl) (of_decide_eq_true (by kernel_rfl)) k4 bel lt4) (trodAll_cons_mk (Below.trod laidOut (by kernel_rfl) (of_decide_eq_true (by kernel_rfl)) k5 bel lt5) (trodAll_cons_mk (Below.trod laidOut (by kernel_rfl) (of_decide_eq_true (by kernel_rfl)) k6 bel lt6) (trodAll_cons_mk (Below.trod laidOut (by kernel_rfl) (of_decide_eq_true (by kernel_rfl)) k7 bel lt7) trodAll_mk0)))))))), rfl, bel.frame _, fun h => by cases h⟩

theorem over : Rows.lawS0517BNoChangeFromTopRow.holds Yba.pinned (OpenSpec.ofChange Rows.lawS0517BNoChangeFromTopSpec) :=
  OpenClaim.holds_of_wide 5 Yba.f5 rfl rfl rfl rfl rfl rfl rfl ⟨rfl, rfl, rfl, rfl, rfl⟩ rfl rfl rfl rfl rfl (by kernel_rfl) Yba.func5 (by kernel_rfl)
    (of_decide_eq_true (by kernel_rfl)) (by unfold Func.isWrapper; first | (rw [if_pos (by decide +kernel)]; kernel_rfl) | (rw [if_neg (by decide +kernel)]; exact ⟨rfl, rfl⟩))
    (fun os started H enc _ => lifted os started H enc)
end lawS0517BNoChangeFromTop
/-- THE STATEMENT. -/
theorem lawS0517BNoChangeFromTopProved : Rows.LawS0517BNoChangeFromTopSaid := lawS0517BNoChangeFromTop.over
#print axioms lawS0517BNoChangeFromTopProved

end Go.Proofs.Ybulkjrk
