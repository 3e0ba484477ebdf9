import Derived.Test.YbulkjqwG3a
import Derived.ProofKit
import Derived.OpenShut
import Derived.ChangeOld
import Derived.Deep.Slices
namespace Go.Proofs.Ybulkjqw
open Go.ChangeShapes Go.WideShapes Go.ChangeAt Go.RowKit
set_option linter.unusedSimpArgs false
set_option linter.unusedVariables false

theorem cells42 : Yba.prog.cellsOf 42 = 4 := by kernel_rfl
theorem cells56 : Yba.prog.cellsOf 56 = 2 := by kernel_rfl
theorem cells5 : Yba.prog.cellsOf 5 = 1 := by kernel_rfl
theorem cells2 : Yba.prog.cellsOf 2 = 1 := by kernel_rfl

section
variable {H : Type} {enc : TypeId × Value → H} {w : World} {base : Nat} {spare : Nat → Bool} {held : Bool}
theorem u8_in {a : Int} (h : (Lit.int .u8 a).wf = true) : ∃ n : Nat, a = n ∧ n ≤ 255 := by
  simp [Lit.wf, IntKind.min, IntKind.max, IntKind.signed, IntKind.bits] at h
  exact ⟨a.toNat, by omega, by omega⟩
theorem fld_u8 {n : Nat} {c : Value} {x : Option (DataW H × List MemPlace)} (h : DataW.trod enc Yba.prog w base spare held n 5 [c] = x) (hx : x.isSome = true) : ∃ a : Nat, c = .int .u8 a ∧ a ≤ 255 := by
  obtain ⟨y, rfl⟩ := Option.isSome_iff_exists.1 hx
  obtain ⟨a, e, _, hw⟩ := DataW.trod_int Yba.underlying5 h
  obtain ⟨k, rfl, hk⟩ := u8_in hw
  exact ⟨k, by simpa using e, hk⟩
theorem fld_i64 {n : Nat} {c : Value} {x : Option (DataW H × List MemPlace)} (h : DataW.trod enc Yba.prog w base spare held n 2 [c] = x) (hx : x.isSome = true) : ∃ a : Int, c = .int .i64 a := by
  obtain ⟨y, rfl⟩ := Option.isSome_iff_exists.1 hx
  obtain ⟨a, e, _, hw⟩ := DataW.trod_int Yba.underlying2 h
  exact ⟨a, by simpa using e⟩

/-- A slice that came in, opened: p is what an element's cells are. -/
theorem open_in {t e size : Nat} {p : List Value → Prop} (ht : Yba.prog.underlying t = some (.slice e)) (hc : Yba.prog.cellsOf e = size) (hs : 0 < size)
    (hp : ∀ n cs x, DataW.trod enc Yba.prog w base spare held n e cs = some x → p cs) {a0 : Option Addr} {len0 cap0 : Nat} {d : DataW H} {pl : List MemPlace} (h : DataW.Trod enc Yba.prog w base spare held t (.slice a0 len0 cap0) d pl) :
    ∃ b o, 0 < len0 → a0 = some ⟨b, o, none⟩ ∧ b < w.heap.size ∧ ∀ i, i < len0 → ∃ cs, p cs ∧ cs.length = size ∧ ∀ k, k < size → w.cell? ⟨b, o + i * size + k, none⟩ = cs[k]? := by
  obtain ⟨fuel, hf⟩ := h
  rcases Go.Deep.open_slice ht hf with ⟨hcs, _⟩ | ⟨a, len, cap, m, n, D, Pl, hcs, hb, hl, hm, hmm, _, hx⟩
  · simp [Value.cells] at hcs
    obtain ⟨rfl, rfl, rfl⟩ := hcs
    exact ⟨0, 0, fun h => by omega⟩
  · simp [Value.cells] at hcs
    obtain ⟨rfl, rfl, rfl⟩ := hcs
    rw [hc] at hx
    obtain ⟨b, off, spot⟩ := a
    refine ⟨b, off, fun h0 => ?_⟩
    have hle : len0 ≤ m := by rw [hmm]; split <;> omega
    have hcell : ∀ i, i < len0 → ∃ cs, p cs ∧ cs.length = size ∧ ∀ k, k < size → w.cell? (((⟨b, off, spot⟩ : Addr).add (i * size)).add k) = cs[k]? := fun i hi => by
      obtain ⟨cs', h1, h2⟩ := hx i (by omega)
      obtain ⟨_, hlen, hcc⟩ := World.cells?_some h1
      exact ⟨cs', hp _ _ _ h2, hlen, fun k hk => hcc k hk⟩
    have hspot : spot = none := by
      obtain ⟨cs, _, hlen, he⟩ := hcell 0 h0
      have := he 0 hs
      simp only [Nat.zero_mul, Addr.add, if_true] at this
      rw [List.getElem?_eq_getElem (by omega)] at this
      exact World.cell?_spot this
    subst hspot
    simp only [Addr.add_mid] at hcell
    refine ⟨rfl, ?_, hcell⟩
    obtain ⟨cs, _, hlen, he⟩ := hcell 0 h0
    have := he 0 hs
    rw [List.getElem?_eq_getElem (by omega)] at this
    exact World.block_lt_of_cell? w _ this

set_option maxRecDepth 100000 in
theorem open_cfg {n : Nat} {cs : List Value} {x : DataW H × List MemPlace} (h : DataW.trod enc Yba.prog w base spare held n 42 cs = some x) :
    ∃ (a0 a1 a2 : Nat) (a3 : Int), cs = [.int .u8 a0, .int .u8 a1, .int .u8 a2, .int .i64 a3] ∧ a0 ≤ 255 ∧ a1 ≤ 255 ∧ a2 ≤ 255 := by
  obtain ⟨xs, m, _, _, hcl, hlen, hall⟩ := DataW.trod_struct Yba.underlying42 h
  rw [cells42] at hcl
  have hlen : xs.length = 4 := hlen
  have i : ∀ j, j < 4 → (xs[j]?).isSome = true := fun j hj => by simp [List.getElem?_eq_getElem (show j < xs.length by omega)]
  match cs, hcl with
  | [c0, c1, c2, c3], _ =>
    obtain ⟨a0, rfl, k0⟩ := fld_u8 (c := c0) (by simpa [cells5, cells2] using hall 0 _ rfl) (i 0 (by omega))
    obtain ⟨a1, rfl, k1⟩ := fld_u8 (c := c1) (by simpa [cells5, cells2] using hall 1 _ rfl) (i 1 (by omega))
    obtain ⟨a2, rfl, k2⟩ := fld_u8 (c := c2) (by simpa [cells5, cells2] using hall 2 _ rfl) (i 2 (by omega))
    obtain ⟨a3, rfl⟩ := fld_i64 (c := c3) (by simpa [cells5, cells2] using hall 3 _ rfl) (i 3 (by omega))
    exact ⟨a0, a1, a2, a3, rfl, k0, k1, k2⟩
set_option maxRecDepth 100000 in
theorem open_free {n : Nat} {cs : List Value} {x : DataW H × List MemPlace} (h : DataW.trod enc Yba.prog w base spare held n 56 cs = some x) :
    ∃ (a0 a1 : Nat), cs = [.int .u8 a0, .int .u8 a1] ∧ a0 ≤ 255 ∧ a1 ≤ 255 := by
  obtain ⟨xs, m, _, _, hcl, hlen, hall⟩ := DataW.trod_struct Yba.underlying56 h
  rw [cells56] at hcl
  have hlen : xs.length = 2 := hlen
  have i : ∀ j, j < 2 → (xs[j]?).isSome = true := fun j hj => by simp [List.getElem?_eq_getElem (show j < xs.length by omega)]
  match cs, hcl with
  | [c0, c1], _ =>
    obtain ⟨a0, rfl, k0⟩ := fld_u8 (c := c0) (by simpa [cells5] using hall 0 _ rfl) (i 0 (by omega))
    obtain ⟨a1, rfl, k1⟩ := fld_u8 (c := c1) (by simpa [cells5] using hall 1 _ rfl) (i 1 (by omega))
    exact ⟨a0, a1, rfl, k0, k1⟩
theorem open_u8 {n : Nat} {cs : List Value} {x : DataW H × List MemPlace} (h : DataW.trod enc Yba.prog w base spare held n 5 cs = some x) : ∃ (a0 : Nat), cs = [.int .u8 a0] ∧ a0 ≤ 255 := by
  obtain ⟨a, e, _, hw⟩ := DataW.trod_int Yba.underlying5 h
  obtain ⟨k, rfl, hk⟩ := u8_in hw
  exact ⟨k, e, hk⟩

theorem choose_below {α : Type} {n : Nat} (d : α) {p : Nat → α → Prop} (h : ∀ i, i < n → ∃ e, p i e) : ∃ es : Nat → α, (∀ i, i < n → p i (es i)) ∧ ∀ i, ¬ i < n → es i = d :=
  ⟨fun i => if hi : i < n then Classical.choose (h i hi) else d, fun i hi => by simp only [hi, dif_pos]; exact Classical.choose_spec (h i hi), fun i hi => by simp [hi]⟩

theorem in_cfg {a0 : Option Addr} {len cap : Nat} {d : DataW H} {pl : List MemPlace} (h : DataW.Trod enc Yba.prog w base spare held 37 (.slice a0 len cap) d pl) :
    ∃ b o, ∃ (x0 x1 x2 : Nat → Nat) (x3 : Nat → Int), (∀ i, x0 i ≤ 255) ∧ (∀ i, x1 i ≤ 255) ∧ (∀ i, x2 i ≤ 255) ∧ InRow w a0 len 4 b o fun i k => if k = 0 then .int .u8 (x0 i) else if k = 1 then .int .u8 (x1 i) else if k = 2 then .int .u8 (x2 i) else .int .i64 (x3 i) := by
  obtain ⟨b, o, hx⟩ := open_in (p := fun cs => ∃ (a0 a1 a2 : Nat) (a3 : Int), cs = [.int .u8 a0, .int .u8 a1, .int .u8 a2, .int .i64 a3] ∧ a0 ≤ 255 ∧ a1 ≤ 255 ∧ a2 ≤ 255) Yba.underlying37 cells42 (by omega) (fun n cs x hh => open_cfg hh) h
  by_cases h0 : 0 < len
  · obtain ⟨h1, h2, h3⟩ := hx h0
    have h4 : ∀ i, i < len → ∃ e : Nat × Nat × Nat × Int, (e.1 ≤ 255 ∧ e.2.1 ≤ 255 ∧ e.2.2.1 ≤ 255) ∧ ∀ k, k < 4 → w.cell? ⟨b, o + i * 4 + k, none⟩ = some (if k = 0 then .int .u8 e.1 else if k = 1 then .int .u8 e.2.1 else if k = 2 then .int .u8 e.2.2.1 else .int .i64 e.2.2.2) := fun i hi => by
      obtain ⟨cs, ⟨a0, a1, a2, a3, rfl, k0, k1, k2⟩, _, hc⟩ := h3 i hi
      refine ⟨(a0, a1, a2, a3), ⟨k0, k1, k2⟩, fun k hk => ?_⟩
      rw [hc k hk]
      rcases (by omega : k = 0 ∨ k = 1 ∨ k = 2 ∨ k = 3) with rfl | rfl | rfl | rfl <;> rfl
    obtain ⟨es, he, hd⟩ := choose_below (0, 0, 0, 0) h4
    have hb : ∀ i, (es i).1 ≤ 255 ∧ (es i).2.1 ≤ 255 ∧ (es i).2.2.1 ≤ 255 := fun i => by
      by_cases hi : i < len
      · exact (he i hi).1
      · rw [hd i hi]; exact ⟨by simp, by simp, by simp⟩
    exact ⟨b, o, fun i => (es i).1, fun i => (es i).2.1, fun i => (es i).2.2.1, fun i => (es i).2.2.2, fun i => (hb i).1, fun i => (hb i).2.1, fun i => (hb i).2.2, fun _ => ⟨h1, h2, fun i hi k hk => (he i hi).2 k hk⟩⟩
  · exact ⟨b, o, fun _ => 0, fun _ => 0, fun _ => 0, fun _ => 0, fun _ => by simp, fun _ => by simp, fun _ => by simp, fun hh => absurd hh h0⟩
theorem in_free {a0 : Option Addr} {len cap : Nat} {d : DataW H} {pl : List MemPlace} (h : DataW.Trod enc Yba.prog w base spare held 39 (.slice a0 len cap) d pl) :
    ∃ b o, ∃ (x0 x1 : Nat → Nat), (∀ i, x0 i ≤ 255) ∧ (∀ i, x1 i ≤ 255) ∧ InRow w a0 len 2 b o fun i k => if k = 0 then .int .u8 (x0 i) else .int .u8 (x1 i) := by
  obtain ⟨b, o, hx⟩ := open_in (p := fun cs => ∃ (a0 a1 : Nat), cs = [.int .u8 a0, .int .u8 a1] ∧ a0 ≤ 255 ∧ a1 ≤ 255) Yba.underlying39 cells56 (by omega) (fun n cs x hh => open_free hh) h
  by_cases h0 : 0 < len
  · obtain ⟨h1, h2, h3⟩ := hx h0
    have h4 : ∀ i, i < len → ∃ e : Nat × Nat, (e.1 ≤ 255 ∧ e.2 ≤ 255) ∧ ∀ k, k < 2 → w.cell? ⟨b, o + i * 2 + k, none⟩ = some (if k = 0 then .int .u8 e.1 else .int .u8 e.2) := fun i hi => by
      obtain ⟨cs, ⟨a0, a1, rfl, k0, k1⟩, _, hc⟩ := h3 i hi
      refine ⟨(a0, a1), ⟨k0, k1⟩, fun k hk => ?_⟩
      rw [hc k hk]
      rcases (by omega : k = 0 ∨ k = 1) with rfl | rfl <;> rfl
    obtain ⟨es, he, hd⟩ := choose_below (0, 0) h4
    have hb : ∀ i, (es i).1 ≤ 255 ∧ (es i).2 ≤ 255 := fun i => by
      by_cases hi : i < len
      · exact (he i hi).1
      · rw [hd i hi]; exact ⟨by simp, by simp⟩
    exact ⟨b, o, fun i => (es i).1, fun i => (es i).2, fun i => (hb i).1, fun i => (hb i).2, fun _ => ⟨h1, h2, fun i hi k hk => (he i hi).2 k hk⟩⟩
  · exact ⟨b, o, fun _ => 0, fun _ => 0, fun _ => by simp, fun _ => by simp, fun hh => absurd hh h0⟩
theorem in_u8 {a0 : Option Addr} {len cap : Nat} {d : DataW H} {pl : List MemPlace} (h : DataW.Trod enc Yba.prog w base spare held 38 (.slice a0 len cap) d pl) :
    ∃ b o, ∃ (x0 : Nat → Nat), (∀ i, x0 i ≤ 255) ∧ InRow w a0 len 1 b o fun i _ => .int .u8 (x0 i) := by
  obtain ⟨b, o, hx⟩ := open_in (p := fun cs => ∃ (a0 : Nat), cs = [.int .u8 a0] ∧ a0 ≤ 255) Yba.underlying38 cells5 (by omega) (fun n cs x hh => open_u8 hh) h
  by_cases h0 : 0 < len
  · obtain ⟨h1, h2, h3⟩ := hx h0
    have h4 : ∀ i, i < len → ∃ e : Nat, e ≤ 255 ∧ ∀ k, k < 1 → w.cell? ⟨b, o + i * 1 + k, none⟩ = some (.int .u8 e) := fun i hi => by
      obtain ⟨cs, ⟨a0, rfl, k0⟩, _, hc⟩ := h3 i hi
      refine ⟨a0, k0, fun k hk => ?_⟩
      rw [hc k hk]
      rcases (by omega : k = 0) with rfl
      rfl
    obtain ⟨es, he, hd⟩ := choose_below 0 h4
    have hb : ∀ i, es i ≤ 255 := fun i => by
      by_cases hi : i < len
      · exact (he i hi).1
      · rw [hd i hi]; simp
    exact ⟨b, o, es, hb, fun _ => ⟨h1, h2, fun i hi k hk => (he i hi).2 k hk⟩⟩
  · exact ⟨b, o, fun _ => 0, fun _ => by simp, fun hh => absurd hh h0⟩
end

set_option maxRecDepth 100000 in
/-- Where an input is too long the law says nothing. -/
theorem law_great (pc po pr pf : Option Addr) (F cF M cM Q cQ N cN : Nat) (wt hd0 : Value) (rest : Value) (w : World) (hg : 1024 < F ∨ 1024 < M ∨ 1024 < Q ∨ 256 < N) :
    Calls Yba.prog 5 #[.slice pc F cF, .slice po M cM, wt, hd0, .slice pr Q cQ, .slice pf N cN, rest] w
      fun e w' => e = .returned (.bool true) ∧ Below w.heap.size w w' := by
  by_cases h1 : 1024 < F
  · have i1 : (1024 : Int) < (F : Int) := by omega
    go_enter Yba.func5, Yba.ntmps5
    go_wp2
    go_ret
    exact ⟨rfl, Below.refl _ _⟩
  · have i1 : ¬ (1024 : Int) < (F : Int) := by omega
    by_cases h2 : 1024 < M
    · have i2 : (1024 : Int) < (M : Int) := by omega
      go_enter Yba.func5, Yba.ntmps5
      go_wp2
      go_ret
      exact ⟨rfl, Below.refl _ _⟩
    · have i2 : ¬ (1024 : Int) < (M : Int) := by omega
      by_cases h3 : 1024 < Q
      · have i3 : (1024 : Int) < (Q : Int) := by omega
        go_enter Yba.func5, Yba.ntmps5
        go_wp2
        go_ret
        exact ⟨rfl, Below.refl _ _⟩
      · have i3 : ¬ (1024 : Int) < (Q : Int) := by omega
        have i4 : (256 : Int) < (N : Int) := by omega
        go_enter Yba.func5, Yba.ntmps5
        go_wp2
        go_ret
        exact ⟨rfl, Below.refl _ _⟩

end Go.Proofs.Ybulkjqw
