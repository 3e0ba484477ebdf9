/-
  OWN WORK: the laws' input, opened: a slice of stops.
-/
import Derived.Test.YbulkjrkW29
import Derived.ProofKit
import Derived.OpenShut
import Derived.ShutString
import Derived.ChangeOld
import Derived.Below
import Derived.Deep.Slices
namespace Go.Proofs.Ybulkjrk
open Go.ChangeShapes Go.WideShapes Go.ChangeAt Go.RowKit
set_option linter.unusedSimpArgs false
set_option linter.unusedVariables false
theorem q69 : Yba.prog.cellsOf 69 = 5 := by kernel_rfl
theorem q4 : Yba.prog.cellsOf 4 = 1 := by kernel_rfl
theorem q5 : Yba.prog.cellsOf 5 = 1 := by kernel_rfl
theorem q67 : Yba.prog.cellsOf 67 = 1 := by kernel_rfl
section
variable {H : Type} {enc : TypeId × Value → H} {w : World} {base : Nat} {spare : Nat → Bool} {held : Bool}
theorem f_int {n : Nat} {t : TypeId} {k : IntKind} {c : Value} {x : Option (DataW H × List MemPlace)} (ht : Yba.prog.underlying t = some (.int k))
    (h : DataW.trod enc Yba.prog w base spare held n t [c] = x) (hx : x.isSome = true) : ∃ a, c = .int k a ∧ (Lit.int k a).wf = true := by
  obtain ⟨y, rfl⟩ := Option.isSome_iff_exists.1 hx
  obtain ⟨a, e, _, hw⟩ := DataW.trod_int ht h
  exact ⟨a, by simpa using e, hw⟩
theorem f_bool {n : Nat} {t : TypeId} {c : Value} {x : Option (DataW H × List MemPlace)} (ht : Yba.prog.underlying t = some .bool)
    (h : DataW.trod enc Yba.prog w base spare held n t [c] = x) (hx : x.isSome = true) : ∃ a, c = .bool a := by
  obtain ⟨y, rfl⟩ := Option.isSome_iff_exists.1 hx
  obtain ⟨a, e, _⟩ := DataW.trod_bool ht h
  exact ⟨a, by simpa using e⟩
/-- One stop's five cells. -/
structure St5 where
  en : Bool
  sl : Bool
  st : Int
  li : Int
  qy : Int
def St5.at (s : St5) : Nat → Value
  | 0 => .bool s.en
  | 1 => .bool s.sl
  | 2 => .int .u8 s.st
  | 3 => .int .u8 s.li
  | _ => .int .u16 s.qy
def St5.ok (s : St5) : Prop := (0 ≤ s.st ∧ s.st ≤ 255) ∧ (0 ≤ s.li ∧ s.li ≤ 255) ∧ (0 ≤ s.qy ∧ s.qy ≤ 65535)
set_option maxRecDepth 100000 in
theorem open_stop {n : Nat} {cs : List Value} {x : DataW H × List MemPlace} (h : DataW.trod enc Yba.prog w base spare held n 69 cs = some x) : ∃ e : St5, e.ok ∧ ∀ k, k < 5 → cs[k]? = some (e.at k) := by
  obtain ⟨xs, m, _, _, hcl, hlen, hall⟩ := DataW.trod_struct Yba.underlying69 h
  rw [q69] at hcl
  have hlen : xs.length = 5 := hlen
  have i : ∀ j, j < 5 → (xs[j]?).isSome = true := fun j hj => by simp [List.getElem?_eq_getElem (show j < xs.length by omega)]
  match cs, hcl with
  | [c0, c1, c2, c3, c4], _ =>
    obtain ⟨a0, rfl⟩ := f_bool (c := c0) Yba.underlying4 (by simpa [q4] using hall 0 _ rfl) (i 0 (by omega))
    obtain ⟨a1, rfl⟩ := f_bool (c := c1) Yba.underlying4 (by simpa [q4] using hall 1 _ rfl) (i 1 (by omega))
    obtain ⟨a2, rfl, r2⟩ := f_int (c := c2) Yba.underlying5 (by simpa [q5] using hall 2 _ rfl) (i 2 (by omega))
    obtain ⟨a3, rfl, r3⟩ := f_int (c := c3) Yba.underlying5 (by simpa [q5] using hall 3 _ rfl) (i 3 (by omega))
    obtain ⟨a4, rfl, r4⟩ := f_int (c := c4) Yba.underlying67 (by simpa [q67] using hall 4 _ rfl) (i 4 (by omega))
    simp [Lit.wf, IntKind.min, IntKind.max, IntKind.signed, IntKind.bits] at r2 r3 r4
    refine ⟨⟨a0, a1, a2, a3, a4⟩, ⟨by omega, by omega, by omega⟩, fun k hk => ?_⟩
    match k, hk with
    | 0, _ | 1, _ | 2, _ | 3, _ | 4, _ => rfl
theorem choose_st {n : Nat} {p : Nat → St5 → Prop} (h : ∀ i, i < n → ∃ e, p i e) : ∃ es : Nat → St5, ∀ i, i < n → p i (es i) :=
  ⟨fun i => if hi : i < n then Classical.choose (h i hi) else ⟨false, false, 0, 0, 0⟩, fun i hi => by simp only [hi, dif_pos]; exact Classical.choose_spec (h i hi)⟩
theorem none_stops (a : Option Addr) (cap : Nat) : IsStops w (.slice a 0 cap) :=
  ⟨a, 0, cap, rfl, 0, 0, fun _ => false, fun _ => false, fun _ => 0, fun _ => 0, fun _ => 0, fun h => by omega, ⟨fun t ht => by omega, fun t ht => by omega, fun t ht => by omega, fun t ht => by omega, fun t ht => by omega, fun t ht => by omega, fun t ht => by omega, fun t ht => by omega⟩⟩
theorem open_stops {v : Value} {d : DataW H} {p : List MemPlace} (h : DataW.Trod enc Yba.prog w base spare held 61 v d p) (hv : ∃ a len cap, v = .slice a len cap) : IsStops w v := by
  obtain ⟨a0, len0, cap0, rfl⟩ := hv
  obtain ⟨fuel, hf⟩ := h
  rcases Go.Deep.open_slice Yba.underlying61 hf with ⟨hcs, _⟩ | ⟨a, len, cap, m, n, D, Pl, hcs, hb, hl, hm, hmm, _, hx⟩
  · simp [Value.cells] at hcs
    obtain ⟨rfl, rfl, rfl⟩ := hcs
    exact none_stops _ _
  · simp [Value.cells] at hcs
    obtain ⟨rfl, rfl, rfl⟩ := hcs
    rw [q69] at hx
    by_cases h0 : len0 = 0
    · subst h0; exact none_stops _ _
    · have hle : len0 ≤ m := by rw [hmm]; split <;> omega
      have hcell : ∀ i, i < len0 → ∃ e : St5, e.ok ∧ ∀ k, k < 5 → w.cell? ((a.add (i * 5)).add k) = some (e.at k) := fun i hi => by
        obtain ⟨cs', h1, h2⟩ := hx i (by omega)
        obtain ⟨e, hok, he⟩ := open_stop h2
        obtain ⟨_, hlen, hc⟩ := World.cells?_some h1
        exact ⟨e, hok, fun k hk => (hc k (by omega)).trans (he k hk)⟩
      obtain ⟨b, off, spot⟩ := a
      have hspot : spot = none := by
        obtain ⟨e, _, he⟩ := hcell 0 (by omega)
        have := he 0 (by omega)
        simp only [Nat.zero_mul, Addr.add, if_true] at this
        exact World.cell?_spot this
      subst hspot
      simp only [Addr.add_mid] at hcell
      obtain ⟨es, hes⟩ := choose_st hcell
      refine ⟨_, len0, cap0, rfl, b, off, fun t => (es t).en, fun t => (es t).sl, fun t => (es t).st, fun t => (es t).li, fun t => (es t).qy, fun _ => rfl, ?_⟩
      exact ⟨fun t ht => (hes t ht).2 0 (by omega), fun t ht => (hes t ht).2 1 (by omega), fun t ht => (hes t ht).2 2 (by omega), fun t ht => (hes t ht).2 3 (by omega), fun t ht => (hes t ht).2 4 (by omega), fun t ht => (hes t ht).1.1, fun t ht => (hes t ht).1.2.1, fun t ht => (hes t ht).1.2.2⟩
end
end Go.Proofs.Ybulkjrk
