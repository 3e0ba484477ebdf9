import Derived.Test.YbulkjqwA4
import Derived.ProofKit
import Derived.OpenShut
import Derived.ChangeOld
namespace Go.Proofs.Ybulkjqw
open Go.ChangeShapes Go.WideShapes Go.ChangeAt Go.RowKit
set_option linter.unusedSimpArgs false
set_option linter.unusedVariables false

theorem cells24 : Yba.prog.cellsOf 24 = 8 := by kernel_rfl
theorem cells21 : Yba.prog.cellsOf 21 = 1 := by kernel_rfl
theorem cells22 : Yba.prog.cellsOf 22 = 1 := by kernel_rfl
theorem field_int {H : Type} {enc : TypeId × Value → H} {w : World} {base : Nat} {spare : Nat → Bool} {held : Bool} {n : Nat} {t : TypeId} {k : IntKind} {c : Value} {x : Option (DataW H × List MemPlace)} (ht : Yba.prog.underlying t = some (.int k))
    (h : DataW.trod enc Yba.prog w base spare held n t [c] = x) (hx : x.isSome = true) : ∃ a, c = .int k a := by
  obtain ⟨y, rfl⟩ := Option.isSome_iff_exists.1 hx
  obtain ⟨a, e, _, _⟩ := DataW.trod_int ht h
  exact ⟨a, by simpa using e⟩

set_option maxRecDepth 100000 in
/-- A law's datum, opened: eight numbers. -/
theorem open_dat {H : Type} {enc : TypeId × Value → H} {W : World} {base b0 : Nat} {spare : Nat → Bool} {held : Bool} {v : Value} {d : DataW H} {p : List MemPlace} (hv : Value.okWide Yba.prog W .any b0 24 v) (h : DataW.Trod enc Yba.prog W base spare held 24 v d p) :
    ∃ d : Dat, v = .agg #[.int .i32 d.w, .int .i32 d.h, .int .i32 d.g, .int .i32 d.lw, .int .i32 d.lh, .int .i32 d.lg, .int .i32 d.c, .int .u32 d.p] := by
  obtain ⟨cs, rfl, hsz0⟩ := okWide_struct Yba.underlying24 hv
  rw [cells24] at hsz0
  obtain ⟨fuel, hf⟩ := h
  obtain ⟨xs, n, _, _, _, hlen, hall⟩ := DataW.trod_struct Yba.underlying24 hf
  have hlen : xs.length = 8 := hlen
  obtain ⟨l⟩ := cs
  match l, hsz0 with
  | [c0, c1, c2, c3, c4, c5, c6, c7], _ =>
    have i : ∀ j, j < 8 → (xs[j]?).isSome = true := fun j hj => by simp [List.getElem?_eq_getElem (show j < xs.length by omega)]
    obtain ⟨a0, rfl⟩ := field_int (c := c0) Yba.underlying21 (by simpa [Value.cells, cells21, cells22] using hall 0 _ rfl) (i 0 (by omega))
    obtain ⟨a1, rfl⟩ := field_int (c := c1) Yba.underlying21 (by simpa [Value.cells, cells21, cells22] using hall 1 _ rfl) (i 1 (by omega))
    obtain ⟨a2, rfl⟩ := field_int (c := c2) Yba.underlying21 (by simpa [Value.cells, cells21, cells22] using hall 2 _ rfl) (i 2 (by omega))
    obtain ⟨a3, rfl⟩ := field_int (c := c3) Yba.underlying21 (by simpa [Value.cells, cells21, cells22] using hall 3 _ rfl) (i 3 (by omega))
    obtain ⟨a4, rfl⟩ := field_int (c := c4) Yba.underlying21 (by simpa [Value.cells, cells21, cells22] using hall 4 _ rfl) (i 4 (by omega))
    obtain ⟨a5, rfl⟩ := field_int (c := c5) Yba.underlying21 (by simpa [Value.cells, cells21, cells22] using hall 5 _ rfl) (i 5 (by omega))
    obtain ⟨a6, rfl⟩ := field_int (c := c6) Yba.underlying21 (by simpa [Value.cells, cells21, cells22] using hall 6 _ rfl) (i 6 (by omega))
    obtain ⟨a7, rfl⟩ := field_int (c := c7) Yba.underlying22 (by simpa [Value.cells, cells21, cells22] using hall 7 _ rfl) (i 7 (by omega))
    exact ⟨⟨a0, a1, a2, a3, a4, a5, a6, a7⟩, rfl⟩

end Go.Proofs.Ybulkjqw
