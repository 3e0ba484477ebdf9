import Derived.Test.YbulkjrkN1
namespace Go.Proofs.Ybulkjrk
open Go.RowKit
set_option linter.unusedSimpArgs false
set_option linter.unusedVariables false

set_option maxHeartbeats 400000 in
theorem bside_no (sd p q : Int) (w : World) :
    Calls Yba.prog 11 #[.int .u8 sd, .bool false, .int .i64 p, .int .i64 q] w fun e w' =>
      e = .returned (.tuple #[.agg #[.int .u8 sd, .pointer none, .pointer none, .pointer none], .agg #[.int .i64 0, .int .i64 0]]) ∧ Below w.heap.size w w' := by
  go_enter Yba.func11, Yba.ntmps11
  go_wp2
  refine bodyPost_ret (v := .tuple #[.agg #[.int .u8 sd, .pointer none, .pointer none, .pointer none], .agg #[.int .i64 0, .int .i64 0]]) (by simp [results, Yba.results11, go_sem]) rfl ⟨rfl, ?_⟩
  exact ((Below.refl _ _).alloc (Nat.le_refl _) _).alloc (by simp) _

set_option maxHeartbeats 400000 in
theorem bside_yes (sd p q : Int) (w : World) :
    Calls Yba.prog 11 #[.int .u8 sd, .bool true, .int .i64 p, .int .i64 q] w fun e w' => ∃ bl, w.heap.size ≤ bl ∧ bl < w'.heap.size ∧ w'.cell? ⟨bl, 0, none⟩ = some (.int .i64 p) ∧ w'.cell? ⟨bl, 1, none⟩ = some (.int .i64 q) ∧
      e = .returned (.tuple #[.agg #[.int .u8 sd, .pointer (some ⟨bl, 0, none⟩), .pointer (some ⟨bl, 0, none⟩), .pointer (some ⟨bl, 0, none⟩)], .agg #[.int .i64 p, .int .i64 q]]) ∧ Below w.heap.size w w' := by
  go_enter Yba.func11, Yba.ntmps11
  go_wp2
  refine bodyPost_ret (v := .tuple #[.agg #[.int .u8 sd, .pointer (some ⟨w.heap.size + 1 + 1, 0, none⟩), .pointer (some ⟨w.heap.size + 1 + 1, 0, none⟩), .pointer (some ⟨w.heap.size + 1 + 1, 0, none⟩)], .agg #[.int .i64 p, .int .i64 q]]) (by simp [results, Yba.results11, go_sem]) rfl ⟨w.heap.size + 1 + 1, by omega, by simp, ?_, ?_, rfl, ?_⟩
  · simp [World.cell?_alloc_at]
  · simp [World.cell?_alloc_at]
  · exact (((Below.refl _ _).alloc (Nat.le_refl _) _).alloc (by simp) _).alloc (by simp; omega) _

set_option maxHeartbeats 400000 in
theorem side_top_nil (b o : Nat) (w : World) (hb : b < w.heap.size) (s : Int) (hs : s = 1 ∨ s = 2) (h : w.cell? ⟨b, o, none⟩ = some (.int .u8 s)) (h0 : w.cell? ⟨b, o + 2, none⟩ = some (.pointer none)) (h1 : w.cell? ⟨b, o + 2 + 1, none⟩ = some (.pointer none)) :
    Calls Yba.prog 24 #[.pointer (some ⟨b, o, none⟩)] w fun e w' => e = .returned (.agg #[.int .i64 0, .int .i64 0]) ∧ Below w.heap.size w w' := by
  rcases hs with rfl | rfl
  · go_enter Yba.func24, Yba.ntmps24
    go_wp2_with (go_at_call 34; refine (best_buy b o none _ (by simpa [World.cell?_alloc_past, hb] using h) (by simpa [World.cell?_alloc_past, hb] using h1)).mono ?_; rintro e w1 ⟨rfl, n1, rfl⟩)
    refine bodyPost_ret (v := .agg #[.int .i64 0, .int .i64 0]) (by simp [results, Yba.results24, go_sem]) rfl ⟨rfl, ?_⟩
    repeat (first | refine below_put ?_ (Nat.le_refl _) | refine below_draws ?_ _ | refine below_new ?_ (Nat.le_refl _) | exact Below.refl _ _)
  · go_enter Yba.func24, Yba.ntmps24
    go_wp2_with (go_at_call 34; refine (best_sell b o none _ (by simpa [World.cell?_alloc_past, hb] using h) (by simpa [World.cell?_alloc_past, hb] using h0)).mono ?_; rintro e w1 ⟨rfl, n1, rfl⟩)
    refine bodyPost_ret (v := .agg #[.int .i64 0, .int .i64 0]) (by simp [results, Yba.results24, go_sem]) rfl ⟨rfl, ?_⟩
    repeat (first | refine below_put ?_ (Nat.le_refl _) | refine below_draws ?_ _ | refine below_new ?_ (Nat.le_refl _) | exact Below.refl _ _)

set_option maxHeartbeats 400000 in
theorem side_top_some (b o bl : Nat) (p q : Int) (w : World) (hb : b < w.heap.size) (hl : bl < w.heap.size) (s : Int) (hs : s = 1 ∨ s = 2) (h : w.cell? ⟨b, o, none⟩ = some (.int .u8 s)) (h0 : w.cell? ⟨b, o + 2, none⟩ = some (.pointer (some ⟨bl, 0, none⟩))) (h1 : w.cell? ⟨b, o + 2 + 1, none⟩ = some (.pointer (some ⟨bl, 0, none⟩)))
    (hp : w.cell? ⟨bl, 0, none⟩ = some (.int .i64 p)) (hq : w.cell? ⟨bl, 1, none⟩ = some (.int .i64 q)) :
    Calls Yba.prog 24 #[.pointer (some ⟨b, o, none⟩)] w fun e w' => e = .returned (.agg #[.int .i64 p, .int .i64 q]) ∧ Below w.heap.size w w' := by
  rcases hs with rfl | rfl
  · go_enter Yba.func24, Yba.ntmps24
    go_wp2_with (go_at_call 34; refine (best_buy b o _ _ (by simpa [World.cell?_alloc_past, hb] using h) (by simpa [World.cell?_alloc_past, hb] using h1)).mono ?_; rintro e w1 ⟨rfl, n1, rfl⟩)
    go_region
    all_goals go_wp2
    all_goals (refine bodyPost_ret (v := .agg #[.int .i64 p, .int .i64 q]) (by simp [results, Yba.results24, go_sem]) rfl ⟨rfl, ?_⟩)
    all_goals (repeat (first | refine below_put ?_ (Nat.le_refl _) | refine below_draws ?_ _ | refine below_new ?_ (Nat.le_refl _) | exact Below.refl _ _))
  · go_enter Yba.func24, Yba.ntmps24
    go_wp2_with (go_at_call 34; refine (best_sell b o _ _ (by simpa [World.cell?_alloc_past, hb] using h) (by simpa [World.cell?_alloc_past, hb] using h0)).mono ?_; rintro e w1 ⟨rfl, n1, rfl⟩)
    go_region
    all_goals go_wp2
    all_goals (refine bodyPost_ret (v := .agg #[.int .i64 p, .int .i64 q]) (by simp [results, Yba.results24, go_sem]) rfl ⟨rfl, ?_⟩)
    all_goals (repeat (first | refine below_put ?_ (Nat.le_refl _) | refine below_draws ?_ _ | refine below_new ?_ (Nat.le_refl _) | exact Below.refl _ _))

/-- What a side's top is, said of cells: either both ends are nil, or both lead to one level. -/
def Ends (w : World) (b o : Nat) (s p q : Int) : Prop :=
  w.cell? ⟨b, o, none⟩ = some (.int .u8 s) ∧ ((p = 0 ∧ q = 0 ∧ w.cell? ⟨b, o + 2, none⟩ = some (.pointer none) ∧ w.cell? ⟨b, o + 2 + 1, none⟩ = some (.pointer none)) ∨
    ∃ bl, bl < w.heap.size ∧ w.cell? ⟨b, o + 2, none⟩ = some (.pointer (some ⟨bl, 0, none⟩)) ∧ w.cell? ⟨b, o + 2 + 1, none⟩ = some (.pointer (some ⟨bl, 0, none⟩)) ∧ w.cell? ⟨bl, 0, none⟩ = some (.int .i64 p) ∧ w.cell? ⟨bl, 1, none⟩ = some (.int .i64 q))

theorem side_top (b o : Nat) (s p q : Int) (w : World) (hb : b < w.heap.size) (hs : s = 1 ∨ s = 2) (h : Ends w b o s p q) :
    Calls Yba.prog 24 #[.pointer (some ⟨b, o, none⟩)] w fun e w' => e = .returned (.agg #[.int .i64 p, .int .i64 q]) ∧ Below w.heap.size w w' := by
  obtain ⟨h, ⟨rfl, rfl, h0, h1⟩ | ⟨bl, hl, h0, h1, hp, hq⟩⟩ := h
  · exact side_top_nil b o w hb s hs h h0 h1
  · exact side_top_some b o bl p q w hb hl s hs h h0 h1 hp hq

theorem Ends.below {w w' : World} {b o : Nat} {s p q : Int} (h : Ends w b o s p q) (hB : Below w.heap.size w w') (hb : b < w.heap.size) : Ends w' b o s p q := by
  obtain ⟨h, h2⟩ := h
  refine ⟨((bcell hB).1 _ _ hb).trans h, ?_⟩
  rcases h2 with ⟨rfl, rfl, h0, h1⟩ | ⟨bl, hl, h0, h1, hp, hq⟩
  · exact .inl ⟨rfl, rfl, ((bcell hB).1 _ _ hb).trans h0, ((bcell hB).1 _ _ hb).trans h1⟩
  · exact .inr ⟨bl, Nat.lt_of_lt_of_le hl hB.size, ((bcell hB).1 _ _ hb).trans h0, ((bcell hB).1 _ _ hb).trans h1, ((bcell hB).1 _ _ hl).trans hp, ((bcell hB).1 _ _ hl).trans hq⟩

end Go.Proofs.Ybulkjrk
