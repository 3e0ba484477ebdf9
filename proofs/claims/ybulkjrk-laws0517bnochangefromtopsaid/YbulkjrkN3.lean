import Derived.Test.YbulkjrkN2
namespace Go.Proofs.Ybulkjrk
open Go.RowKit
set_option linter.unusedSimpArgs false
set_option linter.unusedVariables false

set_option maxHeartbeats 400000 in
theorem book_top (b : Nat) (p q p' q' : Int) (w : World) (hb : b < w.heap.size) (h1 : Ends w b 1 1 p q) (h2 : Ends w b 5 2 p' q') :
    Calls Yba.prog 14 #[.pointer (some ⟨b, 0, none⟩)] w fun e w' => e = .returned (.agg #[.int .i64 p, .int .i64 q, .int .i64 p', .int .i64 q']) ∧ Below w.heap.size w w' := by
  have H1 : Ends ((w.alloc (.cells #[.int .i64 0, .int .i64 0, .int .i64 0, .int .i64 0] 52)).drew) b 1 1 p q := h1.below (((Below.refl _ _).alloc (Nat.le_refl _) _).drew) hb
  have H2 : ∀ w1, Below (w.heap.size + 1) ((w.alloc (.cells #[.int .i64 0, .int .i64 0, .int .i64 0, .int .i64 0] 52)).drew) w1 → Ends w1 b 5 2 p' q' := fun w1 hw => h2.below ((((Below.refl _ _).alloc (Nat.le_refl _) _).drew).trans (hw.mono (by omega))) hb
  go_enter Yba.func14, Yba.ntmps14
  go_wp2
  go_region_with (first
    | (go_at_call_of 24 (Value.pointer (some ⟨b, 1, none⟩)); refine (side_top b 1 1 p q _ (by simp; omega) (.inl rfl) H1).mono ?_; rintro e w1 ⟨rfl, hb1⟩; have HH := H2 w1 (by simpa using hb1); obtain ⟨hc1, hf1⟩ := bcell hb1; have hz1 := hb1.size; simp only [World.size_drew, World.size_alloc, World.cell?_drew, World.frozen?_drew] at hc1 hf1 hz1; have hz3 : w.heap.size < w1.heap.size := hz1; have hz4 : w.heap.size < w.heap.size + 1 := Nat.lt_succ_self _)
    | (go_at_call_of 24 (Value.pointer (some ⟨b, 5, none⟩)); refine (side_top b 5 2 p' q' _ (by omega) (.inr rfl) (by assumption)).mono ?_; rintro e w2 ⟨rfl, hb2⟩; obtain ⟨hc2, hf2⟩ := bcell hb2; have hz2 := hb2.size))
  have g0 : w2.cell? ⟨w.heap.size, 0, none⟩ = some (.int .i64 0) := by rw [(bcell hb2).1 _ _ hz3, (bcell hb1).1 _ _ (by simp)]; simp
  have g1 : w2.cell? ⟨w.heap.size, 1, none⟩ = some (.int .i64 0) := by rw [(bcell hb2).1 _ _ hz3, (bcell hb1).1 _ _ (by simp)]; simp
  have g2 : w2.cell? ⟨w.heap.size, 2, none⟩ = some (.int .i64 0) := by rw [(bcell hb2).1 _ _ hz3, (bcell hb1).1 _ _ (by simp)]; simp
  have g3 : w2.cell? ⟨w.heap.size, 3, none⟩ = some (.int .i64 0) := by rw [(bcell hb2).1 _ _ hz3, (bcell hb1).1 _ _ (by simp)]; simp
  go_wp2
  refine bodyPost_ret (v := .agg #[.int .i64 p, .int .i64 q, .int .i64 p', .int .i64 q']) (by simp (maxDischargeDepth := 8) [results, Yba.results14, go_sem, World.cell?_setCell_other, World.cell?_setCell_same', g0, g1, g2, g3]) rfl ⟨rfl, ?_⟩
  repeat (refine below_put ?_ (Nat.le_refl _))
  exact (((Below.refl _ _).alloc (Nat.le_refl _) _).drew.trans (hb1.mono (by simp))).trans (hb2.mono (by omega))

end Go.Proofs.Ybulkjrk
