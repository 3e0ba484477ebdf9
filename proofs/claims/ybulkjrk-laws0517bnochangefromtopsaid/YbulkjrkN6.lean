import Derived.Test.YbulkjrkN5
namespace Go.Proofs.Ybulkjrk
open Go.RowKit
set_option linter.unusedSimpArgs false
set_option linter.unusedVariables false

set_option maxRecDepth 100000 in
set_option maxHeartbeats 1000000 in
theorem copy_nil (w : World) :
    Calls Yba.prog 12 #[.slice none 0 0] w fun e w' => e = .returned (.slice none 0 0) ∧ Below w.heap.size w w' := by
  have heq : ∀ w, (binOp .eql 40 (.slice none 0 0) (.slice none 0 0)).run Yba.prog w = .ok (.bool true) w := fun w => by simpa using Go.Lib.run_eql_slice_nil (P := Yba.prog) w 40 59 none 0 0 0 0 Yba.underlying40
  go_enter Yba.func12, Yba.ntmps12
  go_wp2
  go_ret
  exact ⟨rfl, Below.refl _ _⟩

/-- A side's root, as zzs0517bside makes it. -/
def Root (w : World) (P : Option Addr) (p q : Int) : Prop :=
  (P = none ∧ p = 0 ∧ q = 0) ∨ ∃ bl, P = some ⟨bl, 0, none⟩ ∧ bl < w.heap.size ∧ w.cell? ⟨bl, 0, none⟩ = some (.int .i64 p) ∧ w.cell? ⟨bl, 1, none⟩ = some (.int .i64 q)
theorem Root.below {w w' : World} {P : Option Addr} {p q : Int} (h : Root w P p q) (hB : Below w.heap.size w w') : Root w' P p q := by
  rcases h with h | ⟨bl, rfl, hl, h0, h1⟩
  · exact .inl h
  · exact .inr ⟨bl, rfl, Nat.lt_of_lt_of_le hl hB.size, ((bcell hB).1 _ _ hl).trans h0, ((bcell hB).1 _ _ hl).trans h1⟩
theorem bside_any (sd p q : Int) (has : Bool) (w : World) :
    Calls Yba.prog 11 #[.int .u8 sd, .bool has, .int .i64 p, .int .i64 q] w fun e w' => ∃ (P : Option Addr) (p1 q1 : Int), Root w' P p1 q1 ∧
      e = .returned (.tuple #[.agg #[.int .u8 sd, .pointer P, .pointer P, .pointer P], .agg #[.int .i64 p1, .int .i64 q1]]) ∧ Below w.heap.size w w' := by
  cases has
  · refine (bside_no sd p q w).mono ?_
    rintro e w' ⟨rfl, hB⟩
    exact ⟨none, 0, 0, .inl ⟨rfl, rfl, rfl⟩, rfl, hB⟩
  · refine (bside_yes sd p q w).mono ?_
    rintro e w' ⟨bl, h1, h2, h3, h4, rfl, hB⟩
    exact ⟨some ⟨bl, 0, none⟩, p, q, .inr ⟨bl, rfl, h2, h3, h4⟩, rfl, hB⟩
theorem Ends.of_root {w : World} {b o : Nat} {s p q : Int} {P : Option Addr} (h : Root w P p q) (h0 : w.cell? ⟨b, o, none⟩ = some (.int .u8 s)) (h2 : w.cell? ⟨b, o + 2, none⟩ = some (.pointer P)) (h3 : w.cell? ⟨b, o + 2 + 1, none⟩ = some (.pointer P)) : Ends w b o s p q := by
  rcases h with ⟨rfl, rfl, rfl⟩ | ⟨bl, rfl, hl, c0, c1⟩
  · exact ⟨h0, .inl ⟨rfl, rfl, h2, h3⟩⟩
  · exact ⟨h0, .inr ⟨bl, hl, h2, h3, c0, c1⟩⟩

set_option maxRecDepth 100000 in
set_option maxHeartbeats 1000000 in
theorem law_great (sym : ByteArray) (a : Option Addr) (n c : Nat) (hn : 1024 < (n : Int)) (bH sH : Bool) (p q p' q' : Int) (w : World) :
    Calls Yba.prog 5 #[.string sym, .slice a n c, .bool bH, .bool sH, .int .i64 p, .int .i64 q, .int .i64 p', .int .i64 q'] w fun e w' => e = .returned (.bool true) ∧ Below w.heap.size w w' := by
  go_enter Yba.func5, Yba.ntmps5
  go_wp2
  go_ret
  exact ⟨rfl, Below.refl _ _⟩

set_option maxRecDepth 100000 in
set_option maxHeartbeats 1000000 in
theorem law_some (sym : ByteArray) (b off n c : Nat) (es : Nat → Ev) (hn : n ≤ 1024) (bH sH : Bool) (p q p' q' : Int) (w : World) (hb : b < w.heap.size) (he : ∀ i, i < n → IsEv w b (off + i * 9) (es i)) :
    Calls Yba.prog 5 #[.string sym, .slice (some ⟨b, off, none⟩) n c, .bool bH, .bool sH, .int .i64 p, .int .i64 q, .int .i64 p', .int .i64 q'] w fun e w' => e = .returned (.bool true) ∧ Below w.heap.size w w' := by
  have hnI : ¬ (1024 : Int) < (n : Int) := by omega
  go_enter Yba.func5, Yba.ntmps5
  go_wp2_with fail
  refine (bside_any 1 p q bH _).mono ?_
  rintro e w1 ⟨P1, p1, q1, R1, rfl, B1⟩
  go_wp2_with fail
  refine (bside_any 2 p' q' sH _).mono ?_
  rintro e w2 ⟨P2, p2, q2, R2, rfl, B2⟩
  have z2 : w1.heap.size + 1 + 1 ≤ w2.heap.size := by simpa using B2.size
  have z1 : w.heap.size ≤ w1.heap.size := B1.size
  have B12 : Below w1.heap.size w1 w2 := (((Below.refl _ _).alloc (Nat.le_refl _) _).alloc (by simp) _).trans (B2.mono (by simp; omega))
  have hs0 : w2.cell? ⟨w1.heap.size, 0, none⟩ = some (.int .u8 1) := by rw [(bcell B2).1 _ _ (by simp; omega), World.cell?_alloc_past _ _ _ (by simp)]; simp
  have hs1 : w2.cell? ⟨w1.heap.size, 1, none⟩ = some (.pointer P1) := by rw [(bcell B2).1 _ _ (by simp; omega), World.cell?_alloc_past _ _ _ (by simp)]; simp
  have hs2 : w2.cell? ⟨w1.heap.size, 2, none⟩ = some (.pointer P1) := by rw [(bcell B2).1 _ _ (by simp; omega), World.cell?_alloc_past _ _ _ (by simp)]; simp
  have hs3 : w2.cell? ⟨w1.heap.size, 3, none⟩ = some (.pointer P1) := by rw [(bcell B2).1 _ _ (by simp; omega), World.cell?_alloc_past _ _ _ (by simp)]; simp
  have hz3 : w1.heap.size < w2.heap.size := by omega
  replace R1 := R1.below B12
  replace B1 : Below w.heap.size w w2 := B1.trans (B12.mono z1)
  clear B2 B12
  go_wp2_with fail
  refine (copy_some b off n c es _ hn ?_ ?_).mono ?_
  · simp; omega
  · intro i hi
    have hB := (((B1.alloc (by omega) (.cells #[.int .u8 2, .pointer P2, .pointer P2, .pointer P2] 33)).alloc (by simp; omega) (.cells #[.int .i64 p2, .int .i64 q2] 42)).alloc (by simp; omega) (.cells #[.string sym, .int .u8 1, .pointer P1, .pointer P1, .pointer P1, .int .u8 2, .pointer P2, .pointer P2, .pointer P2, .int .u8 1, .pointer none, .pointer none, .pointer none, .int .u8 2, .pointer none, .pointer none, .pointer none] 49))
    exact fun k hk => ((bcell hB).1 _ _ hb).trans (he i hi k hk)
  rintro e w4 ⟨bn, n1, n2, rfl, B4, hev⟩
  have z4 : w2.heap.size + 1 + 1 < w4.heap.size := by have := B4.size; simp at this; omega
  have E1 : Ends w4 (w2.heap.size + 1 + 1) 1 1 p1 q1 := by
    refine Ends.below (Ends.of_root (P := P1) (R1.below ((((Below.refl _ w2).alloc (Nat.le_refl _) _).alloc (by simp) _).alloc (by simp; omega) _)) ?_ ?_ ?_) B4 (by simp) <;> simp [World.cell?_alloc_at]
  have E2 : Ends w4 (w2.heap.size + 1 + 1) 5 2 p2 q2 := by
    refine Ends.below (Ends.of_root (P := P2) (R2.below ((((Below.refl _ w2).alloc (Nat.le_refl _) _).alloc (by simp) _).alloc (by simp; omega) _)) ?_ ?_ ?_) B4 (by simp) <;> simp [World.cell?_alloc_at]
  have hB4 : Below w.heap.size w w4 := (B1.trans (((((Below.refl _ w2).alloc (Nat.le_refl _) _).alloc (by simp) _).alloc (by simp; omega) _).mono (by omega))).trans (B4.mono (by simp; omega))
  have n0 : w.heap.size ≤ bn := by simp at n1; omega
  clear B4 R1 R2 hs0 hs1 hs2 hs3 B1 n1
  go_wp2_with fail
  refine (book_top (w2.heap.size + 1 + 1) p1 q1 p2 q2 _ z4 E1 E2).mono ?_
  rintro e w5 ⟨rfl, B5⟩
  have z5 : w2.heap.size + 1 + 1 < w5.heap.size := Nat.lt_of_lt_of_le z4 B5.size
  have F1 := E1.below B5 z4
  have F2 := E2.below B5 z4
  clear E1 E2
  go_wp2_with fail
  refine (noChange (w2.heap.size + 1 + 1) p1 q1 p2 q2 _ (some ⟨bn, 0, none⟩) n n rfl _ z5 F1 F2).mono ?_
  rintro e w6 ⟨rfl, B6⟩
  have B46 : Below w4.heap.size w4 w6 := B5.trans (B6.mono B5.size)
  have hB6 : Below w.heap.size w w6 := hB4.trans (B46.mono hB4.size)
  have hout : ∀ i, i < n → IsEv w6 bn (i * 9) (es i) := fun i hi k hk => ((bcell B46).1 _ _ n2).trans (hev i hi k hk)
  have hin : ∀ i, i < n → IsEv w6 b (off + i * 9) (es i) := fun i hi k hk => ((bcell hB6).1 _ _ hb).trans (he i hi k hk)
  clear F1 F2 B5 B6 B46 hB4 hev he z5 z4 z2 z1 hz3 n0 n2
  go_wp2_with fail
  go_loopw [24] (fun k wr => ∃ j m : Nat, j ≤ n ∧ k = .int .i64 j ∧ wr = w6.drewN m) (fun k _ => n - (intOf k).toNat)
  case atStart => exact ⟨0, 0, by omega, rfl, rfl⟩
  case round =>
    obtain ⟨j, m, hj, rfl, rfl⟩ := hrel
    by_cases hlt : j < n
    · have hltI : (j : Int) < (n : Int) := by omega
      have o0 : w6.cell? ⟨bn, j * 9, none⟩ = some (.int .u8 (es j).kind) := hout j hlt 0 (by omega)
      have i0 : w6.cell? ⟨b, off + j * 9, none⟩ = some (.int .u8 (es j).kind) := hin j hlt 0 (by omega)
      have o1 : w6.cell? ⟨bn, j * 9 + 1, none⟩ = some (.int .u64 (es j).ou) := hout j hlt 1 (by omega)
      have i1 : w6.cell? ⟨b, off + j * 9 + 1, none⟩ = some (.int .u64 (es j).ou) := hin j hlt 1 (by omega)
      have o2 : w6.cell? ⟨bn, j * 9 + 2, none⟩ = some (.int .u64 (es j).oi) := hout j hlt 2 (by omega)
      have i2 : w6.cell? ⟨b, off + j * 9 + 2, none⟩ = some (.int .u64 (es j).oi) := hin j hlt 2 (by omega)
      have o3 : w6.cell? ⟨bn, j * 9 + 3, none⟩ = some (.string (es j).sym) := hout j hlt 3 (by omega)
      have i3 : w6.cell? ⟨b, off + j * 9 + 3, none⟩ = some (.string (es j).sym) := hin j hlt 3 (by omega)
      have o4 : w6.cell? ⟨bn, j * 9 + 4, none⟩ = some (.int .u8 (es j).side) := hout j hlt 4 (by omega)
      have i4 : w6.cell? ⟨b, off + j * 9 + 4, none⟩ = some (.int .u8 (es j).side) := hin j hlt 4 (by omega)
      have o5 : w6.cell? ⟨bn, j * 9 + 5, none⟩ = some (.int .i64 (es j).price) := hout j hlt 5 (by omega)
      have i5 : w6.cell? ⟨b, off + j * 9 + 5, none⟩ = some (.int .i64 (es j).price) := hin j hlt 5 (by omega)
      have o6 : w6.cell? ⟨bn, j * 9 + 6, none⟩ = some (.int .i64 (es j).qty) := hout j hlt 6 (by omega)
      have i6 : w6.cell? ⟨b, off + j * 9 + 6, none⟩ = some (.int .i64 (es j).qty) := hin j hlt 6 (by omega)
      have o7 : w6.cell? ⟨bn, j * 9 + 7, none⟩ = some (.int .u64 (es j).ru) := hout j hlt 7 (by omega)
      have i7 : w6.cell? ⟨b, off + j * 9 + 7, none⟩ = some (.int .u64 (es j).ru) := hin j hlt 7 (by omega)
      have o8 : w6.cell? ⟨bn, j * 9 + 8, none⟩ = some (.int .u64 (es j).ri) := hout j hlt 8 (by omega)
      have i8 : w6.cell? ⟨b, off + j * 9 + 8, none⟩ = some (.int .u64 (es j).ri) := hin j hlt 8 (by omega)
      clear hout hin
      go_wp2
      go_quiet (fail)
      go_wp2
      go_roundw
      case rel => exact ⟨j + 1, _, by omega, by go_num, rfl⟩
      case measure => simp [intOf]; omega
    · have hge : ¬ (j : Int) < (n : Int) := by omega
      go_wp2
      go_ret
      exact ⟨rfl, below_draws hB6 _⟩

set_option maxRecDepth 100000 in
set_option maxHeartbeats 1000000 in
theorem law_nil (sym : ByteArray) (bH sH : Bool) (p q p' q' : Int) (w : World) :
    Calls Yba.prog 5 #[.string sym, .slice none 0 0, .bool bH, .bool sH, .int .i64 p, .int .i64 q, .int .i64 p', .int .i64 q'] w fun e w' => e = .returned (.bool true) ∧ Below w.heap.size w w' := by
  go_enter Yba.func5, Yba.ntmps5
  go_wp2_with fail
  refine (bside_any 1 p q bH _).mono ?_
  rintro e w1 ⟨P1, p1, q1, R1, rfl, B1⟩
  go_wp2_with fail
  refine (bside_any 2 p' q' sH _).mono ?_
  rintro e w2 ⟨P2, p2, q2, R2, rfl, B2⟩
  have z2 : w1.heap.size + 1 + 1 ≤ w2.heap.size := by simpa using B2.size
  have z1 : w.heap.size ≤ w1.heap.size := B1.size
  have B12 : Below w1.heap.size w1 w2 := (((Below.refl _ _).alloc (Nat.le_refl _) _).alloc (by simp) _).trans (B2.mono (by simp; omega))
  have hs0 : w2.cell? ⟨w1.heap.size, 0, none⟩ = some (.int .u8 1) := by rw [(bcell B2).1 _ _ (by simp; omega), World.cell?_alloc_past _ _ _ (by simp)]; simp
  have hs1 : w2.cell? ⟨w1.heap.size, 1, none⟩ = some (.pointer P1) := by rw [(bcell B2).1 _ _ (by simp; omega), World.cell?_alloc_past _ _ _ (by simp)]; simp
  have hs2 : w2.cell? ⟨w1.heap.size, 2, none⟩ = some (.pointer P1) := by rw [(bcell B2).1 _ _ (by simp; omega), World.cell?_alloc_past _ _ _ (by simp)]; simp
  have hs3 : w2.cell? ⟨w1.heap.size, 3, none⟩ = some (.pointer P1) := by rw [(bcell B2).1 _ _ (by simp; omega), World.cell?_alloc_past _ _ _ (by simp)]; simp
  have hz3 : w1.heap.size < w2.heap.size := by omega
  replace R1 := R1.below B12
  replace B1 : Below w.heap.size w w2 := B1.trans (B12.mono z1)
  clear B2 B12
  go_wp2_with fail
  refine (copy_nil _).mono ?_
  rintro e w4 ⟨rfl, B4⟩
  have z4 : w2.heap.size + 1 + 1 < w4.heap.size := by have := B4.size; simp at this; omega
  have E1 : Ends w4 (w2.heap.size + 1 + 1) 1 1 p1 q1 := by
    refine Ends.below (Ends.of_root (P := P1) (R1.below ((((Below.refl _ w2).alloc (Nat.le_refl _) _).alloc (by simp) _).alloc (by simp; omega) _)) ?_ ?_ ?_) B4 (by simp) <;> simp [World.cell?_alloc_at]
  have E2 : Ends w4 (w2.heap.size + 1 + 1) 5 2 p2 q2 := by
    refine Ends.below (Ends.of_root (P := P2) (R2.below ((((Below.refl _ w2).alloc (Nat.le_refl _) _).alloc (by simp) _).alloc (by simp; omega) _)) ?_ ?_ ?_) B4 (by simp) <;> simp [World.cell?_alloc_at]
  have hB4 : Below w.heap.size w w4 := (B1.trans (((((Below.refl _ w2).alloc (Nat.le_refl _) _).alloc (by simp) _).alloc (by simp; omega) _).mono (by omega))).trans (B4.mono (by simp; omega))
  clear B4 R1 R2 hs0 hs1 hs2 hs3 B1
  go_wp2_with fail
  refine (book_top (w2.heap.size + 1 + 1) p1 q1 p2 q2 _ z4 E1 E2).mono ?_
  rintro e w5 ⟨rfl, B5⟩
  have z5 : w2.heap.size + 1 + 1 < w5.heap.size := Nat.lt_of_lt_of_le z4 B5.size
  have F1 := E1.below B5 z4
  have F2 := E2.below B5 z4
  clear E1 E2
  go_wp2_with fail
  refine (noChange (w2.heap.size + 1 + 1) p1 q1 p2 q2 _ none 0 0 rfl _ z5 F1 F2).mono ?_
  rintro e w6 ⟨rfl, B6⟩
  have B46 : Below w4.heap.size w4 w6 := B5.trans (B6.mono B5.size)
  have hB6 : Below w.heap.size w w6 := hB4.trans (B46.mono hB4.size)
  clear F1 F2 B5 B6 B46 hB4 z5 z4 z2 z1 hz3
  go_wp2_with fail
  refine wp_loop_rounds 1 ?_
  rw [rounds_succ]
  go_wp2
  go_ret
  exact ⟨rfl, hB6⟩

set_option maxRecDepth 100000 in
set_option maxHeartbeats 1000000 in
theorem copy_zero (a : Addr) (c : Nat) (w : World) :
    Calls Yba.prog 12 #[.slice (some a) 0 c] w fun e w' => ∃ bn, e = .returned (.slice (some ⟨bn, 0, none⟩) 0 0) ∧ Below w.heap.size w w' := by
  obtain ⟨w1, hr, hB1, hz1, hc1, hf1⟩ := make_events 0 (by omega) w
  have HR : Hid (∀ (ρ : Operand → Value) (o : Oper) (x y : Operand), ρ x = .int .i64 (0 : Nat) → ρ y = .int .i64 (0 : Nat) → (execOp ρ { o with op := .makeSlice 40 x y }).run Yba.prog w = .ok (.value (.slice (some ⟨w.heap.size, 0, none⟩) 0 0)) w1) := hr
  clear hr hc1 hf1
  have heq : ∀ w, (binOp .eql 40 (.slice (some a) 0 c) (.slice none 0 0)).run Yba.prog w = .ok (.bool false) w := fun w => by simpa using Go.Lib.run_eql_slice_nil (P := Yba.prog) w 40 59 (some a) 0 c 0 0 Yba.underlying40
  go_enter Yba.func12, Yba.ntmps12
  go_wp2_with (at_make; refine wpList_events HR rfl _ _ rfl rfl rfl ?_)
  refine wp_loop_rounds 1 ?_
  rw [rounds_succ]
  go_wp2
  go_ret
  exact ⟨_, rfl, hB1⟩

set_option maxRecDepth 100000 in
set_option maxHeartbeats 1000000 in
theorem law_zero (sym : ByteArray) (a : Addr) (c : Nat) (bH sH : Bool) (p q p' q' : Int) (w : World) :
    Calls Yba.prog 5 #[.string sym, .slice (some a) 0 c, .bool bH, .bool sH, .int .i64 p, .int .i64 q, .int .i64 p', .int .i64 q'] w fun e w' => e = .returned (.bool true) ∧ Below w.heap.size w w' := by
  go_enter Yba.func5, Yba.ntmps5
  go_wp2_with fail
  refine (bside_any 1 p q bH _).mono ?_
  rintro e w1 ⟨P1, p1, q1, R1, rfl, B1⟩
  go_wp2_with fail
  refine (bside_any 2 p' q' sH _).mono ?_
  rintro e w2 ⟨P2, p2, q2, R2, rfl, B2⟩
  have z2 : w1.heap.size + 1 + 1 ≤ w2.heap.size := by simpa using B2.size
  have z1 : w.heap.size ≤ w1.heap.size := B1.size
  have B12 : Below w1.heap.size w1 w2 := (((Below.refl _ _).alloc (Nat.le_refl _) _).alloc (by simp) _).trans (B2.mono (by simp; omega))
  have hs0 : w2.cell? ⟨w1.heap.size, 0, none⟩ = some (.int .u8 1) := by rw [(bcell B2).1 _ _ (by simp; omega), World.cell?_alloc_past _ _ _ (by simp)]; simp
  have hs1 : w2.cell? ⟨w1.heap.size, 1, none⟩ = some (.pointer P1) := by rw [(bcell B2).1 _ _ (by simp; omega), World.cell?_alloc_past _ _ _ (by simp)]; simp
  have hs2 : w2.cell? ⟨w1.heap.size, 2, none⟩ = some (.pointer P1) := by rw [(bcell B2).1 _ _ (by simp; omega), World.cell?_alloc_past _ _ _ (by simp)]; simp
  have hs3 : w2.cell? ⟨w1.heap.size, 3, none⟩ = some (.pointer P1) := by rw [(bcell B2).1 _ _ (by simp; omega), World.cell?_alloc_past _ _ _ (by simp)]; simp
  have hz3 : w1.heap.size < w2.heap.size := by omega
  replace R1 := R1.below B12
  replace B1 : Below w.heap.size w w2 := B1.trans (B12.mono z1)
  clear B2 B12
  go_wp2_with fail
  refine (copy_zero _ _ _).mono ?_
  rintro e w4 ⟨bn, rfl, B4⟩
  have z4 : w2.heap.size + 1 + 1 < w4.heap.size := by have := B4.size; simp at this; omega
  have E1 : Ends w4 (w2.heap.size + 1 + 1) 1 1 p1 q1 := by
    refine Ends.below (Ends.of_root (P := P1) (R1.below ((((Below.refl _ w2).alloc (Nat.le_refl _) _).alloc (by simp) _).alloc (by simp; omega) _)) ?_ ?_ ?_) B4 (by simp) <;> simp [World.cell?_alloc_at]
  have E2 : Ends w4 (w2.heap.size + 1 + 1) 5 2 p2 q2 := by
    refine Ends.below (Ends.of_root (P := P2) (R2.below ((((Below.refl _ w2).alloc (Nat.le_refl _) _).alloc (by simp) _).alloc (by simp; omega) _)) ?_ ?_ ?_) B4 (by simp) <;> simp [World.cell?_alloc_at]
  have hB4 : Below w.heap.size w w4 := (B1.trans (((((Below.refl _ w2).alloc (Nat.le_refl _) _).alloc (by simp) _).alloc (by simp; omega) _).mono (by omega))).trans (B4.mono (by simp; omega))
  clear B4 R1 R2 hs0 hs1 hs2 hs3 B1
  go_wp2_with fail
  refine (book_top (w2.heap.size + 1 + 1) p1 q1 p2 q2 _ z4 E1 E2).mono ?_
  rintro e w5 ⟨rfl, B5⟩
  have z5 : w2.heap.size + 1 + 1 < w5.heap.size := Nat.lt_of_lt_of_le z4 B5.size
  have F1 := E1.below B5 z4
  have F2 := E2.below B5 z4
  clear E1 E2
  go_wp2_with fail
  refine (noChange (w2.heap.size + 1 + 1) p1 q1 p2 q2 _ (some ⟨bn, 0, none⟩) 0 0 rfl _ z5 F1 F2).mono ?_
  rintro e w6 ⟨rfl, B6⟩
  have B46 : Below w4.heap.size w4 w6 := B5.trans (B6.mono B5.size)
  have hB6 : Below w.heap.size w w6 := hB4.trans (B46.mono hB4.size)
  clear F1 F2 B5 B6 B46 hB4 z5 z4 z2 z1 hz3
  go_wp2_with fail
  refine wp_loop_rounds 1 ?_
  rw [rounds_succ]
  go_wp2
  go_ret
  exact ⟨rfl, hB6⟩

end Go.Proofs.Ybulkjrk
