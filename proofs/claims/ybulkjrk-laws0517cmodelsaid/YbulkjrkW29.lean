/-
  OWN WORK: LawS0517CAgain, the walk.
-/
import Derived.Test.YbulkjrkW28
import Derived.Test.YbulkjrkW25
import Derived.Test.YbulkjrkE1
namespace Go.Proofs.Ybulkjrk
open Go.RowKit
set_option linter.unusedSimpArgs false
set_option linter.unusedVariables false
set_option linter.unusedSectionVars false
set_option maxRecDepth 100000
section
variable [Base]
theorem cb_es {s : Nat → Stp} {eb bb mb n : Nat} {W0 W : World} {ob : Nat → Nat} {g : Gp} {q : Nat → List Nat} {tot : Nat → Int} {lev M : Nat → Option Nat} (h : CB s eb bb mb n W0 ob g q tot lev M W) : ES s n eb bb mb W0 [] [] [] ob g q tot lev M n n n W ∧ Qrow ob g (g.ec 4) [] W := by
  refine ⟨⟨h.ph, h.lg, h.map, by simp, by simp, by simp, by simp, by simp, fun i => ?_, by simp, fun i p => ?_, fun i p => ?_, fun i p => ?_, fun i p => ?_, fun i hi _ j hj => h.oc i hi j hj, by simp, h.ec1, h.ec2, by rw [h.pn]; simp, by simp, h.below, h.mbB⟩, ?_⟩
  · rw [h.mM i]; simp
  · simp; exact h.on0 i p
  · simp; exact h.on1 i p
  · rw [h.on2]; simp
  · rw [h.on3]; simp
  · rw [h.ec4]
    exact ⟨World.ownsRow_nil _ _ _ _, fun b hb => by cases hb⟩
theorem plain_qty {en sl : Nat → Bool} {st li qy : Nat → Int} (i : Nat) : 0 < (plainS en sl st li qy i).qty ∧ (plainS en sl st li qy i).qty ≤ 1000 := by
  simp only [plainS]
  omega
end
/-- The law's input: a slice of stops. -/
def IsStops (w : World) (v : Value) : Prop :=
  ∃ (a : Option Addr) (n cap : Nat), v = .slice a n cap ∧ ∃ (bs os : Nat) (en sl : Nat → Bool) (st li qy : Nat → Int), (0 < n → a = some ⟨bs, os, none⟩) ∧ In5 w bs os n en sl st li qy
set_option maxHeartbeats 4000000 in
theorem again_any {W : World} {a : Option Addr} {n cap bs os : Nat} {en sl : Nat → Bool} {st li qy : Nat → Int} (ha : 0 < n → a = some ⟨bs, os, none⟩) (hI : In5 W bs os n en sl st li qy) (hn : n ≤ 1024) (x : Int) (hx : 0 ≤ x ∧ x ≤ 255) :
    Calls Yba.prog 7 #[.slice a n cap, .int .u8 x] W fun e w' => e = .returned (.bool true) ∧ Below W.heap.size W w' := by
  letI : Base := ⟨⟨W.heap.size⟩⟩
  have hnI : ¬ (1024 : Int) < (n : Int) := by omega
  have hcb := cbuild_any (W := W) (cap := cap) rfl hI hn ha
  go_enter Yba.func7, Yba.ntmps7
  go_wp2_with (go_at_call 15; refine hcb.mono ?_; rintro e w1 ⟨eb, bb, mb, ob, g, q, tot, lev, M, rfl, C⟩)
  obtain ⟨E1, Q1⟩ := cb_es C
  have hact := act_any E1 hn (fun i _ => plain_qty i) (x % 22) Q1 (.inl rfl) (World.ownsRow_nil w1 Base.B 59 9) (by omega)
  refine hact.mono ?_
  clear hact hcb E1 Q1 C
  rintro e w2 ⟨ev1, T, rfl, hup, hT, ⟨g2, q2, tot2, lev2, M2, cnt2, c2, cm2, E2, Q2⟩, hev2⟩
  dsimp only
  have e1 : w2.cell? ⟨eb, 1, none⟩ = some (.map (some mb)) := by rw [E2.ph.en.cell 1 (by omega), E2.ec1]
  have hlen2 := E2.map.len 3
  have hid := cid_any (-1) (by omega) (by omega) w2
  have hmx : IntKind.u64.wrap (-1) = 18446744073709551615 := by decide
  rw [hmx] at hid
  have HE2 := hide (And.intro E2 (And.intro Q2 hev2))
  clear E2 Q2 hev2
  go_wp2_with (go_at_call 17; refine hid.mono ?_; rintro e w3 ⟨rfl, hB3⟩)
  obtain ⟨w4, hw4⟩ : ∃ w4, w4 = w3.alloc (.cells #[Value.int .u8 1, .int .u64 7, .int .u64 18446744073709551615, .string ⟨#[]⟩, .int .u8 0, .int .i64 0, .int .i64 0, .int .u64 0, .int .u64 0] 59) := ⟨_, rfl⟩
  have hB4 : Below w2.heap.size w2 w4 := by rw [hw4]; exact hB3.alloc hB3.size _
  obtain ⟨E2, Q2, hev2⟩ := HE2.out
  have hbs : Base.B ≤ w3.heap.size := Nat.le_trans E2.ph.en.base hB3.size
  have hev4 : w4.ownsRow Base.B 59 9 (.slice (some ⟨w3.heap.size, 0, none⟩) 1 1) 1 #[Value.int .u8 1, .int .u64 7, .int .u64 18446744073709551615, .string ⟨#[]⟩, .int .u8 0, .int .i64 0, .int .i64 0, .int .u64 0, .int .u64 0].toList := by rw [hw4]; exact World.ownsRow_lit w3 #[Value.int .u8 1, .int .u64 7, .int .u64 18446744073709551615, .string ⟨#[]⟩, .int .u8 0, .int .i64 0, .int .i64 0, .int .u64 0, .int .u64 0] 1 hbs (by unfold maxLen; omega) rfl
  have hact := act_any (E2.under hB4) hn (fun i _ => plain_qty i) (x % 22) (Q2.keep (X := fun _ => False) (Fr.below hB4) (fun _ _ e => e)) (.inr (fun i hi hiT => by
    cases ht : trg (plainS en sl st li qy) (x % 22) i with
    | false => rfl
    | true => exact absurd (by simpa using (hT i).2 ⟨hi, by simp, ht⟩) hiT)) hev4 (by omega)
  rw [← hw4]
  refine hact.mono ?_
  clear hact hev4 hlen2 e1 hid
  rintro e w5 ⟨ev2, T2, rfl, hup2, hT2, ⟨g5, q5, tot5, lev5, M5, cnt5, c5, cm5, E5, Q5⟩, hev5⟩
  dsimp only
  obtain rfl : T2 = [] := List.eq_nil_iff_forall_not_mem.2 (fun i hi => by
    obtain ⟨a1, a2, a3⟩ := (hT2 i).1 hi
    exact a2 (by simpa using (hT i).2 ⟨a1, by simp, a3⟩))
  simp only [List.foldl_nil, List.length_nil, Nat.add_zero, evs, List.flatMap_nil, List.append_nil] at hev5 E5
  obtain ⟨gb, capb, rfl, hgb, zg⟩ := hev5.form (by omega)
  have z0 : w5.cell? ⟨gb, 0, none⟩ = some (.int .u8 1) := hev5.cellAt 0 (by omega)
  have z1 : w5.cell? ⟨gb, 1, none⟩ = some (.int .u64 7) := hev5.cellAt 1 (by omega)
  have z2 : w5.cell? ⟨gb, 2, none⟩ = some (.int .u64 18446744073709551615) := hev5.cellAt 2 (by omega)
  have z3 : w5.cell? ⟨gb, 3, none⟩ = some (.string ⟨#[]⟩) := hev5.cellAt 3 (by omega)
  have z4 : w5.cell? ⟨gb, 4, none⟩ = some (.int .u8 0) := hev5.cellAt 4 (by omega)
  have z5 : w5.cell? ⟨gb, 5, none⟩ = some (.int .i64 0) := hev5.cellAt 5 (by omega)
  have z6 : w5.cell? ⟨gb, 6, none⟩ = some (.int .i64 0) := hev5.cellAt 6 (by omega)
  have z7 : w5.cell? ⟨gb, 7, none⟩ = some (.int .u64 0) := hev5.cellAt 7 (by omega)
  have z8 : w5.cell? ⟨gb, 8, none⟩ = some (.int .u64 0) := hev5.cellAt 8 (by omega)
  have hcc : cnt5 = cnt2 := by
    have h1 := E5.cnt
    have h2 := E2.cnt
    omega
  subst hcc
  have hbel : Below W.heap.size W w5 := E5.below
  have e5 : w5.cell? ⟨eb, 1, none⟩ = some (.map (some mb)) := by rw [E5.ph.en.cell 1 (by omega), E5.ec1]
  have zE := E5.ph.en.lt
  have hid := fun w => cid_any (-1) (by omega) (by omega) w
  simp only [hmx] at hid
  have hmap := E5.map
  have HM := hide (And.intro hmap hbel)
  have hgu := fun x y xs ys w => evguard x y xs ys w
  clear E2 Q2 hev2 E5 Q5 hev5 hbel hmap HE2 hT hT2 hup hup2 hw4 hB4 hB3
  go_wp2
  go_region_held3 (fun w' => w'.cell? ⟨gb, 0, none⟩ = some (.int .u8 1) ∧ w'.cell? ⟨gb, 1, none⟩ = some (.int .u64 7) ∧ w'.cell? ⟨gb, 2, none⟩ = some (.int .u64 18446744073709551615) ∧ w'.cell? ⟨gb, 3, none⟩ = some (.string ⟨#[]⟩) ∧ w'.cell? ⟨gb, 4, none⟩ = some (.int .u8 0) ∧ w'.cell? ⟨gb, 5, none⟩ = some (.int .i64 0) ∧ w'.cell? ⟨gb, 6, none⟩ = some (.int .i64 0) ∧ w'.cell? ⟨gb, 7, none⟩ = some (.int .u64 0) ∧ w'.cell? ⟨gb, 8, none⟩ = some (.int .u64 0)) (first | exact ⟨z0, z1, z2, z3, z4, z5, z6, z7, z8⟩ | exact ⟨y0, y1, y2, y3, y4, y5, y6, y7, y8⟩) (first | (go_at_call 17; refine (hid _).mono ?_; rintro e w6 ⟨rfl, hB6⟩; have y0 := (hB6.cell (p := ⟨gb, 0, none⟩) zg).trans z0; have y1 := (hB6.cell (p := ⟨gb, 1, none⟩) zg).trans z1; have y2 := (hB6.cell (p := ⟨gb, 2, none⟩) zg).trans z2; have y3 := (hB6.cell (p := ⟨gb, 3, none⟩) zg).trans z3; have y4 := (hB6.cell (p := ⟨gb, 4, none⟩) zg).trans z4; have y5 := (hB6.cell (p := ⟨gb, 5, none⟩) zg).trans z5; have y6 := (hB6.cell (p := ⟨gb, 6, none⟩) zg).trans z6; have y7 := (hB6.cell (p := ⟨gb, 7, none⟩) zg).trans z7; have y8 := (hB6.cell (p := ⟨gb, 8, none⟩) zg).trans z8))
  have e6 : w6.cell? ⟨eb, 1, none⟩ = some (.map (some mb)) := (hB6.cell (p := ⟨eb, 1, none⟩) zE).trans e5
  have hmap6 := (HM.out.1.kept (W' := w5.drew) rfl)
  have hlen6 := (hmap6.kept (hB6.block mb hmap6.lt)).len 3
  have hend : Below W.heap.size W w6 := HM.out.2.drew.trans (hB6.mono HM.out.2.size)
  have HD := hide hend
  clear hmap6 hend HM
  go_wp2
  go_ret
  exact ⟨rfl, HD.out⟩
theorem again_great {W : World} {a : Option Addr} {n cap : Nat} (hn : 1024 < n) (x : Int) :
    Calls Yba.prog 7 #[.slice a n cap, .int .u8 x] W fun e w' => e = .returned (.bool true) ∧ Below W.heap.size W w' := by
  have hnI : (1024 : Int) < (n : Int) := by omega
  go_enter Yba.func7, Yba.ntmps7
  go_wp2
  go_ret
  exact ⟨rfl, Below.refl _ _⟩
theorem again_law {W : World} {v : Value} (h : IsStops W v) (x : Int) (hx : 0 ≤ x ∧ x ≤ 255) : Calls Yba.prog 7 #[v, .int .u8 x] W fun e w' => e = .returned (.bool true) ∧ Below W.heap.size W w' := by
  obtain ⟨a, n, cap, rfl, bs, os, en, sl, st, li, qy, ha, hI⟩ := h
  by_cases hn : n ≤ 1024
  · exact again_any ha hI hn x hx
  · exact again_great (by omega) x
end Go.Proofs.Ybulkjrk
