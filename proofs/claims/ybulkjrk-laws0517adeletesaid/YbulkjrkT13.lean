/-
  OWN WORK: the walk of the law's own validity check.
-/
import Derived.Test.YbulkjrkT12
namespace Go.Proofs.Ybulkjrk
open Go.RowKit
set_option linter.unusedSimpArgs false
set_option linter.unusedVariables false

theorem eql_ptr (o : Option Nat) (w : World) : (binOp .eql 29 (ptr o) (ptr o)).run Yba.prog w = .ok (.bool true) w := by
  cases o with
  | none => show (binOp .eql 29 (.pointer none) (.pointer none)).run Yba.prog w = _; rw [run_eql_pointer_nil w 29 none (by kernel_rfl)]; rfl
  | some p => exact eql_same w ⟨p, 0, none⟩
theorem neq_ptr (o : Option Nat) (w : World) : (binOp .neq 29 (ptr o) (ptr o)).run Yba.prog w = .ok (.bool false) w := by
  cases o with
  | none => show (binOp .neq 29 (.pointer none) (.pointer none)).run Yba.prog w = _; rw [run_neq_pointer_nil w 29 none (by kernel_rfl)]; rfl
  | some p => exact neq_same w ⟨p, 0, none⟩

def pr (σ : Sd) (ll : List Nat) (j : Nat) : Int := σ.price (ll.getD j 0)
theorem pr_at {σ : Sd} {A : List Nat} {x : Nat} {B : List Nat} : pr σ (A ++ x :: B) A.length = σ.price x := by simp [pr]
theorem pr_lt {σ : Sd} {ll : List Nat} (h : ll.Pairwise fun x y => σ.price x < σ.price y) {i : Nat} (hi : i + 1 < ll.length) : pr σ ll i < pr σ ll (i + 1) := by
  have := List.pairwise_iff_getElem.1 h i (i + 1) (by omega) hi (by omega)
  simpa [pr, List.getD_eq_getElem?_getD, List.getElem?_eq_getElem (show i < ll.length by omega), List.getElem?_eq_getElem hi] using this

section
variable {S : Nat} {ex : Nat → Nat → Value} {s0 : Value} {ll : List Nat}
set_option maxRecDepth 100000 in
set_option maxHeartbeats 4000000 in
theorem avalid_any {W : World} {σ : Sd} {pk : Option Addr} {ck bk : Nat} {key : Nat → Int} (h : Rep S (· ∈ ll) ex s0 W σ) (hG : Good σ ll) (hlen : ll.length ≤ 1100) (hpk : 0 < ll.length → pk = some ⟨bk, 0, none⟩ ∧ bk < W.heap.size)
    (hk : ∀ j, j < ll.length → W.cell? ⟨bk, j, none⟩ = some (.int .i64 (key j))) (hin : ∀ j, j < ll.length → ∃ t, t < ll.length ∧ pr σ ll t = key j) :
    Calls Yba.prog 9 #[.pointer (some ⟨S, 0, none⟩), .slice pk ll.length ck] W fun e w' => e = .returned (.bool true) ∧ Below W.heap.size W w' := by
  obtain ⟨hh, hT⟩ := hG.tree
  have hlow := hT.low (by omega)
  have hB0 : Below W.heap.size W (W.alloc (.cells #[.slice none 0 0] 22)) := (Below.refl _ _).alloc (Nat.le_refl _) _
  have h0 := h.over hB0
  have cr := h0.side 1 (by omega)
  simp only [sv] at cr
  have ho : OutIs W.heap.size (W.alloc (.cells #[.slice none 0 0] 22)) (.slice none 0 0) 0 [] := ⟨by simp [World.cell?_alloc_at], World.frozen?_alloc_at _ _ _ _ rfl, by simp, World.ownsRow_nil _ _ _ _⟩
  have hchk := acheck_any (D := (· ∈ ll)) (fun b hb => h.lt b hb) h.slt hT _ 0 0 [] _ h0 (fun y hy => hy) ho (by simpa using (by omega : hh ≤ 60)) (by omega)
  have hchk' : Calls Yba.prog 21 #[ptr σ.root, .pointer none, .pointer (some ⟨W.heap.size, 0, none⟩), .int .i64 0] (W.alloc (.cells #[.slice none 0 0] 22)) _ := hchk
  clear hchk
  have hlI : ((ll.length : Nat) : Int) ≤ 1100 := by omega
  go_enter Yba.func9, Yba.ntmps9
  go_wp2_with (go_at_call 21; refine hchk'.mono ?_; rintro e W1 ⟨rfl, v1, ho1, hB1⟩; obtain ⟨pv, cap, rfl⟩ : ∃ pv cap, v1 = .slice pv ll.length cap := (by
      rcases ho1.own.2 with ⟨hv, hz⟩ | ⟨g, cap, cur, hv, _⟩
      · exact ⟨none, 0, by rw [hv, show ll.length = 0 by omega]⟩
      · exact ⟨_, _, by rw [hv, Nat.zero_add]⟩); have cO := ho1.cell)
  have hBW : Below W.heap.size W W1 := hB0.trans hB1
  obtain ⟨g, hpg, hino⟩ : ∃ g, (0 < ll.length → pv = some ⟨g, 0, none⟩) ∧ ∀ j, j < ll.length → W1.cell? ⟨g, j, none⟩ = some (.int .i64 (pr σ ll j)) := by
    rcases Nat.eq_zero_or_pos ll.length with hz | hz
    · exact ⟨0, fun h => by omega, fun j hj => by omega⟩
    · rcases ho1.own.2 with ⟨_, hz'⟩ | ⟨g, cap', cur, hv, _⟩
      · omega
      · simp only [Value.slice.injEq] at hv
        obtain ⟨rfl, _, rfl⟩ := hv
        refine ⟨g, fun _ => rfl, fun j hj => ?_⟩
        have hown := ho1.own
        simp only [Nat.zero_add] at hown
        rw [hown.cellAt j (by omega)]
        simp [pr, List.getD_eq_getElem?_getD, List.getElem?_eq_getElem hj]
  have hk1 : ∀ j, j < ll.length → W1.cell? ⟨bk, j, none⟩ = some (.int .i64 (key j)) := fun j hj => (hBW.cell (p := ⟨bk, j, none⟩) (hpk (by omega)).2).trans (hk j hj)
  have hR1 := h.overN hBW (fun b hb => h.lt b hb) h.slt
  clear hchk' hk ho ho1 h0 cr
  go_loopw [8] (fun i ws => ∃ t : Nat, (t ≤ ll.length ∨ t = 0) ∧ i = .int .i64 ((t : Int) + 1) ∧ ∃ n, ws = W1.drewN n) (fun i _ => ll.length + 1 - (intOf i).toNat)
  case atStart => exact ⟨0, .inr rfl, rfl, 0, rfl⟩
  case round =>
    obtain ⟨t, ht, rfl, nn, rfl⟩ := hrel
    by_cases htl : t + 1 < ll.length
    · have htI : (t : Int) + 1 < (ll.length : Int) := by omega
      have hpe := hpg (by omega)
      subst hpe
      have c1 := hino t (by omega)
      have c2 := hino (t + 1) htl
      have hlt := pr_lt hG.sort htl
      have hnl : ¬ pr σ ll (t + 1) ≤ pr σ ll t := by omega
      have htn : (t : Int) < (ll.length : Int) := by omega
      have HX := hide (And.intro hG (And.intro hT (And.intro hino hin)))
      clear hG hT hino hin
      go_wp2
      go_quiet (fail)
      go_wp2
      go_roundw
      case rel => exact ⟨t + 1, .inl (by omega), by go_num, _, rfl⟩
      case measure => simp [intOf]; omega
    · have htI : ¬ (t : Int) + 1 < (ll.length : Int) := by omega
      have cO2 : (W1.drewN nn).cell? ⟨W.heap.size, 0, none⟩ = some (.slice pv ll.length cap) := cO
      have hino2 : ∀ j, j < ll.length → (W1.drewN nn).cell? ⟨g, j, none⟩ = some (.int .i64 (pr σ ll j)) := hino
      have hk2 : ∀ j, j < ll.length → (W1.drewN nn).cell? ⟨bk, j, none⟩ = some (.int .i64 (key j)) := hk1
      have hR2 := hR1.drewN nn
      have hB2 : Below W.heap.size W (W1.drewN nn) := ⟨hBW.os, hBW.tape, hBW.output, hBW.size, hBW.block⟩
      clear cO hino hk1 hR1 hBW hB1 hB0
      have HG := hide (And.intro hG hT)
      clear hG hT
      generalize World.drewN W1 nn = W2 at *
      go_wp2
      go_loopw [50] (fun i ws => ∃ t : Nat, t ≤ ll.length ∧ i = .int .i64 t ∧ ws = W2) (fun i _ => ll.length - (intOf i).toNat)
      case atStart => exact ⟨0, by omega, rfl, rfl⟩
      case round =>
        obtain ⟨u, hu, rfl, rfl⟩ := hrel
        by_cases hul : u < ll.length
        · have huI : (u : Int) < (ll.length : Int) := by omega
          have hpe := hpg (by omega)
          have hpe2 := (hpk (by omega)).1
          subst hpe hpe2
          have c1 := hk2 u hul
          obtain ⟨t0, ht0, hkt⟩ := hin u hul
          have HI := hide hin
          clear hin
          go_wp2
          go_loopw [56, 11] (fun i fd ws => ∃ s : Nat, s ≤ t0 ∧ i = .int .i64 s ∧ fd = .bool false ∧ ws = wr) (fun i _ _ => ll.length - (intOf i).toNat)
          case atStart => exact ⟨0, by omega, rfl, rfl, rfl⟩
          case round =>
            obtain ⟨s, hs, rfl, rfl, rfl⟩ := hrel
            have hsI : (s : Int) < (ll.length : Int) := by omega
            have c2 := hino2 s (by omega)
            by_cases hq : pr σ ll s = key u
            · go_wp2
              go_roundw
              case rel => exact ⟨u + 1, by omega, by go_num, by first | exact trivial | rfl⟩
              case measure => simp [intOf]; omega
            · have hst : s ≠ t0 := fun e => hq (by rw [e]; exact hkt)
              go_wp2
              go_roundw
              case rel => exact ⟨s + 1, by omega, by go_num, rfl, by first | exact trivial | rfl⟩
              case measure => simp [intOf]; omega
        · have huI : ¬ (u : Int) < (ll.length : Int) := by omega
          generalize wr = W3 at *
          have e0 := hR2.side 2 (by omega)
          have e1 := hR2.side 3 (by omega)
          simp only [sv] at e0 e1
          rw [HG.out.1.chain.2.1] at e0
          rw [HG.out.1.chain.2.2] at e1
          by_cases hz : ll.length = 0
          · have hl0 : ll = [] := List.length_eq_zero_iff.1 hz
            subst hl0
            simp only [ptr, List.head?_nil, List.getLast?_nil, Option.map_none] at e0 e1
            simp only [List.length_nil]
            go_wp2
            go_ret
            exact ⟨ret_bool (by first | rfl | simp), hB2⟩
          · have hzI : ¬ ((ll.length : Nat) : Int) = 0 := by omega
            have hpe := hpg (by omega)
            subst hpe
            go_wp2
            go_loopw [14, 15, 16] (fun pv lv' i ws => ∃ A B : List Nat, ll = A ++ B ∧ pv = ptr A.getLast? ∧ lv' = ptr B.head? ∧ i = .int .i64 A.length ∧ ∃ n, ws = W3.drewN n) (fun _ _ i _ => ll.length - (intOf i).toNat)
            case atStart => exact ⟨[], ll, rfl, rfl, rfl, rfl, 0, rfl⟩
            case round =>
              obtain ⟨A, B, hAB, rfl, rfl, rfl, nw, rfl⟩ := hrel
              have hpn : ptr none = .pointer none := rfl
              have hG9 := HG.out.1
              cases B with
              | nil =>
                have hA : ll = A := by simpa using hAB
                have hAl : ((A.length : Nat) : Int) = (ll.length : Int) := by rw [hA]
                have hnI : ¬ ((A.length : Nat) : Int) < (ll.length : Int) := by omega
                rw [← hA] at hnI
                have q1 := eql_ptr ll.getLast?
                have q2 : ∀ w, (eqGuard .eql 29 (.tmp 130) (.tmp 131) (ptr ll.getLast?) (ptr ll.getLast?)).run Yba.prog w = .ok () w := fun w => rfl
                rw [← hA]
                simp only [List.head?_nil, hpn]
                clear hAB hA hAl hin hino2 hk2 hpk HG hG9
                go_wp2
                go_ret
                exact ⟨ret_bool (by first | rfl | simp), below_draws hB2 _⟩
              | cons x B =>
                have hx : x ∈ ll := by rw [hAB]; simp
                have c0 := hR2.cell x hx 0 (by omega)
                have c4 := hR2.cell x hx 4 (by omega)
                have c5 := hR2.cell x hx 5 (by omega)
                simp only [lv] at c0 c4 c5
                have hnx := hG9.chain.1 A x B hAB
                rw [hnx.1] at c4
                rw [hnx.2] at c5
                have hAl : A.length < ll.length := by rw [hAB]; simp
                have hAI : ((A.length : Nat) : Int) < (ll.length : Int) := by omega
                have c2 := hino2 A.length hAl
                have hpx : pr σ ll A.length = σ.price x := by rw [hAB]; exact pr_at
                rw [hpx] at c2
                have q1 := neq_ptr A.getLast?
                have q2 : ∀ w, (eqGuard .neq 29 (.tmp 113) (.tmp 114) (ptr A.getLast?) (ptr A.getLast?)).run Yba.prog w = .ok () w := fun w => rfl
                have hpx2 : ptr (some x) = .pointer (some ⟨x, 0, none⟩) := rfl
                simp only [List.head?_cons, hpx2]
                have HAB := hide hAB
                clear hAB hin hino2 hk2 hpk HG hG9 hpx hnx
                go_wp2
                go_quiet (fail)
                go_wp2
                go_roundw
                case rel => exact ⟨A ++ [x], B, by rw [HAB.out]; simp, by simp [ptr], rfl, by simp, _, rfl⟩
                case measure => simp [intOf]; omega
end

end Go.Proofs.Ybulkjrk
