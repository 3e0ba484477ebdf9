/-
  OWN WORK: pdqsort, plain part: what a round keeps.
-/
import Derived.Test.YbulkjrkS8
import Derived.Test.YbulkjrkS9
namespace Go.Proofs.Ybulkjrk
open Go.RowKit
open Go.Sort (swp SWO PermIn SortedIn)
set_option linter.unusedSimpArgs false
set_option linter.unusedVariables false
variable {lt : Nat → Nat → Bool} {a b : Nat} {d : Array Nat}

theorem perm_whole {a b : Nat} {d d' : Array Nat} (h : PermIn a b d d') (hb : b ≤ d.size) : d'.toList.Perm d.toList := by
  have h1 := Sort.permIn_mono d d' a b 0 d.size (Nat.zero_le _) hb (Nat.le_refl _) h
  have h2 := h1.2.2
  have e1 : d.extract 0 d.size = d := by simp
  have e2 : d'.extract 0 d.size = d' := by rw [← h1.1]; simp
  rwa [e1, e2] at h2
theorem nd_ne {d : Array Nat} (h : d.toList.Nodup) {i j : Nat} (hij : i < j) (hj : j < d.size) : d[i]! ≠ d[j]! := by
  have := (List.pairwise_iff_getElem.1 h) i j (by simpa using (by omega : i < d.size)) (by simpa using hj) hij
  simpa [getElem!_pos d i (by omega), getElem!_pos d j hj] using this

structure Pdq (lt : Nat → Nat → Bool) (a b : Nat) (d : Array Nat) (x y : Nat) (dk : Array Nat) : Prop where
  h1 : a ≤ x
  h2 : x ≤ y
  h3 : y ≤ b
  hb : b ≤ d.size
  perm : PermIn a b d dk
  nd : dk.toList.Nodup
  bl : Sort.Below lt x y dk
  fin : ∀ d', PermIn x y dk d' → SortedIn lt x y d' → SortedIn lt a b d'

theorem Pdq.size {x y : Nat} {dk : Array Nat} (h : Pdq lt a b d x y dk) : dk.size = d.size := h.perm.1
theorem Pdq.step {x y : Nat} {dk dn : Array Nat} (h : Pdq lt a b d x y dk) (hp : PermIn x y dk dn) : Pdq lt a b d x y dn := by
  have hs := h.size
  have := h.h3
  have := h.hb
  refine ⟨h.h1, h.h2, h.h3, h.hb, Sort.permIn_trans _ _ _ _ _ h.perm (Sort.permIn_mono _ _ _ _ _ _ h.h1 h.h3 (by omega) hp), (perm_whole hp (by omega)).nodup_iff.2 h.nd, h.bl.perm (by omega) hp, fun d' hp' hs' => h.fin d' (Sort.permIn_trans _ _ _ _ _ hp hp') hs'⟩
theorem Pdq.start (hab : a ≤ b) (hb : b ≤ d.size) (hn : d.toList.Nodup) (hB : Sort.Below lt a b d) : Pdq lt a b d a b d :=
  ⟨Nat.le_refl _, hab, Nat.le_refl _, hb, Sort.permIn_refl _ _ _, hn, hB, fun _ _ h => h⟩
theorem Pdq.end {x y : Nat} {dk dn : Array Nat} (h : Pdq lt a b d x y dk) (hp : PermIn x y dk dn) (hs : SortedIn lt x y dn) : PermIn a b d dn ∧ SortedIn lt a b dn :=
  ⟨(h.step hp).perm, h.fin dn hp hs⟩
theorem Parted.belowL {x y mid : Nat} {dk dn : Array Nat} (h : Pdq lt a b d x y dk) (hp : Parted lt x y dk dn mid) : Sort.Below lt x mid dn :=
  Sort.Below.mono (h.step hp.perm).bl (by have := hp.mb; omega)
theorem Parted.belowR {x y mid : Nat} {dk dn : Array Nat} (hp : Parted lt x y dk dn mid) : Sort.Below lt (mid + 1) y dn :=
  .inr fun i h1 h2 => hp.hi i (by omega) h2
theorem Pdq.left (hS : SWO lt) {x y mid : Nat} {dk dn de : Array Nat} (h : Pdq lt a b d x y dk) (hp : Parted lt x y dk dn mid) (hq : PermIn x mid dn de) (hs : SortedIn lt x mid de) : Pdq lt a b d (mid + 1) y de := by
  have hm := hp.mb
  have ha := hp.am
  have s1 := hp.perm.1
  have s0 := h.size
  have g3 := h.h3
  have gb := h.hb
  have hq' : PermIn x y dn de := Sort.permIn_mono _ _ _ _ _ _ (Nat.le_refl _) (by omega) (by omega) hq
  have H := (h.step hp.perm).step hq'
  have eo : ∀ i, mid ≤ i → de[i]! = dn[i]! := fun i hi => hq.2.1 i (.inr hi)
  have hhi : ∀ i, mid < i → i < y → lt de[i]! de[mid]! = false := fun i i1 i2 => by rw [eo i (by omega), eo mid (Nat.le_refl _)]; exact hp.hi i i1 i2
  have hlo : ∀ i, x ≤ i → i < mid → lt de[i]! de[mid]! = true := fun i i1 i2 => by
    rw [eo mid (Nat.le_refl _)]
    exact Sort.permIn_all dn de x mid (fun z => lt z dn[mid]! = true) (by omega) hq hp.lo i i1 i2
  have s2 := hq.1
  refine ⟨by have := h.h1; omega, by omega, g3, gb, H.perm, H.nd, .inr fun i i1 i2 => hhi i (by omega) i2, fun d' hp' hs' => ?_⟩
  have lowd : ∀ i, i < mid + 1 → d'[i]! = de[i]! := fun i hi => hp'.2.1 i (.inl hi)
  refine H.fin d' (Sort.permIn_mono _ _ _ _ _ _ (by omega) (Nat.le_refl _) (by omega) hp') ?_
  refine Sort.sorted_glue hS (mid := mid) ?_ hs' (fun i i1 i2 => by rw [lowd i (by omega), lowd mid (by omega)]; exact hlo i i1 i2) (fun i i1 i2 => ?_)
  · exact Sort.SortedIn.congr hs (fun i i1 i2 => lowd i (by omega))
  · rw [lowd mid (by omega)]
    exact Sort.permIn_all de d' (mid + 1) y (fun z => lt z de[mid]! = false) (by omega) hp' (fun k k1 k2 => hhi k (by omega) k2) i (by omega) i2
theorem Pdq.right (hS : SWO lt) {x y mid : Nat} {dk dn de : Array Nat} (h : Pdq lt a b d x y dk) (hp : Parted lt x y dk dn mid) (hq : PermIn (mid + 1) y dn de) (hs : SortedIn lt (mid + 1) y de) : Pdq lt a b d x mid de := by
  have hm := hp.mb
  have ha := hp.am
  have s1 := hp.perm.1
  have s0 := h.size
  have g3 := h.h3
  have gb := h.hb
  have hq' : PermIn x y dn de := Sort.permIn_mono _ _ _ _ _ _ (by omega) (Nat.le_refl _) (by omega) hq
  have H := (h.step hp.perm).step hq'
  have eo : ∀ i, i ≤ mid → de[i]! = dn[i]! := fun i hi => hq.2.1 i (.inl (by omega))
  have hlo : ∀ i, x ≤ i → i < mid → lt de[i]! de[mid]! = true := fun i i1 i2 => by rw [eo i (by omega), eo mid (Nat.le_refl _)]; exact hp.lo i i1 i2
  have hhi : ∀ i, mid < i → i < y → lt de[i]! de[mid]! = false := fun i i1 i2 => by
    rw [eo mid (Nat.le_refl _)]
    exact Sort.permIn_all dn de (mid + 1) y (fun z => lt z dn[mid]! = false) (by omega) hq (fun k k1 k2 => hp.hi k (by omega) k2) i (by omega) i2
  have s2 := hq.1
  refine ⟨h.h1, by omega, by omega, gb, H.perm, H.nd, Sort.Below.mono H.bl (by omega), fun d' hp' hs' => ?_⟩
  have higd : ∀ i, mid ≤ i → d'[i]! = de[i]! := fun i hi => hp'.2.1 i (.inr hi)
  refine H.fin d' (Sort.permIn_mono _ _ _ _ _ _ (Nat.le_refl _) (by omega) (by omega) hp') ?_
  refine Sort.sorted_glue hS (mid := mid) hs' ?_ (fun i i1 i2 => ?_) (fun i i1 i2 => by rw [higd i (by omega), higd mid (by omega)]; exact hhi i i1 i2)
  · exact Sort.SortedIn.congr hs (fun i i1 i2 => higd i (by omega))
  · rw [higd mid (by omega)]
    exact Sort.permIn_all de d' x mid (fun z => lt z de[mid]! = true) (by omega) hp' (fun k k1 k2 => hlo k k1 k2) i i1 i2

section
variable {rv sv : Value} {n N0 : Nat} {R : Array Nat → World → Prop}
/-- The place left of the range is less than all in it. -/
theorem less_true (h : Srt lt rv sv n N0 R) (hT : ∀ x y, x ≠ y → lt x y = false → lt y x = true) {x y : Nat} {dc : Array Nat} {W : World} (hC : R dc W) (hQ : Pdq lt a b d x y dc) (hn : b ≤ n) (u v : Int) (hx : 1 ≤ x) (hu : u = (x : Int) - 1) (hv : (x : Int) ≤ v) (hv' : v < y) :
    Calls Yba.prog 97 #[sv, .int .i64 u, .int .i64 v] W fun e w' => e = .returned (.bool true) ∧ R dc w' := by
  have hs := h.size hC
  have g3 := hQ.h3
  have := h.lessR hC u v (x - 1) v.toNat (by omega) (by omega) (by omega) (by omega)
  have hne := nd_ne hQ.nd (i := x - 1) (j := v.toNat) (by omega) (by omega)
  rcases hQ.bl with h0 | h0
  · omega
  · rw [hT _ _ (Ne.symm hne) (h0 v.toNat (by omega) (by omega))] at this
    exact this
theorem partitionZ_any (h : Srt lt rv sv n N0 R) {x y : Nat} {dc : Array Nat} {W : World} (hC : R dc W) (p : Int) (hap : (x : Int) ≤ p) (hpb : p < y) (hb : y ≤ n) :
    Calls Yba.prog 69 #[.iface 120 rv, .int .i64 x, .int .i64 y, .int .i64 p] W fun e w' => ∃ (mid : Nat) (d' : Array Nat) (q : Bool), e = .returned (.tuple #[.int .i64 mid, .bool q]) ∧ Parted lt x y dc d' mid ∧ R d' w' := by
  have := partition_any h hC (a := x) (b := y) p.toNat (by omega) (by omega) hb
  rwa [show ((p.toNat : Nat) : Int) = p by omega] at this
end
end Go.Proofs.Ybulkjrk
