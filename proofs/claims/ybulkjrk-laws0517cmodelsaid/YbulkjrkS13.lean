/-
  OWN WORK: byArrival: its methods through a pointer; Len, Less, Swap.
-/
import Derived.Test.YbulkjrkS12
import Derived.Test.YbulkjrkW12
namespace Go.Proofs.Ybulkjrk
open Go.RowKit
open Go.Sort (swp SWO PermIn SortedIn)
set_option linter.unusedSimpArgs false
set_option linter.unusedVariables false
set_option linter.unusedSectionVars false
variable [Base]
theorem mLen : (Yba.prog.info? 120).map (fun i => (i.methods.find? (·.name == "Len")).map (fun m => (m.path, m.func))) = some (some (#[], some (96, false))) := by kernel_rfl
theorem mLess : (Yba.prog.info? 120).map (fun i => (i.methods.find? (·.name == "Less")).map (fun m => (m.path, m.func))) = some (some (#[], some (97, false))) := by kernel_rfl
theorem mSwap : (Yba.prog.info? 120).map (fun i => (i.methods.find? (·.name == "Swap")).map (fun m => (m.path, m.func))) = some (some (#[], some (98, false))) := by kernel_rfl
theorem und120 : Yba.prog.underlying 120 = some (.pointer 75) := by kernel_rfl
theorem und75 : Yba.prog.underlying 75 = some (.slice 34) := by kernel_rfl
theorem size75 : (Yba.prog.info? 75).map (·.size) = some 1 := by kernel_rfl
theorem run_meth {name : String} {f : FuncId} (hm : (Yba.prog.info? 120).map (fun i => (i.methods.find? (·.name == name)).map (fun m => (m.path, m.func))) = some (some (#[], some (f, false)))) {W : World} {b o : Nat} {v : Value} (hc : W.cell? ⟨b, o, none⟩ = some v) :
    Sem.run Yba.prog (method 280 120 (.pointer (some ⟨b, o, none⟩)) name) W = .ok (f, v) W := by
  obtain ⟨i, hi, h1⟩ := Option.map_eq_some_iff.1 hm
  obtain ⟨mt, h2, h3⟩ := Option.map_eq_some_iff.1 h1
  obtain ⟨h4, h5⟩ := Prod.mk.inj h3
  obtain ⟨i75, hi75, hs75⟩ := Option.map_eq_some_iff.1 size75
  have ht : (typeInfo 120).run Yba.prog W = .ok i W := by simp [typeInfo, hi]
  have hl : (loadVar 75 ⟨b, o, none⟩).run Yba.prog W = .ok v W := by
    simp [loadVar, go_sem, hc]
  show Sem.run Yba.prog (method (279 + 1) 120 _ name) W = _
  rw [method]
  simp only [Sem.run_bind, ht, Result.andThen_ok, h2]
  simp only [h4, follow, Sem.run_pure, Result.andThen_ok, h5, Sem.run_bind]
  rw [receiverAt]
  simp only [Sem.run_bind, run_underlying und120, Result.andThen_ok]
  have hwn : ∀ nm, (Builtin.ssaWrapNilChk_ #[120] 120 #[.pointer (some ⟨b, o, none⟩), strVal "", strVal nm]).run Yba.prog W = .ok (.pointer (some ⟨b, o, none⟩)) W := fun nm => rfl
  have ha : (asAddr (.pointer (some ⟨b, o, none⟩))).run Yba.prog W = .ok ⟨b, o, none⟩ W := rfl
  have he : (#[] : Array FieldStep).isEmpty = true := rfl
  simp only [Place.get, Sem.run_pure, Result.andThen_ok, he, if_true, Sem.run_bind, hwn, ha, hl]

/-- The row that is sorted, by the orders' numbers; all else as at the start. -/
structure SR (ob : Nat → Nat) (m : Nat) (W0 : World) (qb n cap : Nat) (d : Array Nat) (W : World) : Prop where
  sz : d.size = n
  lt : ∀ i ∈ d.toList, i < m
  os : W.os = W0.os
  tape : W.tape = W0.tape
  output : W.output = W0.output
  size : W0.heap.size ≤ W.heap.size
  blk : ∀ b, b < W0.heap.size → b ≠ qb → W.heap[b]? = W0.heap[b]?
  row : W.ownsRow Base.B 34 1 (.slice (some ⟨qb, 0, none⟩) n cap) n (d.toList.map fun i => pt (ob i))
theorem SR.cell {ob : Nat → Nat} {m : Nat} {W0 W : World} {qb n cap : Nat} {d : Array Nat} (h : SR ob m W0 qb n cap d W) {i : Nat} (hi : i < n) : W.cell? ⟨qb, i, none⟩ = some (.pointer (some ⟨ob d[i]!, 0, none⟩)) ∧ d[i]! < m := by
  have hs := h.sz
  have h1 := h.row.cellAt i (by omega)
  rw [List.getElem?_map, Array.getElem?_toList, Array.getElem?_eq_getElem (show i < d.size by omega)] at h1
  rw [getElem!_pos d i (by omega)]
  exact ⟨h1, h.lt _ (by simp)⟩
theorem toList_swp (d : Array Nat) (i j : Nat) (hi : i < d.size) (hj : j < d.size) (f : Nat → Value) : (swp d i j).toList.map f = ((d.toList.map f).set i (f d[j]!)).set j (f d[i]!) := by
  simp [swp, List.map_set]

section
variable {ob : Nat → Nat} {m : Nat} {W0 : World} {eb qb n cap : Nat}
set_option maxRecDepth 100000 in
set_option maxHeartbeats 2000000 in
theorem srt_of (hq : qb < W0.heap.size) (he : W0.cell? ⟨eb, 7, none⟩ = some (.slice (some ⟨qb, 0, none⟩) n cap)) (heq : eb ≠ qb) (hn : n ≤ 1024) (ho : ∀ i, i < m → W0.cell? ⟨ob i, 7, none⟩ = some (.int .u64 ((i : Int) + 1))) (hoq : ∀ i, i < m → ob i ≠ qb) :
    Srt (fun x y => decide (x < y)) (.pointer (some ⟨eb, 7, none⟩)) (.slice (some ⟨qb, 0, none⟩) n cap) n W0.heap.size (SR ob m W0 qb n cap) := by
  have zE := World.block_lt_of_cell? W0 ⟨eb, 7, none⟩ he
  have ce : ∀ {d W}, SR ob m W0 qb n cap d W → W.cell? ⟨eb, 7, none⟩ = some (.slice (some ⟨qb, 0, none⟩) n cap) := fun h => (World.cell?_of_block (h.blk eb zE heq)).trans he
  have co : ∀ {d W}, SR ob m W0 qb n cap d W → ∀ i, i < m → W.cell? ⟨ob i, 7, none⟩ = some (.int .u64 ((i : Int) + 1)) := fun h i hi =>
    (World.cell?_of_block (h.blk (ob i) (World.block_lt_of_cell? W0 ⟨ob i, 7, none⟩ (ho i hi)) (hoq i hi))).trans (ho i hi)
  refine ⟨hn, fun h => h.sz, fun h => h.size, fun {d W W'} h hb => ?_, fun h => run_meth mLen (ce h), fun h => run_meth mLess (ce h), fun h => run_meth mSwap (ce h), fun {d W} h => ?_, fun {d W} h i j hi hj => ?_, fun {d W} h i j hi hj => ?_⟩
  · have hrow : W'.ownsRow Base.B 34 1 (.slice (some ⟨qb, 0, none⟩) n cap) n (d.toList.map fun i => pt (ob i)) := by
      refine ⟨h.row.1, ?_⟩
      rcases h.row.2 with h0 | ⟨g, cap', cur, hv, hb', hc, hr⟩
      · exact .inl h0
      · cases hv
        exact .inr ⟨qb, cap, cur, rfl, hb', (hb.block qb hq).trans hc, hr⟩
    exact ⟨h.sz, h.lt, hb.os.trans h.os, hb.tape.trans h.tape, hb.output.trans h.output, Nat.le_trans h.size hb.size, fun b h1 h2 => (hb.block b h1).trans (h.blk b h1 h2), hrow⟩
  · go_enter Yba.func96, Yba.ntmps96
    go_wp2
    go_ret
    exact ⟨rfl, rfl⟩
  · obtain ⟨c1, l1⟩ := h.cell hi
    obtain ⟨c2, l2⟩ := h.cell hj
    have o1 := co h _ l1
    have o2 := co h _ l2
    generalize d[i]! = x at *
    generalize d[j]! = y at *
    go_enter Yba.func97, Yba.ntmps97
    go_wp2
    go_quiet (fail)
    go_wp2
    go_ret
    refine ⟨?_, _, rfl⟩
    rfl
  · have hs := h.sz
    obtain ⟨c1, l1⟩ := h.cell hi
    obtain ⟨c2, l2⟩ := h.cell hj
    have f1 := h.row.frozenAt i
    have f2 := h.row.frozenAt j
    have S1 := h.row.stored i (pt (ob d[j]!))
    have S2 := S1.1.stored j (pt (ob d[i]!))
    have hrow := S2.1
    rw [← toList_swp d i j (by omega) (by omega) (fun i => pt (ob i))] at hrow
    have hfin : SR ob m W0 qb n cap (swp d i j) ((W.setCell ⟨qb, i, none⟩ (pt (ob d[j]!))).setCell ⟨qb, j, none⟩ (pt (ob d[i]!))).drew ∧ KeepUp W0.heap.size W ((W.setCell ⟨qb, i, none⟩ (pt (ob d[j]!))).setCell ⟨qb, j, none⟩ (pt (ob d[i]!))).drew := by
      refine ⟨⟨by rw [Sort.size_swp]; exact hs, fun x hx => ?_, h.os, h.tape, h.output, ?_, fun b h1 h2 => ?_, hrow⟩, ⟨?_, fun b hb => ?_⟩⟩
      · have hx' : x ∈ (swp d i j).toList.map id := by simpa using hx
        have e := perm_whole (Sort.swp_permIn d 0 n i j (by omega) hi (by omega) hj (by omega)) (by omega)
        exact h.lt x (e.mem_iff.1 hx)
      · have := h.size; simpa using this
      · show ((W.setCell ⟨qb, i, none⟩ (pt (ob d[j]!))).setCell ⟨qb, j, none⟩ (pt (ob d[i]!))).heap[b]? = _
        rw [Below.heap_setCell _ _ _ _ h2, Below.heap_setCell _ _ _ _ h2]
        exact h.blk b h1 h2
      · show ((W.setCell ⟨qb, i, none⟩ (pt (ob d[j]!))).setCell ⟨qb, j, none⟩ (pt (ob d[i]!))).heap.size = _
        simp
      · show ((W.setCell ⟨qb, i, none⟩ (pt (ob d[j]!))).setCell ⟨qb, j, none⟩ (pt (ob d[i]!))).heap[b]? = _
        rw [Below.heap_setCell _ _ _ _ (by show b ≠ qb; omega), Below.heap_setCell _ _ _ _ (by show b ≠ qb; omega)]
    have HF := hide hfin
    clear hfin S1 S2 hrow
    have hn' := hn
    by_cases eij : i = j
    · subst eij
      generalize d[i]! = x at *
      go_enter Yba.func98, Yba.ntmps98
      go_region
      go_end0
      exact ⟨rfl, HF.out.1, HF.out.2⟩
    · generalize d[i]! = x at *
      generalize d[j]! = y at *
      go_enter Yba.func98, Yba.ntmps98
      go_region
      go_end0
      exact ⟨rfl, HF.out.1, HF.out.2⟩
end
end Go.Proofs.Ybulkjrk
