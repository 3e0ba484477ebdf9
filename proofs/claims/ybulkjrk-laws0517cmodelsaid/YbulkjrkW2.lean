/-
  OWN WORK: the pool: exact worlds.
-/
import Derived.Test.YbulkjrkW1
import Derived.Deep.AppendLies
import Derived.Deep.MidRow
namespace Go.Proofs.Ybulkjrk
open Go.RowKit
set_option linter.unusedSimpArgs false
set_option linter.unusedVariables false
def ozero : Array Value := #[.int .u64 0, .int .u64 0, .int .u8 0, .int .u8 0, .int .i64 0, .int .i64 0, .int .i64 0, .int .u64 0, .pointer none, .pointer none, .pointer none, .pointer none]
def lfresh (p : Int) : Array Value := #[.int .i64 p, .int .i64 0, .pointer none, .pointer none, .pointer none, .pointer none, .pointer none, .pointer none, .pointer none, .int .i8 0]

set_option maxRecDepth 100000 in
set_option maxHeartbeats 1000000 in
theorem order_new {eb : Nat} {W : World} {a : Option Addr} {cap : Nat} (h5 : W.cell? ⟨eb, 5, none⟩ = some (.slice a 0 cap)) :
    Calls Yba.prog 37 #[.pointer (some ⟨eb, 5, none⟩)] W fun e w' => e = .returned (.pointer (some ⟨W.heap.size, 0, none⟩)) ∧ w' = W.alloc (.cells ozero 82) := by
  go_enter Yba.func37, Yba.ntmps37
  go_wp2
  go_ret
  exact ⟨rfl, rfl⟩
set_option maxRecDepth 100000 in
set_option maxHeartbeats 1000000 in
theorem order_old {eb g n x : Nat} {W : World} {cap : Nat} (h5 : W.cell? ⟨eb, 5, none⟩ = some (.slice (some ⟨g, 0, none⟩) (n + 1) cap)) (hc : W.cell? ⟨g, n, none⟩ = some (.pointer (some ⟨x, 0, none⟩))) (hf : W.frozen? ⟨g, n, none⟩ = false) (hf5 : W.frozen? ⟨eb, 5, none⟩ = false) (hn : n + 1 ≤ cap) (hcap : n ≤ 100000) (hne : g ≠ eb) :
    Calls Yba.prog 37 #[.pointer (some ⟨eb, 5, none⟩)] W fun e w' => e = .returned (.pointer (some ⟨x, 0, none⟩)) ∧ w' = (W.setCell ⟨g, n, none⟩ (.pointer none)).setCell ⟨eb, 5, none⟩ (.slice (some ⟨g, 0, none⟩) n cap) := by
  go_enter Yba.func37, Yba.ntmps37
  go_wp2
  go_ret
  exact ⟨rfl, rfl⟩
set_option maxRecDepth 100000 in
set_option maxHeartbeats 1000000 in
theorem level_new {eb : Nat} {W : World} {a : Option Addr} {cap : Nat} (h6 : W.cell? ⟨eb, 6, none⟩ = some (.slice a 0 cap)) (p : Int) :
    Calls Yba.prog 53 #[.pointer (some ⟨eb, 5, none⟩), .int .i64 p] W fun e w' => e = .returned (.pointer (some ⟨W.heap.size, 0, none⟩)) ∧ w' = W.alloc (.cells (lfresh p) 37) := by
  go_enter Yba.func53, Yba.ntmps53
  go_wp2
  go_ret
  exact ⟨rfl, rfl⟩
set_option maxRecDepth 100000 in
set_option maxHeartbeats 1000000 in
theorem level_old {eb g n x : Nat} {W : World} {cap : Nat} (h6 : W.cell? ⟨eb, 6, none⟩ = some (.slice (some ⟨g, 0, none⟩) (n + 1) cap)) (hc : W.cell? ⟨g, n, none⟩ = some (.pointer (some ⟨x, 0, none⟩))) (hf : W.frozen? ⟨g, n, none⟩ = false) (hf6 : W.frozen? ⟨eb, 6, none⟩ = false) (hn : n + 1 ≤ cap) (hcap : n ≤ 100000) (hne : g ≠ eb)
    {v : Value} (hx : W.cell? ⟨x, 0, none⟩ = some v) (hfx : W.frozen? ⟨x, 0, none⟩ = false) (hxe : x ≠ eb) (hxg : x ≠ g) (p : Int) :
    Calls Yba.prog 53 #[.pointer (some ⟨eb, 5, none⟩), .int .i64 p] W fun e w' => e = .returned (.pointer (some ⟨x, 0, none⟩)) ∧ w' = ((W.setCell ⟨g, n, none⟩ (.pointer none)).setCell ⟨eb, 6, none⟩ (.slice (some ⟨g, 0, none⟩) n cap)).setCell ⟨x, 0, none⟩ (.int .i64 p) := by
  go_enter Yba.func53, Yba.ntmps53
  go_wp2
  go_ret
  exact ⟨rfl, rfl⟩
end Go.Proofs.Ybulkjrk
