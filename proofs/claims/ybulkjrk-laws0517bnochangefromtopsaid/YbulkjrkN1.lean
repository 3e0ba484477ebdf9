import Derived.Test.YbulkjrkK
namespace Go.Proofs.Ybulkjrk
open Go.RowKit
set_option linter.unusedSimpArgs false
set_option linter.unusedVariables false

set_option maxHeartbeats 400000 in
theorem bestWay_buy (b o : Nat) (w : World) (h : w.cell? ⟨b, o, none⟩ = some (.int .u8 1)) :
    Calls Yba.prog 51 #[.pointer (some ⟨b, o, none⟩)] w fun e w' => e = .returned (.int .i64 1) ∧ w = w' := by
  go_enter Yba.func51, Yba.ntmps51
  go_wp2
  go_ret
  exact ⟨rfl, rfl⟩

set_option maxHeartbeats 400000 in
theorem bestWay_sell (b o : Nat) (w : World) (h : w.cell? ⟨b, o, none⟩ = some (.int .u8 2)) :
    Calls Yba.prog 51 #[.pointer (some ⟨b, o, none⟩)] w fun e w' => e = .returned (.int .i64 0) ∧ w = w' := by
  go_enter Yba.func51, Yba.ntmps51
  go_wp2
  go_ret
  exact ⟨rfl, rfl⟩

set_option maxHeartbeats 400000 in
theorem best_buy (b o : Nat) (p : Option Addr) (w : World) (h : w.cell? ⟨b, o, none⟩ = some (.int .u8 1)) (hp : w.cell? ⟨b, o + 2 + 1, none⟩ = some (.pointer p)) :
    Calls Yba.prog 34 #[.pointer (some ⟨b, o, none⟩)] w fun e w' => e = .returned (.pointer p) ∧ ∃ n, w' = w.drewN n := by
  go_enter Yba.func34, Yba.ntmps34
  go_wp2
  go_quiet ((go_at_call 51; exact Calls.quiet_of_same ((bestWay_buy _ _ _ (by simpa using h)).mono fun e w' h => ⟨h.1, h.2.symm⟩)))
  go_wp2
  go_ret
  exact ⟨rfl, _, rfl⟩

set_option maxHeartbeats 400000 in
theorem best_sell (b o : Nat) (p : Option Addr) (w : World) (h : w.cell? ⟨b, o, none⟩ = some (.int .u8 2)) (hp : w.cell? ⟨b, o + 2, none⟩ = some (.pointer p)) :
    Calls Yba.prog 34 #[.pointer (some ⟨b, o, none⟩)] w fun e w' => e = .returned (.pointer p) ∧ ∃ n, w' = w.drewN n := by
  go_enter Yba.func34, Yba.ntmps34
  go_wp2
  go_quiet ((go_at_call 51; exact Calls.quiet_of_same ((bestWay_sell _ _ _ (by simpa using h)).mono fun e w' h => ⟨h.1, h.2.symm⟩)))
  go_wp2
  go_ret
  exact ⟨rfl, _, rfl⟩

end Go.Proofs.Ybulkjrk
