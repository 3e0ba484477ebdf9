import Derived.Test.YbulkjqwRows
import Derived.WalkKit
import Derived.WalkSpells
import Derived.WalkLawsBesides
import Derived.Deep.QuietTactic
import Derived.BigQuiet
import Derived.RegionTactic
import Derived.BigRegion
namespace Go.Proofs.Ybulkjqw
open Go.RowKit
set_option linter.unusedSimpArgs false
set_option linter.unusedVariables false

set_option maxHeartbeats 400000 in
theorem node_any (bx bs bp : Nat) (i : Int) (w : World) (h0 : 0 ≤ i) (h1 : i < 1024)
    (hx : w.cell? ⟨bx, 1, none⟩ = some (.slice (some ⟨bs, 0, none⟩) 1 1))
    (hs : w.cell? ⟨bs, 0, none⟩ = some (.pointer (some ⟨bp, 0, none⟩))) :
    Calls Yba.prog 15 #[.pointer (some ⟨bx, 0, none⟩), .int .i32 i] w fun e w' => e = .returned (.pointer (some ⟨bp, i.toNat * 10, none⟩)) ∧ w = w' := by
  have hd : i / 1024 = 0 := by omega
  have hm : i % 1024 = i := by omega
  go_enter Yba.func15, Yba.ntmps15
  go_wp2
  go_show
  go_ret
  exact ⟨rfl, rfl⟩

end Go.Proofs.Ybulkjqw
