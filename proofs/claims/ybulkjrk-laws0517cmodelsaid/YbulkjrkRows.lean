/-
  No cell of these rows narrows 'for every input' (looked for: loops, veiled, ifaces, maps, wideKeys, modest, calm, conditions, laid).
  DERIVED. THE GIVEN ROWS OF THIS SEAT. 5 by the template 'for every input the law returns true; each argument reads behind the call as it read before'; 0 by the template 'total and deterministic' (their statements: YbulkjrkTotals.lean).
  GIVEN WITH THE SEED: the statements are not yours to turn. If you find one false, say at which input.
  Laid BY PROGRAM, IN A SANDBOX (cutbox-rows.mjs): the forced cells as the released guide's own fill.sh prints them over the translation 8d4a2e31b56adab7… (all of the seat's roots in one cut). By AI agents, Wed Nov 11 2026. No macro, syntax, notation, axiom, sorry.
-/
import Derived.Test.YbulkjrkChecked
import GoSem.Claim
import GoSem.ClaimJoined
import GoSem.ClaimMapViews
import Derived.JoinedTies
import Derived.KernelRfl
namespace Go.Proofs.Ybulkjrk
/- THE CELL 'sum', in the pinned program and in every row, IS THE sha256 OF THE DUMP (.gsa) THAT YbulkjrkProg.lean LOADS. Nothing in Lean hashes anything: it is a label: what it is worth is what the hold of that sum in a sandbox is worth. -/
noncomputable def Yba.pinned : Pinned := { name := "ybulkjrk", sum := "8d4a2e31b56adab7a2b65075b75c9f34100185e91ac6d65071008e8a0d9af062", checked := Yba.checked }
namespace Rows
def none {H : Type} : Left H := { results := [], args := [] }

/-- 'tidebook.LawS0517AInsert': WHATEVER THE INPUT: true; the input reads as it did. -/
def lawS0517AInsertSpec : ChangeSpec := { name := "lawS0517AInsert", fn := fun _ => fun
  | [d] => { results := [.lit (.bool true)], args := [d] }
  | _ => none }
def lawS0517AInsertRow : OpenClaim := { program := "ybulkjrk", sum := "8d4a2e31b56adab7a2b65075b75c9f34100185e91ac6d65071008e8a0d9af062", func := "example.com/tidebook/tidebook.LawS0517AInsert", spec := "lawS0517AInsert", recurses := true, plainKeys := false, apart := false }
def LawS0517AInsertSaid : Prop := lawS0517AInsertRow.holds Yba.pinned (OpenSpec.ofChange lawS0517AInsertSpec)

/-- ITS FALSE NEIGHBOUR: 'it returns false'. Refute it at one input. -/
def lawS0517AInsertWrong : ChangeSpec := { name := "lawS0517AInsert", fn := fun _ => fun
  | [d] => { results := [.lit (.bool false)], args := [d] }
  | _ => none }
def LawS0517AInsertWrongFalsely : Prop := lawS0517AInsertRow.holds Yba.pinned (OpenSpec.ofChange lawS0517AInsertWrong)

/-- 'tidebook.LawS0517ADelete': WHATEVER THE INPUT: true; the input reads as it did. -/
def lawS0517ADeleteSpec : ChangeSpec := { name := "lawS0517ADelete", fn := fun _ => fun
  | [d1, d2] => { results := [.lit (.bool true)], args := [d1, d2] }
  | _ => none }
def lawS0517ADeleteRow : OpenClaim := { program := "ybulkjrk", sum := "8d4a2e31b56adab7a2b65075b75c9f34100185e91ac6d65071008e8a0d9af062", func := "example.com/tidebook/tidebook.LawS0517ADelete", spec := "lawS0517ADelete", recurses := true, plainKeys := false, apart := false }
def LawS0517ADeleteSaid : Prop := lawS0517ADeleteRow.holds Yba.pinned (OpenSpec.ofChange lawS0517ADeleteSpec)

/-- ITS FALSE NEIGHBOUR: 'it returns false'. Refute it at one input. -/
def lawS0517ADeleteWrong : ChangeSpec := { name := "lawS0517ADelete", fn := fun _ => fun
  | [d1, d2] => { results := [.lit (.bool false)], args := [d1, d2] }
  | _ => none }
def LawS0517ADeleteWrongFalsely : Prop := lawS0517ADeleteRow.holds Yba.pinned (OpenSpec.ofChange lawS0517ADeleteWrong)

/-- 'tidebook.LawS0517BNoChangeFromTop': WHATEVER THE INPUT: true; the input reads as it did. -/
def lawS0517BNoChangeFromTopSpec : ChangeSpec := { name := "lawS0517BNoChangeFromTop", fn := fun _ => fun
  | [d1, d2, d3, d4, d5, d6, d7, d8] => { results := [.lit (.bool true)], args := [d1, d2, d3, d4, d5, d6, d7, d8] }
  | _ => none }
def lawS0517BNoChangeFromTopRow : OpenClaim := { program := "ybulkjrk", sum := "8d4a2e31b56adab7a2b65075b75c9f34100185e91ac6d65071008e8a0d9af062", func := "example.com/tidebook/tidebook.LawS0517BNoChangeFromTop", spec := "lawS0517BNoChangeFromTop", plainKeys := false, apart := false }
def LawS0517BNoChangeFromTopSaid : Prop := lawS0517BNoChangeFromTopRow.holds Yba.pinned (OpenSpec.ofChange lawS0517BNoChangeFromTopSpec)

/-- ITS FALSE NEIGHBOUR: 'it returns false'. Refute it at one input. -/
def lawS0517BNoChangeFromTopWrong : ChangeSpec := { name := "lawS0517BNoChangeFromTop", fn := fun _ => fun
  | [d1, d2, d3, d4, d5, d6, d7, d8] => { results := [.lit (.bool false)], args := [d1, d2, d3, d4, d5, d6, d7, d8] }
  | _ => none }
def LawS0517BNoChangeFromTopWrongFalsely : Prop := lawS0517BNoChangeFromTopRow.holds Yba.pinned (OpenSpec.ofChange lawS0517BNoChangeFromTopWrong)

/-- 'tidebook.LawS0517CModel': WHATEVER THE INPUT: true; the input reads as it did. -/
def lawS0517CModelSpec : ChangeSpec := { name := "lawS0517CModel", fn := fun _ => fun
  | [d1, d2] => { results := [.lit (.bool true)], args := [d1, d2] }
  | _ => none }
def lawS0517CModelRow : OpenClaim := { program := "ybulkjrk", sum := "8d4a2e31b56adab7a2b65075b75c9f34100185e91ac6d65071008e8a0d9af062", func := "example.com/tidebook/tidebook.LawS0517CModel", spec := "lawS0517CModel", unfollowed := true, recurses := true, plainKeys := false, apart := false }
def LawS0517CModelSaid : Prop := lawS0517CModelRow.holds Yba.pinned (OpenSpec.ofChange lawS0517CModelSpec)

/-- ITS FALSE NEIGHBOUR: 'it returns false'. Refute it at one input. -/
def lawS0517CModelWrong : ChangeSpec := { name := "lawS0517CModel", fn := fun _ => fun
  | [d1, d2] => { results := [.lit (.bool false)], args := [d1, d2] }
  | _ => none }
def LawS0517CModelWrongFalsely : Prop := lawS0517CModelRow.holds Yba.pinned (OpenSpec.ofChange lawS0517CModelWrong)

/-- 'tidebook.LawS0517CAgain': WHATEVER THE INPUT: true; the input reads as it did. -/
def lawS0517CAgainSpec : ChangeSpec := { name := "lawS0517CAgain", fn := fun _ => fun
  | [d1, d2] => { results := [.lit (.bool true)], args := [d1, d2] }
  | _ => none }
def lawS0517CAgainRow : OpenClaim := { program := "ybulkjrk", sum := "8d4a2e31b56adab7a2b65075b75c9f34100185e91ac6d65071008e8a0d9af062", func := "example.com/tidebook/tidebook.LawS0517CAgain", spec := "lawS0517CAgain", unfollowed := true, recurses := true, plainKeys := false, apart := false }
def LawS0517CAgainSaid : Prop := lawS0517CAgainRow.holds Yba.pinned (OpenSpec.ofChange lawS0517CAgainSpec)

/-- ITS FALSE NEIGHBOUR: 'it returns false'. Refute it at one input. -/
def lawS0517CAgainWrong : ChangeSpec := { name := "lawS0517CAgain", fn := fun _ => fun
  | [d1, d2] => { results := [.lit (.bool false)], args := [d1, d2] }
  | _ => none }
def LawS0517CAgainWrongFalsely : Prop := lawS0517CAgainRow.holds Yba.pinned (OpenSpec.ofChange lawS0517CAgainWrong)

end Rows
end Go.Proofs.Ybulkjrk
