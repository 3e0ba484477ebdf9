/-
  No cell of these rows narrows 'for every input' (looked for: loops, veiled, ifaces, maps, wideKeys, modest, calm, conditions, laid).
  DERIVED. THE GIVEN ROWS OF THIS SEAT. 3 by the template 'for every input the law returns true; each argument reads behind the call as it read before'; 0 by the template 'total and deterministic' (their statements: YbulkjqwTotals.lean).
  GIVEN WITH THE SEED: the statements are not yours to turn. If you find one false, say at which input.
  Laid BY PROGRAM, IN A SANDBOX (cutbox-rows.mjs): the forced cells as the released guide's own fill.sh prints them over the translation 5e3daa68898d94de… (all of the seat's roots in one cut). By AI agents, Wed Nov 11 2026. No macro, syntax, notation, axiom, sorry.
-/
import Derived.Test.YbulkjqwChecked
import GoSem.Claim
import GoSem.ClaimJoined
import GoSem.ClaimMapViews
import Derived.JoinedTies
import Derived.KernelRfl
namespace Go.Proofs.Ybulkjqw
/- THE CELL 'sum', in the pinned program and in every row, IS THE sha256 OF THE DUMP (.gsa) THAT YbulkjqwProg.lean LOADS. Nothing in Lean hashes anything: it is a label: what it is worth is what the hold of that sum in a sandbox is worth. -/
noncomputable def Yba.pinned : Pinned := { name := "ybulkjqw", sum := "5e3daa68898d94de8e05d5d96282532b1b5f352758f2a971c5594e4ae5ae8ad6", checked := Yba.checked }
namespace Rows
def none {H : Type} : Left H := { results := [], args := [] }

/-- 'place.LawS0516ARotate': WHATEVER THE INPUT: true; the input reads as it did. -/
def lawS0516ARotateSpec : ChangeSpec := { name := "lawS0516ARotate", fn := fun _ => fun
  | [d1, d2, d3, d4, d5, d6, d7, d8] => { results := [.lit (.bool true)], args := [d1, d2, d3, d4, d5, d6, d7, d8] }
  | _ => none }
def lawS0516ARotateRow : OpenClaim := { program := "ybulkjqw", sum := "5e3daa68898d94de8e05d5d96282532b1b5f352758f2a971c5594e4ae5ae8ad6", func := "example.com/kernelweave/kernelweave/internal/place.LawS0516ARotate", spec := "lawS0516ARotate", plainKeys := false, apart := false }
def LawS0516ARotateSaid : Prop := lawS0516ARotateRow.holds Yba.pinned (OpenSpec.ofChange lawS0516ARotateSpec)

/-- ITS FALSE NEIGHBOUR: 'it returns false'. Refute it at one input. -/
def lawS0516ARotateWrong : ChangeSpec := { name := "lawS0516ARotate", fn := fun _ => fun
  | [d1, d2, d3, d4, d5, d6, d7, d8] => { results := [.lit (.bool false)], args := [d1, d2, d3, d4, d5, d6, d7, d8] }
  | _ => none }
def LawS0516ARotateWrongFalsely : Prop := lawS0516ARotateRow.holds Yba.pinned (OpenSpec.ofChange lawS0516ARotateWrong)

/-- 'place.LawS0516ARoundTrip': WHATEVER THE INPUT: true; the input reads as it did. -/
def lawS0516ARoundTripSpec : ChangeSpec := { name := "lawS0516ARoundTrip", fn := fun _ => fun
  | [d1, d2, d3, d4, d5, d6, d7, d8] => { results := [.lit (.bool true)], args := [d1, d2, d3, d4, d5, d6, d7, d8] }
  | _ => none }
def lawS0516ARoundTripRow : OpenClaim := { program := "ybulkjqw", sum := "5e3daa68898d94de8e05d5d96282532b1b5f352758f2a971c5594e4ae5ae8ad6", func := "example.com/kernelweave/kernelweave/internal/place.LawS0516ARoundTrip", spec := "lawS0516ARoundTrip", plainKeys := false, apart := false }
def LawS0516ARoundTripSaid : Prop := lawS0516ARoundTripRow.holds Yba.pinned (OpenSpec.ofChange lawS0516ARoundTripSpec)

/-- ITS FALSE NEIGHBOUR: 'it returns false'. Refute it at one input. -/
def lawS0516ARoundTripWrong : ChangeSpec := { name := "lawS0516ARoundTrip", fn := fun _ => fun
  | [d1, d2, d3, d4, d5, d6, d7, d8] => { results := [.lit (.bool false)], args := [d1, d2, d3, d4, d5, d6, d7, d8] }
  | _ => none }
def LawS0516ARoundTripWrongFalsely : Prop := lawS0516ARoundTripRow.holds Yba.pinned (OpenSpec.ofChange lawS0516ARoundTripWrong)

/-- 'fleet.LawS0516BFastest': WHATEVER THE INPUT: true; the input reads as it did. -/
def lawS0516BFastestSpec : ChangeSpec := { name := "lawS0516BFastest", fn := fun _ => fun
  | [d1, d2, d3, d4, d5, d6, d7] => { results := [.lit (.bool true)], args := [d1, d2, d3, d4, d5, d6, d7] }
  | _ => none }
def lawS0516BFastestRow : OpenClaim := { program := "ybulkjqw", sum := "5e3daa68898d94de8e05d5d96282532b1b5f352758f2a971c5594e4ae5ae8ad6", func := "example.com/kernelweave/kernelweave/internal/fleet.LawS0516BFastest", spec := "lawS0516BFastest", unfollowed := true, recurses := true, plainKeys := false, apart := false }
def LawS0516BFastestSaid : Prop := lawS0516BFastestRow.holds Yba.pinned (OpenSpec.ofChange lawS0516BFastestSpec)

/-- ITS FALSE NEIGHBOUR: 'it returns false'. Refute it at one input. -/
def lawS0516BFastestWrong : ChangeSpec := { name := "lawS0516BFastest", fn := fun _ => fun
  | [d1, d2, d3, d4, d5, d6, d7] => { results := [.lit (.bool false)], args := [d1, d2, d3, d4, d5, d6, d7] }
  | _ => none }
def LawS0516BFastestWrongFalsely : Prop := lawS0516BFastestRow.holds Yba.pinned (OpenSpec.ofChange lawS0516BFastestWrong)

end Rows
end Go.Proofs.Ybulkjqw
