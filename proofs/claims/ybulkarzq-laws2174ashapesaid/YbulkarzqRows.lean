/-
  No cell of these rows narrows 'for every input' (looked for: loops, veiled, ifaces, maps, wideKeys, modest, calm, conditions, laid).
  DERIVED. THE GIVEN ROWS OF THIS SEAT. 2 by the template 'for every input the law returns true; each argument reads behind the call as it read before'; 0 by the template 'total and deterministic' (their statements: YbulkarzqTotals.lean).
  GIVEN WITH THE SEED: the statements are not yours to turn. If you find one false, say at which input.
  Laid BY PROGRAM, IN A SANDBOX (cutbox-rows.mjs): the forced cells as the released guide's own fill.sh prints them over the translation 4b460e5c863bd411… (all of the seat's roots in one cut). By AI agents, Wed Nov 11 2026. No macro, syntax, notation, axiom, sorry.
-/
import Derived.Test.YbulkarzqChecked
import GoSem.Claim
import GoSem.ClaimJoined
import GoSem.ClaimMapViews
import Derived.JoinedTies
import Derived.KernelRfl
namespace Go.Proofs.Ybulkarzq
/- THE CELL 'sum', in the pinned program and in every row, IS THE sha256 OF THE DUMP (.gsa) THAT YbulkarzqProg.lean LOADS. Nothing in Lean hashes anything: it is a label: what it is worth is what the hold of that sum in a sandbox is worth. -/
noncomputable def Yba.pinned : Pinned := { name := "ybulkarzq", sum := "4b460e5c863bd411821a8e3a078be633401e759be2bf9651fa9640dbd743fe97", checked := Yba.checked }
namespace Rows
def none {H : Type} : Left H := { results := [], args := [] }

/-- 'jsonval.LawS2174ARoundTrip': WHATEVER THE INPUT: true; the input reads as it did. -/
def lawS2174ARoundTripSpec : ChangeSpec := { name := "lawS2174ARoundTrip", fn := fun _ => fun
  | [d1, d2, d3, d4] => { results := [.lit (.bool true)], args := [d1, d2, d3, d4] }
  | _ => none }
def lawS2174ARoundTripRow : OpenClaim := { program := "ybulkarzq", sum := "4b460e5c863bd411821a8e3a078be633401e759be2bf9651fa9640dbd743fe97", func := "example.com/astrolabe/astrolabe/internal/jsonval.LawS2174ARoundTrip", spec := "lawS2174ARoundTrip", recurses := true, apart := false }
def LawS2174ARoundTripSaid : Prop := lawS2174ARoundTripRow.holds Yba.pinned (OpenSpec.ofChange lawS2174ARoundTripSpec)

/-- ITS FALSE NEIGHBOUR: 'it returns false'. Refute it at one input. -/
def lawS2174ARoundTripWrong : ChangeSpec := { name := "lawS2174ARoundTrip", fn := fun _ => fun
  | [d1, d2, d3, d4] => { results := [.lit (.bool false)], args := [d1, d2, d3, d4] }
  | _ => none }
def LawS2174ARoundTripWrongFalsely : Prop := lawS2174ARoundTripRow.holds Yba.pinned (OpenSpec.ofChange lawS2174ARoundTripWrong)

/-- 'jsonval.LawS2174AShape': WHATEVER THE INPUT: true; the input reads as it did. -/
def lawS2174AShapeSpec : ChangeSpec := { name := "lawS2174AShape", fn := fun _ => fun
  | [d] => { results := [.lit (.bool true)], args := [d] }
  | _ => none }
def lawS2174AShapeRow : OpenClaim := { program := "ybulkarzq", sum := "4b460e5c863bd411821a8e3a078be633401e759be2bf9651fa9640dbd743fe97", func := "example.com/astrolabe/astrolabe/internal/jsonval.LawS2174AShape", spec := "lawS2174AShape", recurses := true, apart := false }
def LawS2174AShapeSaid : Prop := lawS2174AShapeRow.holds Yba.pinned (OpenSpec.ofChange lawS2174AShapeSpec)

/-- ITS FALSE NEIGHBOUR: 'it returns false'. Refute it at one input. -/
def lawS2174AShapeWrong : ChangeSpec := { name := "lawS2174AShape", fn := fun _ => fun
  | [d] => { results := [.lit (.bool false)], args := [d] }
  | _ => none }
def LawS2174AShapeWrongFalsely : Prop := lawS2174AShapeRow.holds Yba.pinned (OpenSpec.ofChange lawS2174AShapeWrong)

end Rows
end Go.Proofs.Ybulkarzq
