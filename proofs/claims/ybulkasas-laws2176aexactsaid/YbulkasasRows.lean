/-
  No cell of these rows narrows 'for every input' (looked for: loops, veiled, ifaces, maps, wideKeys, modest, calm, conditions, laid).
  DERIVED. THE GIVEN ROWS OF THIS SEAT. 2 by the template 'for every input the law returns true; each argument reads behind the call as it read before'; 0 by the template 'total and deterministic' (their statements: YbulkasasTotals.lean).
  GIVEN WITH THE SEED: the statements are not yours to turn. If you find one false, say at which input.
  Laid BY PROGRAM, IN A SANDBOX (cutbox-rows.mjs): the forced cells as the released guide's own fill.sh prints them over the translation ff03a7b27f88ec7f… (all of the seat's roots in one cut). By AI agents, Wed Nov 11 2026. No macro, syntax, notation, axiom, sorry.
-/
import Derived.Test.YbulkasasChecked
import GoSem.Claim
import GoSem.ClaimJoined
import GoSem.ClaimMapViews
import Derived.JoinedTies
import Derived.KernelRfl
namespace Go.Proofs.Ybulkasas
/- THE CELL 'sum', in the pinned program and in every row, IS THE sha256 OF THE DUMP (.gsa) THAT YbulkasasProg.lean LOADS. Nothing in Lean hashes anything: it is a label: what it is worth is what the hold of that sum in a sandbox is worth. -/
noncomputable def Yba.pinned : Pinned := { name := "ybulkasas", sum := "ff03a7b27f88ec7f41a8643f932c72421cdf37d4de149bb15be0037bb9ffc8bd", checked := Yba.checked }
namespace Rows
def none {H : Type} : Left H := { results := [], args := [] }

/-- 'advice.LawS2176AExact': WHATEVER THE INPUT: true; the input reads as it did. -/
def lawS2176AExactSpec : ChangeSpec := { name := "lawS2176AExact", fn := fun _ => fun
  | [d1, d2] => { results := [.lit (.bool true)], args := [d1, d2] }
  | _ => none }
def lawS2176AExactRow : OpenClaim := { program := "ybulkasas", sum := "ff03a7b27f88ec7f41a8643f932c72421cdf37d4de149bb15be0037bb9ffc8bd", func := "example.com/headroom/headroom/advice.LawS2176AExact", spec := "lawS2176AExact", apart := false }
def LawS2176AExactSaid : Prop := lawS2176AExactRow.holds Yba.pinned (OpenSpec.ofChange lawS2176AExactSpec)

/-- ITS FALSE NEIGHBOUR: 'it returns false'. Refute it at one input. -/
def lawS2176AExactWrong : ChangeSpec := { name := "lawS2176AExact", fn := fun _ => fun
  | [d1, d2] => { results := [.lit (.bool false)], args := [d1, d2] }
  | _ => none }
def LawS2176AExactWrongFalsely : Prop := lawS2176AExactRow.holds Yba.pinned (OpenSpec.ofChange lawS2176AExactWrong)

/-- 'advice.LawS2176ASymmetricBounded': WHATEVER THE INPUT: true; the input reads as it did. -/
def lawS2176ASymmetricBoundedSpec : ChangeSpec := { name := "lawS2176ASymmetricBounded", fn := fun _ => fun
  | [d1, d2] => { results := [.lit (.bool true)], args := [d1, d2] }
  | _ => none }
def lawS2176ASymmetricBoundedRow : OpenClaim := { program := "ybulkasas", sum := "ff03a7b27f88ec7f41a8643f932c72421cdf37d4de149bb15be0037bb9ffc8bd", func := "example.com/headroom/headroom/advice.LawS2176ASymmetricBounded", spec := "lawS2176ASymmetricBounded", apart := false }
def LawS2176ASymmetricBoundedSaid : Prop := lawS2176ASymmetricBoundedRow.holds Yba.pinned (OpenSpec.ofChange lawS2176ASymmetricBoundedSpec)

/-- ITS FALSE NEIGHBOUR: 'it returns false'. Refute it at one input. -/
def lawS2176ASymmetricBoundedWrong : ChangeSpec := { name := "lawS2176ASymmetricBounded", fn := fun _ => fun
  | [d1, d2] => { results := [.lit (.bool false)], args := [d1, d2] }
  | _ => none }
def LawS2176ASymmetricBoundedWrongFalsely : Prop := lawS2176ASymmetricBoundedRow.holds Yba.pinned (OpenSpec.ofChange lawS2176ASymmetricBoundedWrong)

end Rows
end Go.Proofs.Ybulkasas
