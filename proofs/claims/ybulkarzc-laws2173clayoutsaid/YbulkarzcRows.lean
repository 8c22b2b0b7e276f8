/-
  No cell of these rows narrows 'for every input' (looked for: loops, veiled, ifaces, maps, wideKeys, modest, calm, conditions, laid).
  DERIVED. THE GIVEN ROWS OF THIS SEAT. 2 by the template 'for every input the law returns true; each argument reads behind the call as it read before'; 0 by the template 'total and deterministic' (their statements: YbulkarzcTotals.lean).
  GIVEN WITH THE SEED: the statements are not yours to turn. If you find one false, say at which input.
  Laid BY PROGRAM, IN A SANDBOX (cutbox-rows.mjs): the forced cells as the released guide's own fill.sh prints them over the translation f51b6437e4852463… (all of the seat's roots in one cut). By AI agents, Wed Nov 11 2026. No macro, syntax, notation, axiom, sorry.
-/
import Derived.Test.YbulkarzcChecked
import GoSem.Claim
import GoSem.ClaimJoined
import GoSem.ClaimMapViews
import Derived.JoinedTies
import Derived.KernelRfl
namespace Go.Proofs.Ybulkarzc
/- THE CELL 'sum', in the pinned program and in every row, IS THE sha256 OF THE DUMP (.gsa) THAT YbulkarzcProg.lean LOADS. Nothing in Lean hashes anything: it is a label: what it is worth is what the hold of that sum in a sandbox is worth. -/
noncomputable def Yba.pinned : Pinned := { name := "ybulkarzc", sum := "f51b6437e48524639734ddd5eaa96efb3c2736e25670a6336d22718b1be9efdd", checked := Yba.checked }
namespace Rows
def none {H : Type} : Left H := { results := [], args := [] }

/-- 'wal.LawS2173CLayout': WHATEVER THE INPUT: true; the input reads as it did. -/
def lawS2173CLayoutSpec : ChangeSpec := { name := "lawS2173CLayout", fn := fun _ => fun
  | [d1, d2, d3] => { results := [.lit (.bool true)], args := [d1, d2, d3] }
  | _ => none }
def lawS2173CLayoutRow : OpenClaim := { program := "ybulkarzc", sum := "f51b6437e48524639734ddd5eaa96efb3c2736e25670a6336d22718b1be9efdd", func := "example.com/bitacora/bitacora/internal/wal.LawS2173CLayout", spec := "lawS2173CLayout", apart := false }
def LawS2173CLayoutSaid : Prop := lawS2173CLayoutRow.holds Yba.pinned (OpenSpec.ofChange lawS2173CLayoutSpec)

/-- ITS FALSE NEIGHBOUR: 'it returns false'. Refute it at one input. -/
def lawS2173CLayoutWrong : ChangeSpec := { name := "lawS2173CLayout", fn := fun _ => fun
  | [d1, d2, d3] => { results := [.lit (.bool false)], args := [d1, d2, d3] }
  | _ => none }
def LawS2173CLayoutWrongFalsely : Prop := lawS2173CLayoutRow.holds Yba.pinned (OpenSpec.ofChange lawS2173CLayoutWrong)

/-- 'wal.LawS2173CShort': WHATEVER THE INPUT: true; the input reads as it did. -/
def lawS2173CShortSpec : ChangeSpec := { name := "lawS2173CShort", fn := fun _ => fun
  | [d1, d2] => { results := [.lit (.bool true)], args := [d1, d2] }
  | _ => none }
def lawS2173CShortRow : OpenClaim := { program := "ybulkarzc", sum := "f51b6437e48524639734ddd5eaa96efb3c2736e25670a6336d22718b1be9efdd", func := "example.com/bitacora/bitacora/internal/wal.LawS2173CShort", spec := "lawS2173CShort", apart := false }
def LawS2173CShortSaid : Prop := lawS2173CShortRow.holds Yba.pinned (OpenSpec.ofChange lawS2173CShortSpec)

/-- ITS FALSE NEIGHBOUR: 'it returns false'. Refute it at one input. -/
def lawS2173CShortWrong : ChangeSpec := { name := "lawS2173CShort", fn := fun _ => fun
  | [d1, d2] => { results := [.lit (.bool false)], args := [d1, d2] }
  | _ => none }
def LawS2173CShortWrongFalsely : Prop := lawS2173CShortRow.holds Yba.pinned (OpenSpec.ofChange lawS2173CShortWrong)

end Rows
end Go.Proofs.Ybulkarzc
