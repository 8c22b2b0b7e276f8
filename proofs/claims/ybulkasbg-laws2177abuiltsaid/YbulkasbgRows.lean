/-
  No cell of these rows narrows 'for every input' (looked for: loops, veiled, ifaces, maps, wideKeys, modest, calm, conditions, laid).
  DERIVED. THE GIVEN ROWS OF THIS SEAT. 2 by the template 'for every input the law returns true; each argument reads behind the call as it read before'; 0 by the template 'total and deterministic' (their statements: YbulkasbgTotals.lean).
  GIVEN WITH THE SEED: the statements are not yours to turn. If you find one false, say at which input.
  Laid BY PROGRAM, IN A SANDBOX (cutbox-rows.mjs): the forced cells as the released guide's own fill.sh prints them over the translation b728bc29320f1f5d… (all of the seat's roots in one cut). By AI agents, Wed Nov 11 2026. No macro, syntax, notation, axiom, sorry.
-/
import Derived.Test.YbulkasbgChecked
import GoSem.Claim
import GoSem.ClaimJoined
import GoSem.ClaimMapViews
import Derived.JoinedTies
import Derived.KernelRfl
namespace Go.Proofs.Ybulkasbg
/- THE CELL 'sum', in the pinned program and in every row, IS THE sha256 OF THE DUMP (.gsa) THAT YbulkasbgProg.lean LOADS. Nothing in Lean hashes anything: it is a label: what it is worth is what the hold of that sum in a sandbox is worth. -/
noncomputable def Yba.pinned : Pinned := { name := "ybulkasbg", sum := "b728bc29320f1f5db721fcd266b5b82fefb710f6decd4774229859fded6fc093", checked := Yba.checked }
namespace Rows
def none {H : Type} : Left H := { results := [], args := [] }

/-- 'paxos.LawS2177ASpec': WHATEVER THE INPUT: true; the input reads as it did. -/
def lawS2177ASpecSpec : ChangeSpec := { name := "lawS2177ASpec", fn := fun _ => fun
  | [d] => { results := [.lit (.bool true)], args := [d] }
  | _ => none }
def lawS2177ASpecRow : OpenClaim := { program := "ybulkasbg", sum := "b728bc29320f1f5db721fcd266b5b82fefb710f6decd4774229859fded6fc093", func := "example.com/quorate/quorate/paxos.LawS2177ASpec", spec := "lawS2177ASpec", apart := false }
def LawS2177ASpecSaid : Prop := lawS2177ASpecRow.holds Yba.pinned (OpenSpec.ofChange lawS2177ASpecSpec)

/-- ITS FALSE NEIGHBOUR: 'it returns false'. Refute it at one input. -/
def lawS2177ASpecWrong : ChangeSpec := { name := "lawS2177ASpec", fn := fun _ => fun
  | [d] => { results := [.lit (.bool false)], args := [d] }
  | _ => none }
def LawS2177ASpecWrongFalsely : Prop := lawS2177ASpecRow.holds Yba.pinned (OpenSpec.ofChange lawS2177ASpecWrong)

/-- 'paxos.LawS2177ABuilt': WHATEVER THE INPUT: true; the input reads as it did. -/
def lawS2177ABuiltSpec : ChangeSpec := { name := "lawS2177ABuilt", fn := fun _ => fun
  | [d1, d2] => { results := [.lit (.bool true)], args := [d1, d2] }
  | _ => none }
def lawS2177ABuiltRow : OpenClaim := { program := "ybulkasbg", sum := "b728bc29320f1f5db721fcd266b5b82fefb710f6decd4774229859fded6fc093", func := "example.com/quorate/quorate/paxos.LawS2177ABuilt", spec := "lawS2177ABuilt", apart := false }
def LawS2177ABuiltSaid : Prop := lawS2177ABuiltRow.holds Yba.pinned (OpenSpec.ofChange lawS2177ABuiltSpec)

/-- ITS FALSE NEIGHBOUR: 'it returns false'. Refute it at one input. -/
def lawS2177ABuiltWrong : ChangeSpec := { name := "lawS2177ABuilt", fn := fun _ => fun
  | [d1, d2] => { results := [.lit (.bool false)], args := [d1, d2] }
  | _ => none }
def LawS2177ABuiltWrongFalsely : Prop := lawS2177ABuiltRow.holds Yba.pinned (OpenSpec.ofChange lawS2177ABuiltWrong)

end Rows
end Go.Proofs.Ybulkasbg
