/-
  No cell of these rows narrows 'for every input' (looked for: loops, veiled, ifaces, maps, wideKeys, modest, calm, conditions, laid).
  DERIVED. THE GIVEN ROWS OF THIS SEAT. 1 by the template 'for every input the law returns true; each argument reads behind the call as it read before'; 0 by the template 'total and deterministic' (their statements: YbulkcxbcTotals.lean).
  GIVEN WITH THE SEED: the statements are not yours to turn. If you find one false, say at which input.
  Laid BY PROGRAM, IN A SANDBOX (cutbox-rows.mjs): the forced cells as the released guide's own fill.sh prints them over the translation 498359e0c7e002e6… (all of the seat's roots in one cut). By AI agents, Wed Nov 11 2026. No macro, syntax, notation, axiom, sorry.
-/
import Derived.Test.YbulkcxbcChecked
import GoSem.Claim
import GoSem.ClaimJoined
import GoSem.ClaimMapViews
import Derived.JoinedTies
import Derived.KernelRfl
namespace Go.Proofs.Ybulkcxbc
/- THE CELL 'sum', in the pinned program and in every row, IS THE sha256 OF THE DUMP (.gsa) THAT YbulkcxbcProg.lean LOADS. Nothing in Lean hashes anything: it is a label: what it is worth is what the hold of that sum in a sandbox is worth. -/
noncomputable def Yba.pinned : Pinned := { name := "ybulkcxbc", sum := "498359e0c7e002e6444c8387fc049786d706b1314a6b48407486ee0f445dcfd4", checked := Yba.checked }
namespace Rows
def none {H : Type} : Left H := { results := [], args := [] }

/-- 'ggsn.LawS4929BFirstFault': WHATEVER THE INPUT: true; the input reads as it did. -/
def lawS4929BFirstFaultSpec : ChangeSpec := { name := "lawS4929BFirstFault", fn := fun _ => fun
  | [d1, d2, d3] => { results := [.lit (.bool true)], args := [d1, d2, d3] }
  | _ => none }
def lawS4929BFirstFaultRow : OpenClaim := { program := "ybulkcxbc", sum := "498359e0c7e002e6444c8387fc049786d706b1314a6b48407486ee0f445dcfd4", func := "example.com/tunnelwright/tunnelwright/ggsn.LawS4929BFirstFault", spec := "lawS4929BFirstFault", apart := false }
def LawS4929BFirstFaultSaid : Prop := lawS4929BFirstFaultRow.holds Yba.pinned (OpenSpec.ofChange lawS4929BFirstFaultSpec)

/-- ITS FALSE NEIGHBOUR: 'it returns false'. Refute it at one input. -/
def lawS4929BFirstFaultWrong : ChangeSpec := { name := "lawS4929BFirstFault", fn := fun _ => fun
  | [d1, d2, d3] => { results := [.lit (.bool false)], args := [d1, d2, d3] }
  | _ => none }
def LawS4929BFirstFaultWrongFalsely : Prop := lawS4929BFirstFaultRow.holds Yba.pinned (OpenSpec.ofChange lawS4929BFirstFaultWrong)

end Rows
end Go.Proofs.Ybulkcxbc
