/-
  NARROWER THAN 'FOR EVERY INPUT', by the rows' own cells (each row's printed sentence says how): LawS4930CExact: laid · LawS4930CPick: laid.
  DERIVED. THE GIVEN ROWS OF THIS SEAT. 2 by the template 'for every input the law returns true; each argument reads behind the call as it read before'; 0 by the template 'total and deterministic' (their statements: YbulkcxbqFmtTotals.lean).
  GIVEN WITH THE SEED: the statements are not yours to turn. If you find one false, say at which input.
  Laid BY PROGRAM, IN A SANDBOX (cutbox-rows.mjs): the forced cells as the released guide's own fill.sh prints them over the translation 5979ac9a8feeb2c3… (all of the seat's roots in one cut). By AI agents, Wed Nov 11 2026. No macro, syntax, notation, axiom, sorry.
-/
import Derived.Test.YbulkcxbqFmtChecked
import GoSem.Claim
import GoSem.ClaimJoined
import GoSem.ClaimMapViews
import Derived.JoinedTies
import Derived.KernelRfl
namespace Go.Proofs.YbulkcxbqFmt
/- THE CELL 'sum', in the pinned program and in every row, IS THE sha256 OF THE DUMP (.gsa) THAT YbulkcxbqFmtProg.lean LOADS. Nothing in Lean hashes anything: it is a label: what it is worth is what the hold of that sum in a sandbox is worth. -/
noncomputable def Ybaf.pinned : Pinned := { name := "ybulkcxbqfmt", sum := "5979ac9a8feeb2c3354331ff3b5280e88860cf35dd580372749a1da856ab741c", checked := Ybaf.checked }
namespace Rows
def none {H : Type} : Left H := { results := [], args := [] }

/- WHAT THE LISTED PACKAGE-LEVEL VARIABLES READ AS WHEN THE CALL BEGINS. Each datum BY PROGRAM (the guide's laid-datum.mjs) off the statement by which the dump's own 'gosem.cut.vars' lays the variable. In a bare row this is a premise. The card (YbulkcxbqFmtCards.lean) ties it to the program's text. -/
def laid_example_com_guanlian_guanlian_rules_bodies {H : Type} : DataW H := .slice [.lit (.string [103, 101, 110, 101, 114, 97, 108, 95, 109, 97, 110, 97, 103, 101, 114]), .lit (.string [99, 104, 97, 105, 114, 109, 97, 110]), .lit (.string [98, 111, 97, 114, 100]), .lit (.string [115, 104, 97, 114, 101, 104, 111, 108, 100, 101, 114, 115, 95, 109, 101, 101, 116, 105, 110, 103])] []

/-- 'rules.LawS4930CExact': WHATEVER THE INPUT: true; the input reads as it did. -/
def lawS4930CExactSpec : ChangeSpec := { name := "lawS4930CExact", vars := ["example.com/guanlian/guanlian/rules.bodies"], fn := fun _ => fun
  | [d, g1] => { results := [.lit (.bool true)], args := [d], vars := [g1] }
  | _ => none }
def lawS4930CExactRow : OpenClaim := { program := "ybulkcxbqfmt", sum := "5979ac9a8feeb2c3354331ff3b5280e88860cf35dd580372749a1da856ab741c", func := "example.com/guanlian/guanlian/rules.LawS4930CExact", spec := "lawS4930CExact", stops := ["fmt.errorf"], inPlace := ["internal/abi.NoEscape", "internal/bytealg.MakeNoZero", "fmt.errorf"], named := ["example.com/guanlian/guanlian/rules.bodies"], apart := false, laid := [("example.com/guanlian/guanlian/rules.bodies", laid_example_com_guanlian_guanlian_rules_bodies)] }
/-- NO THEOREM (fmt's text is open here; it may be false): for the released tool's asking of the row's closed facts alone. THE STATEMENT IS 'LawS4930CExactToldSaid' (YbulkcxbqFmtCards.lean). -/
def LawS4930CExactFormAsk : Prop := lawS4930CExactRow.holds Ybaf.pinned (OpenSpec.ofChange lawS4930CExactSpec)

/-- ITS FALSE NEIGHBOUR: 'it returns false'. Refute it at one input. -/
def lawS4930CExactWrong : ChangeSpec := { name := "lawS4930CExact", vars := ["example.com/guanlian/guanlian/rules.bodies"], fn := fun _ => fun
  | [d, g1] => { results := [.lit (.bool false)], args := [d], vars := [g1] }
  | _ => none }
def LawS4930CExactWrongFormAsk : Prop := lawS4930CExactRow.holds Ybaf.pinned (OpenSpec.ofChange lawS4930CExactWrong)

/-- 'rules.LawS4930CPick': WHATEVER THE INPUT: true; the input reads as it did. -/
def lawS4930CPickSpec : ChangeSpec := { name := "lawS4930CPick", vars := ["example.com/guanlian/guanlian/rules.bodies"], fn := fun _ => fun
  | [d1, d2, g1] => { results := [.lit (.bool true)], args := [d1, d2], vars := [g1] }
  | _ => none }
def lawS4930CPickRow : OpenClaim := { program := "ybulkcxbqfmt", sum := "5979ac9a8feeb2c3354331ff3b5280e88860cf35dd580372749a1da856ab741c", func := "example.com/guanlian/guanlian/rules.LawS4930CPick", spec := "lawS4930CPick", stops := ["fmt.errorf"], inPlace := ["internal/abi.NoEscape", "internal/bytealg.MakeNoZero", "fmt.errorf"], named := ["example.com/guanlian/guanlian/rules.bodies"], apart := false, laid := [("example.com/guanlian/guanlian/rules.bodies", laid_example_com_guanlian_guanlian_rules_bodies)] }
/-- NO THEOREM (fmt's text is open here; it may be false): for the released tool's asking of the row's closed facts alone. THE STATEMENT IS 'LawS4930CPickToldSaid' (YbulkcxbqFmtCards.lean). -/
def LawS4930CPickFormAsk : Prop := lawS4930CPickRow.holds Ybaf.pinned (OpenSpec.ofChange lawS4930CPickSpec)

/-- ITS FALSE NEIGHBOUR: 'it returns false'. Refute it at one input. -/
def lawS4930CPickWrong : ChangeSpec := { name := "lawS4930CPick", vars := ["example.com/guanlian/guanlian/rules.bodies"], fn := fun _ => fun
  | [d1, d2, g1] => { results := [.lit (.bool false)], args := [d1, d2], vars := [g1] }
  | _ => none }
def LawS4930CPickWrongFormAsk : Prop := lawS4930CPickRow.holds Ybaf.pinned (OpenSpec.ofChange lawS4930CPickWrong)

end Rows
end Go.Proofs.YbulkcxbqFmt
