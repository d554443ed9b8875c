/-
  DERIVED. GIVEN WITH THE SEED: THE CARDS: each row of YbulkcxbqFmtRows.lean that lists a variable, with what it lists TIED to the program's text (the seventh form; the later family's looks); each row that meets fmt, with fmt's text TOLD by the authors' own Lean function (tested against real Go, not proved from fmt's source: count such statements apart). THE CARD IS WHAT COUNTS. Prove the row's statement (the work); the ties are given (YbulkcxbqFmtTie.lean); close each card by the builder's one call (the guide's Derived/Test/ToyasCard.lean, 'card_holds'). Laid BY PROGRAM, IN A SANDBOX (cutbox-door.mjs). By AI agents, Wed Nov 11 2026. No macro, syntax, notation, axiom, sorry.
-/
import Derived.Test.YbulkcxbqFmtRows
import GoSem.ClaimSeven
namespace Go.Proofs.YbulkcxbqFmt
namespace Rows

/-- THE TOLD AND TIED CARD OF 'rules.LawS4930CExact'. -/
def lawS4930CExactCard : Claim7 := { stood := { row := lawS4930CExactRow, standIns := [], harness := (true, "fd4acc3e2795856fd437b74d9920cf5bc3bb515de4f81b5e9d3042530b51bbf1"), looks := false }, told := true, laidByText := true, laidKinds := [.widerDeep], laidTests := true, laidLooks := .later, goes := false }
def LawS4930CExactToldSaid : Prop := Claim7.holds Ybaf.pinned (.plain (OpenSpec.ofChange lawS4930CExactSpec)) lawS4930CExactCard
/-- ITS FALSE NEIGHBOUR. Refute it at one input. -/
def LawS4930CExactToldWrongFalsely : Prop := Claim7.holds Ybaf.pinned (.plain (OpenSpec.ofChange lawS4930CExactWrong)) lawS4930CExactCard

/-- THE TOLD AND TIED CARD OF 'rules.LawS4930CPick'. -/
def lawS4930CPickCard : Claim7 := { stood := { row := lawS4930CPickRow, standIns := [], harness := (true, "fd4acc3e2795856fd437b74d9920cf5bc3bb515de4f81b5e9d3042530b51bbf1"), looks := false }, told := true, laidByText := true, laidKinds := [.widerDeep], laidTests := true, laidLooks := .later, goes := false }
def LawS4930CPickToldSaid : Prop := Claim7.holds Ybaf.pinned (.plain (OpenSpec.ofChange lawS4930CPickSpec)) lawS4930CPickCard
/-- ITS FALSE NEIGHBOUR. Refute it at one input. -/
def LawS4930CPickToldWrongFalsely : Prop := Claim7.holds Ybaf.pinned (.plain (OpenSpec.ofChange lawS4930CPickWrong)) lawS4930CPickCard
end Rows
end Go.Proofs.YbulkcxbqFmt
