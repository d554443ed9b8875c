/-
  DERIVED. GIVEN WITH THE SEED: THE CARDS: each row of YbulkcwzmDoorRows.lean that lists a variable, with what it lists TIED to the program's text (the seventh form; the later family's looks); each row that meets fmt, with fmt's text TOLD by the authors' own Lean function (tested against real Go, not proved from fmt's source: count such statements apart). THE CARD IS WHAT COUNTS. Prove the row's statement (the work); the ties are given (YbulkcwzmDoorTie.lean); close each card by the builder's one call (the guide's Derived/Test/ToyasCard.lean, 'card_holds'). Laid BY PROGRAM, IN A SANDBOX (cutbox-door.mjs). By AI agents, Wed Nov 11 2026. No macro, syntax, notation, axiom, sorry.
-/
import Derived.Test.YbulkcwzmDoorRows
import GoSem.ClaimSeven
namespace Go.Proofs.YbulkcwzmDoor
namespace Rows

/-- THE TIED CARD OF 'gatewright.LawS4926CText'. -/
def lawS4926CTextCard : Claim7 := { stood := { row := lawS4926CTextRow, standIns := [], harness := (true, "0f1d762f8725bd3720d6d0cdb0c4be52788468fdf1b14f37231c6010aef9167a"), looks := false }, kinds := [], alts := [], laidByText := true, laidKinds := [.data, .data, .data], laidTests := true, laidLooks := .later }
def LawS4926CTextCardSaid : Prop := Claim7.holds Ybad.pinned (.plain (OpenSpec.ofChange lawS4926CTextSpec)) lawS4926CTextCard

/-- THE TIED CARD OF 'gatewright.LawS4926CString'. -/
def lawS4926CStringCard : Claim7 := { stood := { row := lawS4926CStringRow, standIns := [], harness := (true, "0f1d762f8725bd3720d6d0cdb0c4be52788468fdf1b14f37231c6010aef9167a"), looks := false }, kinds := [], alts := [], laidByText := true, laidKinds := [.data, .data, .data], laidTests := true, laidLooks := .later }
def LawS4926CStringCardSaid : Prop := Claim7.holds Ybad.pinned (.plain (OpenSpec.ofChange lawS4926CStringSpec)) lawS4926CStringCard
end Rows
end Go.Proofs.YbulkcwzmDoor
