/-
  DERIVED. GIVEN WITH THE SEED: THE PROGRAM's TIES (one call each: nine closed facts by the kernel) AND EACH ROW's TIE, after the 31st guide's Derived/Test/Toyas{Tie, Card}.lean. No idea stands in it: it is a product of the set-up. Laid BY PROGRAM, IN A SANDBOX (cutbox-door.mjs). By AI agents, Wed Nov 11 2026. No macro, syntax, notation, axiom, sorry.
-/
import Derived.Test.YbulkcxbqFmtRows
import Derived.LaidByTextLater
import Derived.SevenTiedAt
import Derived.LaidSub
import Derived.LaidOnce
namespace Go.Proofs.YbulkcxbqFmt
open Go
set_option maxRecDepth 100000
theorem seatTie1 : Ybaf.prog.laidByTextLater [("example.com/guanlian/guanlian/rules.bodies", Rows.laid_example_com_guanlian_guanlian_rules_bodies)] [.widerDeep] true :=
  Program.laidByTextLater_by_one 14 8 5 (by kernel_rfl) (by kernel_rfl) (by kernel_rfl) (by kernel_rfl) (by kernel_rfl) (by kernel_rfl) (fun _ _ => by kernel_rfl)
theorem noOwnUnsafe : Ybaf.pinned.checked.prog.headLifts.contains "ownunsafe" = false := by kernel_rfl
theorem tie : Ybaf.prog.laidByTextLater [("example.com/guanlian/guanlian/rules.bodies", Rows.laid_example_com_guanlian_guanlian_rules_bodies)] [.widerDeep] true :=
  Program.laidByTextLater.sub seatTie1 ["example.com/guanlian/guanlian/rules.bodies"] (by kernel_rfl) (by kernel_rfl)
theorem lawS4930CExact_row_tie : Rows.lawS4930CExactRow.laidByTextAt .later Ybaf.pinned [.widerDeep] true :=
  OpenClaim.laidByTextAt_later rfl rfl tie noOwnUnsafe
theorem lawS4930CPick_row_tie : Rows.lawS4930CPickRow.laidByTextAt .later Ybaf.pinned [.widerDeep] true :=
  OpenClaim.laidByTextAt_later rfl rfl tie noOwnUnsafe
end Go.Proofs.YbulkcxbqFmt
