/-
  WHAT THE LISTED VARIABLE GIVES, AND THE ROWS OF THE TWO LAWS, fmt's TEXT TOLD.
-/
import Derived.Test.YbulkcxbqFmtRows
import Derived.Test.YbulkcxbqFmtTie
import Derived.Test.YbulkcxbqFmtCards
import Derived.Test.YbulkcxbqFmtLaw
import Derived.ProofKit
import Derived.LaidMore
import Derived.OpenShut
import Derived.Carry
import Derived.WalkSmall
import Derived.SliceStrings
import Derived.Stop.JoinedTold
import Derived.SevenTiedAt
import Derived.Deep.DeepWitnessRef
namespace Go.Proofs.YbulkcxbqFmt
open Go.ChangeShapes Go.WideShapes Go.ChangeAt Go.RowKit
open Go.WideMaps Go.WideElems
open Go.ChangeMaps (open_string shut_string)
open Go.Extern.Stop Go.Stop Go.Extern

theorem own : ownKnob Ybaf.prog.godebug = none := by kernel_rfl
theorem laidOut : laidOutB Ybaf.prog = true := by kernel_rfl
theorem cells9 : Ybaf.prog.cellsOf 9 = 1 := by kernel_rfl
/-- The variable's name. -/
def vname : String := Rows.lawS4930CExactSpec.vars.headD ""
theorem gB : Ybaf.prog.globalNamed vname = some 0 := by kernel_rfl
theorem tB : (Ybaf.prog.globals[0]?).map (·.type) = some 30 := by kernel_rfl
abbrev laid1 : List (String × DataW Unit) := Rows.lawS4930CExactRow.laid

/-- The door's own heap meets the condition. -/
theorem door_met (os : Os) (args : Array Value) : laidMetH Ybaf.prog laid1 ((World.doorLaid Ybaf.prog 14 os).forCall (fun _ _ => 0) ⟨#[], args, []⟩).memory :=
  laidMetH_of_parts3 (fuel := 8) (laidMet_of_run' 8 (by kernel_rfl) (by kernel_rfl)) (by kernel_rfl) (by kernel_rfl)

theorem four_of (ss : List ByteArray) (h : strs (H := Unit) ss = strs four) : ss = four := by
  unfold strs at h
  refine List.map_inj_right ?_ |>.1 h
  intro a b e
  simp only [DataW.lit.injEq, Lit.string.injEq] at e
  exact WideShapes.bytes_inj e

/-- FROM THE ROW's CONDITION TO WHAT THE WALKS ASK. -/
theorem of_laid {W : World} (h : laidMetH Ybaf.prog laid1 W) : ∃ bk off cap, Bodies W bk off cap ∧ W.var? Ybaf.prog vname = some #[.slice (some ⟨bk, off, none⟩) 4 cap] := by
  rw [MakeChecks.laidMetH_plain _ _ _ (by kernel_rfl)] at h
  obtain ⟨ps, ⟨g, t, cs, fuel, p, q, hg, ht, hv, hd, _, _⟩, _, _⟩ := h
  obtain rfl := Option.some.inj (gB.symm.trans hg)
  obtain rfl := Option.some.inj (tB.symm.trans ht)
  rcases open_strings Ybaf.underlying30 Ybaf.underlying9 cells9 hd with ⟨_, hx⟩ | ⟨a, len, cap, ss, hcs, _, hl, hm, hz, hx, hcell, _⟩
  · have hx1 := congrArg Prod.fst hx
    cases hx1
  · have hd1 : DataW.slice (strs (H := Unit) four) [] = DataW.slice (strs (ss.take len)) (strs (ss.drop len)) := congrArg Prod.fst hx
    injection hd1 with hx1 hx2
    have hx1' : strs (H := Unit) (ss.take len) = strs four := hx1.symm
    have hx2' : ([] : List (DataW Unit)) = strs (ss.drop len) := hx2
    have h4 := four_of _ hx1'
    have hdr : ss.drop len = [] := by
      have := congrArg List.length hx2'
      simp [strs] at this
      exact List.drop_eq_nil_of_le (by omega)
    have hss : ss = four := by
      have := List.take_append_drop len ss
      rw [h4, hdr] at this
      simpa using this.symm
    subst hss
    have hlen : len = 4 := by
      have e1 : four.length = 4 := rfl
      have := congrArg List.length h4
      rw [List.length_take, e1] at this
      have hle : len ≤ 4 := by
        rw [e1] at hz
        split at hz <;> omega
      omega
    subst hlen
    obtain ⟨bk, off, spot⟩ := a
    have hc0 := hcell 0 (by decide)
    have hspot : spot = none := by simpa [Addr.add] using World.cell?_spot hc0
    subst hspot
    have hcs' : cs = #[.slice (some ⟨bk, off, none⟩) 4 cap] := Array.eq_one_of_toList hcs
    have hv0 := World.var?_cell hg hv 0
    rw [hcs'] at hv hv0
    have hv0' : W.cell? ⟨0, 0, none⟩ = some (.slice (some ⟨bk, off, none⟩) 4 cap) := by simpa using hv0
    refine ⟨bk, off, cap, ⟨hv0', hl, World.block_lt_of_cell? W _ hc0, World.block_lt_of_cell? W _ hv0', fun j hj => ?_⟩, hv⟩
    rw [← add_plain]
    exact hcell j hj
end Go.Proofs.YbulkcxbqFmt
