/-
  LawS4930CExact: THE ROW, fmt's TEXT TOLD, AND THE CARD, TOLD AND TIED.
-/
import Derived.Test.YbulkcxbqFmtRow
namespace Go.Proofs.YbulkcxbqFmt
open Go.ChangeShapes Go.WideShapes Go.ChangeAt Go.RowKit
open Go.WideMaps Go.WideElems
open Go.ChangeMaps (open_string shut_string)
open Go.Extern.Stop Go.Stop Go.Extern

set_option maxRecDepth 100000 in
set_option maxHeartbeats 1600000 in
theorem exact_lifted (os : Os) (started : os.Started) (H : Type) (enc : TypeId × Value → H) :
    ReturnsInTold none {} Ybaf.checked os 3 .any Input.okWide ((OpenSpec.ofChange Rows.lawS4930CExactSpec).preRow enc Ybaf.prog Ybaf.f3 [] false laid1) (fun F => ((OpenSpec.ofChange Rows.lawS4930CExactSpec).at F).post enc Ybaf.prog Ybaf.f3 false true false false) (aloneAtReturn Ybaf.prog) nothingAlways := by
  refine returnsInTold_of_row (C := Ybaf.checked) (s := OpenSpec.ofChange Rows.lawS4930CExactSpec) (by kernel_rfl) own started (by kernel_rfl) Ybaf.func3
    (OpenSpec.witness_stopped_atRef (enc := enc) (C := Ybaf.checked) false (World.doorLaid Ybaf.prog 14 os) #[.string ByteArray.empty] rfl (by kernel_rfl) (by kernel_rfl) (by kernel_rfl)
      (OpenSpec.preRow_of_B rfl 8 (by kernel_rfl) (by kernel_rfl) (door_met os _))) ?_
  intro F W base args ds gs before _ hF hval0 hW _ _ _ hL _
  have hval : ∀ (j : Nat) t v, Ybaf.f3.params[j]? = some t → args[j]? = some v → Value.okWide Ybaf.prog W .any base t v := hval0
  have hW' := hW
  obtain ⟨p, q, hA0, hV0, rfl, hfz, hnd⟩ := hW
  have hA : DataW.TrodAll enc Ybaf.prog W 0 (fun _ => true) true Ybaf.f3.params.toList args.toList ds p := hA0
  have hV : DataW.TrodVars enc Ybaf.prog W (fun _ => true) [vname] gs q := hV0
  rw [Ybaf.params3] at hA hval
  obtain ⟨v0, d0, rfl, rfl, h0⟩ := trodAll_one hA
  obtain ⟨s, rfl, rfl, rfl, ws⟩ := open_string Ybaf.underlying9 (hval 0 9 v0 rfl rfl) h0
  obtain ⟨bk, off, cap, hB, hvar⟩ := of_laid hL
  obtain ⟨g, t, cs, fuel, d, p', rfl, hg, ht, hvar', hd, rfl⟩ := trodVars_one hV
  obtain rfl := Option.some.inj (gB.symm.trans hg)
  obtain rfl := Option.some.inj (tB.symm.trans ht)
  obtain rfl := Option.some.inj (hvar.symm.trans hvar')
  clear hA0 hV0 hval0
  have hltp : ∀ x ∈ p', x.block < W.heap.size := fun x hx => by simpa using hW'.lt x (by simp [hx])
  have hT : DataW.Trod enc Ybaf.prog W 0 (fun _ => true) true 30 (.slice (some ⟨bk, off, none⟩) 4 cap) d p' := ⟨fuel, by simpa [Value.cells] using hd⟩
  refine (exact_any F.told s W bk off cap ws hF hB).mono fun e W' ⟨he, hbel⟩ => ?_
  subst he
  obtain ⟨fuel', hd'⟩ := Below.trod laidOut (by kernel_rfl) (of_decide_eq_true (by kernel_rfl)) hT hbel hltp
  have hv' := var?_below hbel gB hB.pos hvar
  have hVs := trodVars_mk1 (enc := enc) (spare := fun b => decide (b < W.heap.size)) gB tB hv' (fuel := fuel') (d := d) (p := p') (by simpa [Value.cells] using hd')
  exact ⟨_, rfl, _, _, _, [], [], _, hW', trodAll_mk1 (shut_bool Ybaf.underlying4 _), trodAll_mk1 (shut_string Ybaf.underlying9 ws), hVs, hbel.frame _, fun h => by cases h⟩

theorem stopsE : Ybaf.pinned.checked.prog.stops = ["fmt.errorf"] := by kernel_rfl
theorem stopKnobs : Ybaf.pinned.checked.prog.stopKnobs = [] := by kernel_rfl
theorem quiet (os : Os) : Stop.quiet Ybaf.pinned.checked.prog os := by
  intro k hk
  rw [stopKnobs] at hk
  cases hk

/-- THE STATEMENT: the card, told and tied. -/
theorem exact_card : Rows.LawS4930CExactToldSaid :=
  Claim7.holds_of_told_tied_any_at .later (p := Ybaf.pinned) (s := OpenSpec.ofChange Rows.lawS4930CExactSpec) (c := Rows.lawS4930CExactRow) 3 Ybaf.f3 "fmt.errorf" [] [] (true, "fd4acc3e2795856fd437b74d9920cf5bc3bb515de4f81b5e9d3042530b51bbf1") false false [.widerDeep] true
    (by kernel_rfl) rfl rfl rfl laidOut (by kernel_rfl) rfl ⟨rfl, rfl, rfl, rfl, rfl, rfl, rfl⟩ rfl rfl (by kernel_rfl) (by kernel_rfl) Ybaf.func3 (by kernel_rfl)
    (of_decide_eq_true (by kernel_rfl)) (by unfold Func.isWrapper; first | (rw [if_pos (by decide +kernel)]; kernel_rfl) | (rw [if_neg (by decide +kernel)]; exact ⟨rfl, rfl⟩)) stopsE.symm rfl stopKnobs.symm (by kernel_rfl)
    (by kernel_rfl) (by kernel_rfl) (by kernel_rfl) (by kernel_rfl) (by kernel_rfl) (by kernel_rfl) (by kernel_rfl) (by kernel_rfl) (by kernel_rfl) rfl (by kernel_rfl) rfl rfl
    rfl rfl
    rfl (by kernel_rfl) (by kernel_rfl) (by kernel_rfl) (by decide) (by kernel_rfl) lawS4930CExact_row_tie
    (OpenClaim.moreEntering_of (by kernel_rfl) (by kernel_rfl) (by kernel_rfl) (by kernel_rfl) (by kernel_rfl) (by kernel_rfl) (by kernel_rfl) (by kernel_rfl) (by kernel_rfl) (by kernel_rfl))
    ⟨_, WideRow.started_initial, quiet _⟩
    (fun os started _ H enc _ => exact_lifted os started H enc)
end Go.Proofs.YbulkcxbqFmt
