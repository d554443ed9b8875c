/-
  THE ROW OF LawS4929BFirstFault PROVED.
-/
import Derived.Test.YbulkcxbcRows
import Derived.Test.YbulkcxbcLaw
import Derived.ProofKit
import Derived.OpenShut
import Derived.Carry
import Derived.SliceStrings
namespace Go.Proofs.Ybulkcxbc
open Go.ChangeShapes Go.WideShapes Go.ChangeAt Go.RowKit
open Go.WideMaps Go.WideElems

theorem own : ownKnob Yba.prog.godebug = none := by kernel_rfl
theorem laidOut : laidOutB Yba.prog = true := by kernel_rfl
theorem cells5 : Yba.prog.cellsOf 5 = 1 := by kernel_rfl
theorem cells9 : Yba.prog.cellsOf 9 = 1 := by kernel_rfl

theorem causes_of {H : Type} {enc : TypeId × Value → H} {W : World} {d : DataW H} {p : List MemPlace} {a0 : Option Addr} {len cap : Nat}
    (h : DataW.Trod enc Yba.prog W 0 (fun _ => true) true 22 (.slice a0 len cap) d p) (hlt : ∀ x ∈ p, x.block < W.heap.size) : ∃ z, Causes W a0 len z := by
  obtain ⟨fuel, hf⟩ := h
  rcases open_ints Yba.underlying22 Yba.underlying5 cells5 hf with ⟨hcs, _⟩ | ⟨a, len', cap', zs, hcs, _, hl, _, hz, hx, hcell, _⟩
  · simp [Value.cells] at hcs
    obtain ⟨rfl, rfl, rfl⟩ := hcs
    exact ⟨fun _ => 0, fun h => absurd h (by omega)⟩
  · simp [Value.cells] at hcs
    obtain ⟨rfl, rfl, rfl⟩ := hcs
    simp only [Prod.mk.injEq] at hx
    obtain ⟨rfl, rfl⟩ := hx
    simp only [if_true] at hz
    refine ⟨fun j => zs.getD j 0, fun h0 => ?_⟩
    obtain ⟨b, off, spot⟩ := a
    have hspot : spot = none := by simpa [Addr.add] using World.cell?_spot (hcell 0 (by omega))
    subst hspot
    exact ⟨b, off, rfl, hlt (.cell b off) (MemPlace.mem_row.2 ⟨0, by omega, by simp⟩), fun j hj => by rw [← add_plain]; exact hcell j (by omega)⟩

theorem names_of {H : Type} {enc : TypeId × Value → H} {W : World} {d : DataW H} {p : List MemPlace} {a0 : Option Addr} {len cap : Nat}
    (h : DataW.Trod enc Yba.prog W 0 (fun _ => true) true 23 (.slice a0 len cap) d p) (hlt : ∀ x ∈ p, x.block < W.heap.size) :
    (a0 = none ∧ len = 0 ∧ cap = 0) ∨ ∃ na ss, a0 = some na ∧ Names W na len ss := by
  obtain ⟨fuel, hf⟩ := h
  rcases open_strings Yba.underlying23 Yba.underlying9 cells9 hf with ⟨hcs, _⟩ | ⟨a, len', cap', ss, hcs, _, hl, _, hz, hx, hcell, _⟩
  · simp [Value.cells] at hcs
    obtain ⟨rfl, rfl, rfl⟩ := hcs
    exact .inl ⟨rfl, rfl, rfl⟩
  · simp [Value.cells] at hcs
    obtain ⟨rfl, rfl, rfl⟩ := hcs
    simp only [Prod.mk.injEq] at hx
    obtain ⟨rfl, rfl⟩ := hx
    simp only [if_true] at hz
    refine .inr ⟨a, fun j => ss.getD j ByteArray.empty, rfl, fun h0 => ?_⟩
    obtain ⟨b, off, spot⟩ := a
    have hspot : spot = none := by simpa [Addr.add] using World.cell?_spot (hcell 0 (by omega))
    subst hspot
    exact ⟨b, off, rfl, hlt (.cell b off) (MemPlace.mem_row.2 ⟨0, by omega, by simp⟩), fun j hj => by rw [← add_plain]; exact hcell j (by omega)⟩

theorem law_any (s : Int) (hs : 0 ≤ s ∧ s ≤ 255) (ca : Option Addr) (cl cc : Nat) (na : Option Addr) (n nc : Nat) (w : World) (hca : ∃ z, Causes w ca cl z) (hna : (na = none ∧ n = 0 ∧ nc = 0) ∨ ∃ a ss, na = some a ∧ Names w a n ss) :
    Calls Yba.prog 3 #[.int .u8 s, .slice ca cl cc, .slice na n nc] w fun e w' => e = .returned (.bool true) ∧ Below w.heap.size w w' := by
  by_cases hl : 1024 < cl ∨ 1024 < n
  · exact law_long s ca cl cc na n nc hl w
  · obtain ⟨z, hz⟩ := hca
    rcases hna with ⟨rfl, rfl, rfl⟩ | ⟨a, ss, rfl, hn⟩
    · exact law_nil s hs ca cl cc z (by omega) w hz
    · exact law_some s hs ca cl cc z (by omega) a n nc (by omega) ss w hz hn

set_option maxRecDepth 100000 in
theorem lifted (os : Os) (started : os.Started) (H : Type) (enc : TypeId × Value → H) :
    ReturnsInHanded {} Yba.checked os 3 .any (Rows.lawS4929BFirstFaultSpec.pre6 enc Yba.prog Yba.f3 Rows.lawS4929BFirstFaultRow.domain false) (Rows.lawS4929BFirstFaultSpec.post enc Yba.prog Yba.f3 false true false false) := by
  refine returnsInHanded_of_change (C := Yba.checked) own started (by kernel_rfl) Yba.func3
    (ChangeSpec.witness6 (enc := enc) (C := Yba.checked) false ⟨#[], #[.int .u8 0, .slice none 0 0, .slice none 0 0], []⟩ 8 (by kernel_rfl) (by kernel_rfl) (by kernel_rfl) (by kernel_rfl)) ?_
  intro W base args ds gs before hval0 hW hcnd _
  have hval : ∀ (j : Nat) t v, Yba.f3.params[j]? = some t → args[j]? = some v → Value.okWide Yba.prog W .any base t v := hval0
  have hW' := hW
  obtain ⟨p, q, hA0, hV, rfl, hfz, hnd⟩ := hW
  have hA : DataW.TrodAll enc Yba.prog W 0 (fun _ => true) true Yba.f3.params.toList args.toList ds p := hA0
  rw [Yba.params3] at hA hval
  obtain ⟨v0, v1, v2, d0, d1, d2, p0, p1, p2, rfl, rfl, rfl, h0, h1, h2⟩ := trodAll_three hA
  obtain ⟨rfl, rfl⟩ := trodVars_none hV
  obtain ⟨s, rfl, rfl, rfl, ws⟩ := open_int Yba.underlying5 (hval 0 5 v0 rfl rfl) h0
  obtain ⟨a1, len1, cap1, rfl⟩ := okWide_slice Yba.underlying22 (hval 1 22 v1 rfl rfl)
  obtain ⟨a2, len2, cap2, rfl⟩ := okWide_slice Yba.underlying23 (hval 2 23 v2 rfl rfl)
  clear hA0 hval0
  simp only [List.append_nil] at hW'
  have hlt : ∀ x ∈ [] ++ (p1 ++ p2), x.block < W.heap.size := fun x hx => by simpa using hW'.lt x (by simpa using hx)
  have hlt1 : ∀ x ∈ p1, x.block < W.heap.size := fun x hx => hlt x (by simp [hx])
  have hlt2 : ∀ x ∈ p2, x.block < W.heap.size := fun x hx => hlt x (by simp [hx])
  refine (law_any s (bounds_u8 ws) a1 len1 cap1 a2 len2 cap2 W (causes_of h1 hlt1) (names_of h2 hlt2)).mono fun e W' ⟨he, hbel⟩ => ?_
  subst he
  refine ⟨_, rfl, _, _, _, [], [] ++ (p1 ++ p2), [], hW', trodAll_mk1 (shut_bool Yba.underlying4 _), ?_, rfl, hbel.frame _, fun h => by cases h⟩
  exact trodAll_mk3 (shut_int Yba.underlying5 ws) (Below.trod laidOut (by kernel_rfl) (of_decide_eq_true (by kernel_rfl)) h1 hbel hlt1) (Below.trod laidOut (by kernel_rfl) (of_decide_eq_true (by kernel_rfl)) h2 hbel hlt2)

/-- THE STATEMENT. -/
theorem row_holds : Rows.LawS4929BFirstFaultSaid :=
  OpenClaim.holds_of_wide 3 Yba.f3 rfl rfl rfl rfl rfl rfl rfl ⟨rfl, rfl, rfl, rfl, rfl⟩ rfl rfl rfl rfl rfl (by kernel_rfl) Yba.func3 (by kernel_rfl)
    (of_decide_eq_true (by kernel_rfl)) (by unfold Func.isWrapper; first | (rw [if_pos (by decide +kernel)]; kernel_rfl) | (rw [if_neg (by decide +kernel)]; exact ⟨rfl, rfl⟩))
    (fun os started H enc _ => lifted os started H enc)
end Go.Proofs.Ybulkcxbc
