/-
  THE PLAIN LAW (the first fault), AND THE WALK OF (*request).fail.
-/
import Derived.Test.YbulkcxbcChecked
import Derived.Below
import Derived.WalkKit
import Derived.ProofKit
namespace Go.Proofs.Ybulkcxbc
open Go.RowKit

/-! ### The plain law: no Go in sight -/
/-- What one call of fail makes of the cause. -/
def nxt (c x : Int) : Int := if c = 0 then x else c
/-- The cause behind k calls. -/
def cur (s : Int) (z : Nat → Int) : Nat → Int
  | 0 => s
  | k + 1 => nxt (cur s z k) (z k)
theorem cur_stays (s : Int) (z : Nat → Int) (k : Nat) (h : cur s z k ≠ 0) : ∀ m, cur s z (k + m) = cur s z k
  | 0 => rfl
  | m + 1 => by
    show nxt (cur s z (k + m)) (z (k + m)) = _
    rw [cur_stays s z k h m]
    simp [nxt, h]
theorem cur_eq {s : Int} {z : Nat → Int} {k n : Nat} (hk : k ≤ n) (h : k = n ∨ cur s z k ≠ 0) : cur s z k = cur s z n := by
  rcases h with rfl | h
  · rfl
  · have := cur_stays s z k h (n - k)
    rw [show k + (n - k) = n from by omega] at this
    exact this.symm
theorem cur_bound {s : Int} {z : Nat → Int} (hs : 0 ≤ s ∧ s ≤ 255) (n : Nat) (hz : ∀ j, j < n → 0 ≤ z j ∧ z j ≤ 255) : ∀ k, k ≤ n → 0 ≤ cur s z k ∧ cur s z k ≤ 255
  | 0, _ => hs
  | k + 1, h => by
    have a := cur_bound hs n hz k (by omega)
    have b := hz k (by omega)
    show 0 ≤ nxt _ _ ∧ nxt _ _ ≤ 255
    unfold nxt
    split <;> assumption

/-- What the call of fail leaves: the cause is set; every other cell is as it was. -/
structure Failed (Q : Nat) (c : Int) (w w' : World) : Prop where
  cause : w'.cell? ⟨Q, 3, none⟩ = some (.int .u8 c)
  other : ∀ a : Addr, a ≠ ⟨Q, 3, none⟩ → w'.cell? a = w.cell? a
  frozen : ∀ a : Addr, w'.frozen? a = w.frozen? a
  below : Below Q w w'

set_option maxHeartbeats 400000 in
theorem fail_any (Q : Nat) (c x : Int) (w : World) (hc : w.cell? ⟨Q, 3, none⟩ = some (.int .u8 c)) (hf : w.frozen? ⟨Q, 3, none⟩ = false) :
    Calls Yba.prog 4 #[.pointer (some ⟨Q, 0, none⟩), .int .u8 x] w fun e w' => e = .returned (.tuple #[]) ∧ Failed Q (nxt c x) w w' := by
  by_cases h : c = 0
  · subst h
    go_enter Yba.func4, Yba.ntmps4
    go_wp2
    go_end0
    exact ⟨rfl, World.cell?_setCell_same _ _ _ hc, fun a ha => World.cell?_setCell_other _ _ _ _ (Ne.symm ha), fun a => World.frozen?_setCell _ _ _ _, Below.setCell (B := Q) (Below.refl Q w) (p := ⟨Q, 3, none⟩) (Nat.le_refl Q) _⟩
  · have e : (c == 0) = false := beq_eq_false_iff_ne.2 h
    have hn : nxt c x = c := by simp [nxt, h]
    rw [hn]
    clear hn
    go_enter Yba.func4, Yba.ntmps4
    go_wp2
    go_end0
    exact ⟨rfl, hc, fun a _ => rfl, fun a => rfl, Below.refl _ _⟩
end Go.Proofs.Ybulkcxbc
