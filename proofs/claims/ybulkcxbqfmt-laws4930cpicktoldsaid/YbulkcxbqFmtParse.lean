/-
  THE WALKS OF ParseBody AND zzs4930cknown.
-/
import Derived.Test.YbulkcxbqFmtShelf
import Derived.Test.YbulkcxbqFmtErrorf
import Derived.Lib.SlicesS
import Derived.Lib.Hide
namespace Go.Proofs.YbulkcxbqFmt
open Go.Extern.Stop Go.Stop Go.Extern Go.RowKit

def gm : ByteArray := ⟨#[103, 101, 110, 101, 114, 97, 108, 95, 109, 97, 110, 97, 103, 101, 114]⟩
def ch : ByteArray := ⟨#[99, 104, 97, 105, 114, 109, 97, 110]⟩
def bo : ByteArray := ⟨#[98, 111, 97, 114, 100]⟩
def sm : ByteArray := ⟨#[115, 104, 97, 114, 101, 104, 111, 108, 100, 101, 114, 115, 95, 109, 101, 101, 116, 105, 110, 103]⟩
/-- The four approving bodies. -/
def four : List ByteArray := [gm, ch, bo, sm]
def known (s : ByteArray) : Bool := Lib.containsS four s

/-- What the variable 'bodies' holds. -/
structure Bodies (w : World) (bk off cap : Nat) : Prop where
  var : w.cell? ⟨0, 0, none⟩ = some (.slice (some ⟨bk, off, none⟩) 4 cap)
  cap : 4 ≤ cap
  lt : bk < w.heap.size
  pos : 0 < w.heap.size
  cells : ∀ j, j < 4 → w.cell? ⟨bk, off + j, none⟩ = some (.string (four.getD j ByteArray.empty))

theorem Bodies.below {w w' : World} {bk off cap : Nat} (h : Bodies w bk off cap) (hb : Below w.heap.size w w') : Bodies w' bk off cap :=
  ⟨by rw [hb.cell (p := ⟨0, 0, none⟩) h.pos]; exact h.var, h.cap, Nat.lt_of_lt_of_le h.lt hb.size, Nat.lt_of_lt_of_le h.pos hb.size, fun j hj => by rw [hb.cell (p := ⟨bk, off + j, none⟩) h.lt]; exact h.cells j hj⟩

theorem contains_at {w : World} {bk off cap : Nat} (h : Bodies w bk off cap) (s : ByteArray) :
    Calls Ybaf.prog 7 #[.slice (some ⟨bk, off, none⟩) 4 cap, .string s] w fun e w' => e = .returned (.bool (known s)) ∧ w' = w :=
  Ybaf.slices_Contains_string bk off 4 cap four s w (by decide) (by decide) h.cells

theorem join_at {w : World} {bk off cap : Nat} (h : Bodies w bk off cap) :
    Calls Ybaf.prog 9 #[.slice (some ⟨bk, off, none⟩) 4 cap, .string ⟨#[44, 32]⟩] w fun e w' => ∃ j, e = .returned (.string j) ∧ Below w.heap.size w w' := by
  refine (Ybaf.strings_Join bk off cap four ⟨#[44, 32]⟩ w (fun j x hj => ?_) h.lt (by decide) h.cap ?_).mono ?_
  · have hj4 : j < 4 := (List.getElem?_eq_some_iff.1 hj).1
    rw [h.cells j hj4, List.getD_eq_getElem?_getD, hj]
    rfl
  · decide +kernel
  · rintro e w' ⟨rfl, hb⟩
    exact ⟨_, rfl, hb⟩

set_option maxHeartbeats 1600000 in
theorem parse_yes (s : ByteArray) (w : World) (bk off cap : Nat) (hB : Bodies w bk off cap) (hk : known s = true) :
    Calls Ybaf.prog 5 #[.string s] w fun e w' => e = .returned (.tuple #[.string s, .nilIface]) ∧ w' = w := by
  have hc := contains_at hB s
  rw [hk] at hc
  have hv := hB.var
  have hp := hB.pos
  clear hB hk
  go_enter Ybaf.func5, Ybaf.ntmps5
  go_wp2_with (go_at_call 7; refine hc.mono ?_; rintro e w' ⟨rfl, rfl⟩)
  go_ret2
  exact ⟨rfl, rfl⟩

set_option maxHeartbeats 1600000 in
theorem parse_no (F : Interp) (s : ByteArray) (w : World) (bk off cap : Nat) (hF : F.answers w.tape) (hB : Bodies w bk off cap) (hk : known s = false) :
    Calls Ybaf.prog 5 #[.string s] w fun e w' => ∃ x, e = .returned (.tuple #[.string ⟨#[]⟩, .iface 45 x]) ∧ Below w.heap.size w w' := by
  have hc := contains_at hB s
  rw [hk] at hc
  have hj := join_at hB
  have hv := hB.var
  have hp := hB.pos
  clear hB hk
  go_enter Ybaf.func5, Ybaf.ntmps5
  go_wp2_with (first | (go_at_call 7; refine hc.mono ?_; rintro e w' ⟨rfl, rfl⟩) | (go_at_call 9; refine hj.mono ?_; rintro e w1 ⟨j, rfl, hb1⟩; refine Hid.out ?_))
  refine Lib.hid ?_
  have hF1 : F.answers (w1.alloc (.cells #[.iface 9 (.string s), .iface 9 (.string j)] 20)).tape := by
    show F.answers w1.tape
    rw [hb1.tape]; exact hF
  have he := errorf_any F s j w1.heap.size (w1.alloc (.cells #[.iface 9 (.string s), .iface 9 (.string j)] 20)) hF1 (by simp) (by simp)
  have HB1 := Lib.hid hb1
  have hsz := hb1.size
  clear hb1 hF1 hc hj
  go_wp2_with (go_at_call 8; refine he.mono ?_; rintro e w2 ⟨x, rfl, hb2⟩)
  go_ret2
  refine ⟨x, rfl, (HB1.out.alloc hsz _).trans (hb2.mono ?_)⟩
  simp
  omega

/-- zzs4930cknown: is it one of the four? -/
theorem known_iff (s : ByteArray) : known s = true ↔ s = gm ∨ s = ch ∨ s = bo ∨ s = sm := by
  rw [known, Lib.containsS_iff]
  simp [four]

/-- Two strings are the same where their bytes are. -/
theorem str_eq_iff (s : ByteArray) (l : List UInt8) : s.toList = l ↔ s = ⟨l.toArray⟩ := by
  rw [ByteArray.toList_eq]
  constructor
  · intro h
    cases s
    simp at h
    subst h
    rfl
  · rintro rfl
    rfl
theorem str_yes {s : ByteArray} {l : List UInt8} (h : s = ⟨l.toArray⟩) : (s.toList == l) = true := by
  rw [beq_iff_eq]; exact (str_eq_iff s l).2 h
theorem str_no {s : ByteArray} {l : List UInt8} (h : ¬ s = ⟨l.toArray⟩) : (s.toList == l) = false := by
  rw [beq_eq_false_iff_ne]; exact fun e => h ((str_eq_iff s l).1 e)

set_option maxHeartbeats 1600000 in
theorem known_any (s : ByteArray) (w : World) : Calls Ybaf.prog 6 #[.string s] w fun e w' => e = .returned (.bool (known s)) ∧ w' = w := by
  by_cases h1 : s = gm
  · have hk : known s = true := (known_iff s).2 (.inl h1)
    have b1 : (s.toList == [103, 101, 110, 101, 114, 97, 108, 95, 109, 97, 110, 97, 103, 101, 114]) = true := str_yes h1
    rw [hk]
    clear hk h1
    go_enter Ybaf.func6, Ybaf.ntmps6
    go_wp2
    go_ret
    exact ⟨rfl, rfl⟩
  · have b1 : (s.toList == [103, 101, 110, 101, 114, 97, 108, 95, 109, 97, 110, 97, 103, 101, 114]) = false := str_no h1
    by_cases h2 : s = ch
    · have hk : known s = true := (known_iff s).2 (.inr (.inl h2))
      have b2 : (s.toList == [99, 104, 97, 105, 114, 109, 97, 110]) = true := str_yes h2
      rw [hk]
      clear hk h1 h2
      go_enter Ybaf.func6, Ybaf.ntmps6
      go_wp2
      go_ret
      exact ⟨rfl, rfl⟩
    · have b2 : (s.toList == [99, 104, 97, 105, 114, 109, 97, 110]) = false := str_no h2
      by_cases h3 : s = bo
      · have hk : known s = true := (known_iff s).2 (.inr (.inr (.inl h3)))
        have b3 : (s.toList == [98, 111, 97, 114, 100]) = true := str_yes h3
        rw [hk]
        clear hk h1 h2 h3
        go_enter Ybaf.func6, Ybaf.ntmps6
        go_wp2
        go_ret
        exact ⟨rfl, rfl⟩
      · have b3 : (s.toList == [98, 111, 97, 114, 100]) = false := str_no h3
        by_cases h4 : s = sm
        · have hk : known s = true := (known_iff s).2 (.inr (.inr (.inr h4)))
          have b4 : (s.toList == [115, 104, 97, 114, 101, 104, 111, 108, 100, 101, 114, 115, 95, 109, 101, 101, 116, 105, 110, 103]) = true := str_yes h4
          rw [hk]
          clear hk h1 h2 h3 h4
          go_enter Ybaf.func6, Ybaf.ntmps6
          go_wp2
          go_ret
          exact ⟨rfl, rfl⟩
        · have hk : known s = false := by
            rw [Bool.eq_false_iff]
            intro h
            rcases (known_iff s).1 h with h | h | h | h <;> contradiction
          have b4 : (s.toList == [115, 104, 97, 114, 101, 104, 111, 108, 100, 101, 114, 115, 95, 109, 101, 101, 116, 105, 110, 103]) = false := str_no h4
          rw [hk]
          clear hk h1 h2 h3 h4
          go_enter Ybaf.func6, Ybaf.ntmps6
          go_wp2
          go_ret
          exact ⟨rfl, rfl⟩
end Go.Proofs.YbulkcxbqFmt
