/-
  THE WALKS OF LawS4930CExact AND LawS4930CPick.
-/
import Derived.Test.YbulkcxbqFmtParse
import Derived.WideShapes
namespace Go.Proofs.YbulkcxbqFmt
open Go.Extern.Stop Go.Stop Go.Extern Go.RowKit

set_option maxHeartbeats 1600000 in
theorem exact_any (F : Interp) (s : ByteArray) (w : World) (bk off cap : Nat) (hs : s.size ≤ 9223372036854775807) (hF : F.answers w.tape) (hB : Bodies w bk off cap) :
    Calls Ybaf.prog 3 #[.string s] w fun e w' => e = .returned (.bool true) ∧ Below w.heap.size w w' := by
  by_cases hl : 4096 < s.size
  · have d1 : (4096 : Int) < (s.size : Int) := by omega
    go_enter Ybaf.func3, Ybaf.ntmps3
    go_wp2
    go_ret
    exact ⟨rfl, Below.refl _ _⟩
  · have d1 : ¬ (4096 : Int) < (s.size : Int) := by omega
    cases hk : known s with
    | true =>
      have hp := parse_yes s w bk off cap hB hk
      have hn := known_any s w
      rw [hk] at hn
      clear hk hB hF
      go_enter Ybaf.func3, Ybaf.ntmps3
      go_wp2_with (first | (go_at_call 5; refine hp.mono ?_; rintro e w' ⟨rfl, rfl⟩) | (go_at_call 6; refine hn.mono ?_; rintro e w' ⟨rfl, rfl⟩))
      go_ret
      exact ⟨by simp, Below.refl _ _⟩
    | false =>
      have hp := parse_no F s w bk off cap hF hB hk
      have hn := known_any s
      rw [hk] at hn
      clear hk hB hF
      go_enter Ybaf.func3, Ybaf.ntmps3
      go_wp2_with (first | (go_at_call 5; refine hp.mono ?_; rintro e w' ⟨x, rfl, hb⟩) | (go_at_call 6; refine (hn _).mono ?_; rintro e w' ⟨rfl, rfl⟩))
      go_ret
      exact ⟨by simp, by assumption⟩

theorem app_data (a b : ByteArray) : (a ++ b).data.toList = a.data.toList ++ b.data.toList := by simp
/-- None of the four names goes on to be another: a name with more behind it is no name. -/
theorem known_app (nm s : ByteArray) (h : nm = gm ∨ nm = ch ∨ nm = bo ∨ nm = sm) (hs : ¬ s = ⟨#[]⟩) : known (nm ++ s) = false := by
  rw [Bool.eq_false_iff]
  intro hk
  have e := (known_iff _).1 hk
  have hl : s.data.toList ≠ [] := fun h0 => hs ((str_eq_iff s []).1 (by rw [ByteArray.toList_eq]; exact h0))
  have eq : ∀ x : ByteArray, nm ++ s = x → nm.data.toList ++ s.data.toList = x.data.toList := fun x hx => by rw [← app_data, hx]
  generalize s.data.toList = l at hl eq
  rcases h with rfl | rfl | rfl | rfl <;> rcases e with h | h | h | h <;> (have h2 := eq _ h; simp [gm, ch, bo, sm] at h2; try exact hl h2)
theorem app_none (nm s : ByteArray) (hs : s = ⟨#[]⟩) : nm ++ s = nm := by
  subst hs
  have : (nm ++ (⟨#[]⟩ : ByteArray)).data.toList = nm.data.toList := by rw [app_data]; simp
  exact WideShapes.bytes_inj this

/-- The array of names that the law lays. -/
def arr : Obj := .cells #[.string gm, .string ch, .string bo, .string sm] 27

set_option maxHeartbeats 1600000 in
theorem pick0 (F : Interp) (k : Int) (hk0 : 0 ≤ k) (hk1 : k ≤ 255) (hk : k % 4 = 0) (s : ByteArray) (w : World) (bk off cap : Nat) (hs : s.size ≤ 4096) (hF : F.answers w.tape) (hB : Bodies w bk off cap) :
    Calls Ybaf.prog 4 #[.int .u8 k, .string s] w fun e w' => e = .returned (.bool true) ∧ Below w.heap.size w w' := by
  have d1 : ¬ (4096 : Int) < (s.size : Int) := by omega
  have hb1 : Below w.heap.size w (w.alloc arr) := (Below.refl _ _).alloc (Nat.le_refl _) _
  have hB1 : Bodies (w.alloc arr) bk off cap := hB.below hb1
  have hp : Calls Ybaf.prog 5 #[.string ⟨#[103, 101, 110, 101, 114, 97, 108, 95, 109, 97, 110, 97, 103, 101, 114]⟩] (w.alloc arr) fun e w' => e = .returned (.tuple #[.string ⟨#[103, 101, 110, 101, 114, 97, 108, 95, 109, 97, 110, 97, 103, 101, 114]⟩, .nilIface]) ∧ w' = w.alloc arr := parse_yes gm (w.alloc arr) bk off cap hB1 ((known_iff _).2 (.inl rfl))
  have HB1 := Lib.hid hb1
  by_cases he : s = ⟨#[]⟩
  · have b0 : (s.toList == []) = true := str_yes he
    have ea : (⟨#[103, 101, 110, 101, 114, 97, 108, 95, 109, 97, 110, 97, 103, 101, 114]⟩ : ByteArray) ++ s = ⟨#[103, 101, 110, 101, 114, 97, 108, 95, 109, 97, 110, 97, 103, 101, 114]⟩ := app_none _ s he
    have HE := Lib.hid ea
    clear ea he hb1 hB1 hB hF
    go_enter Ybaf.func4, Ybaf.ntmps4
    go_wp2_with fail
    refine hp.mono ?_
    rintro e w1 ⟨rfl, rfl⟩
    go_wp2_with fail
    rw [HE.out]
    refine hp.mono ?_
    rintro e w1 ⟨rfl, rfl⟩
    go_wp2
    go_ret
    exact ⟨by simp, HB1.out⟩
  · have b0 : (s.toList == []) = false := str_no he
    have hq := parse_no F (⟨#[103, 101, 110, 101, 114, 97, 108, 95, 109, 97, 110, 97, 103, 101, 114]⟩ ++ s) (w.alloc arr) bk off cap hF hB1 (known_app gm s (.inl rfl) he)
    clear he hb1 hB1 hB hF
    go_enter Ybaf.func4, Ybaf.ntmps4
    go_wp2_with fail
    refine hp.mono ?_
    rintro e w1 ⟨rfl, rfl⟩
    go_wp2_with fail
    refine hq.mono ?_
    rintro e w1 ⟨x, rfl, hb2⟩
    go_wp2
    go_ret
    exact ⟨by simp, HB1.out.trans (hb2.mono HB1.out.size)⟩

set_option maxHeartbeats 1600000 in
theorem pick1 (F : Interp) (k : Int) (hk0 : 0 ≤ k) (hk1 : k ≤ 255) (hk : k % 4 = 1) (s : ByteArray) (w : World) (bk off cap : Nat) (hs : s.size ≤ 4096) (hF : F.answers w.tape) (hB : Bodies w bk off cap) :
    Calls Ybaf.prog 4 #[.int .u8 k, .string s] w fun e w' => e = .returned (.bool true) ∧ Below w.heap.size w w' := by
  have d1 : ¬ (4096 : Int) < (s.size : Int) := by omega
  have hb1 : Below w.heap.size w (w.alloc arr) := (Below.refl _ _).alloc (Nat.le_refl _) _
  have hB1 : Bodies (w.alloc arr) bk off cap := hB.below hb1
  have hp : Calls Ybaf.prog 5 #[.string ⟨#[99, 104, 97, 105, 114, 109, 97, 110]⟩] (w.alloc arr) fun e w' => e = .returned (.tuple #[.string ⟨#[99, 104, 97, 105, 114, 109, 97, 110]⟩, .nilIface]) ∧ w' = w.alloc arr := parse_yes ch (w.alloc arr) bk off cap hB1 ((known_iff _).2 (.inr (.inl rfl)))
  have HB1 := Lib.hid hb1
  by_cases he : s = ⟨#[]⟩
  · have b0 : (s.toList == []) = true := str_yes he
    have ea : (⟨#[99, 104, 97, 105, 114, 109, 97, 110]⟩ : ByteArray) ++ s = ⟨#[99, 104, 97, 105, 114, 109, 97, 110]⟩ := app_none _ s he
    have HE := Lib.hid ea
    clear ea he hb1 hB1 hB hF
    go_enter Ybaf.func4, Ybaf.ntmps4
    go_wp2_with fail
    refine hp.mono ?_
    rintro e w1 ⟨rfl, rfl⟩
    go_wp2_with fail
    rw [HE.out]
    refine hp.mono ?_
    rintro e w1 ⟨rfl, rfl⟩
    go_wp2
    go_ret
    exact ⟨by simp, HB1.out⟩
  · have b0 : (s.toList == []) = false := str_no he
    have hq := parse_no F (⟨#[99, 104, 97, 105, 114, 109, 97, 110]⟩ ++ s) (w.alloc arr) bk off cap hF hB1 (known_app ch s (.inr (.inl rfl)) he)
    clear he hb1 hB1 hB hF
    go_enter Ybaf.func4, Ybaf.ntmps4
    go_wp2_with fail
    refine hp.mono ?_
    rintro e w1 ⟨rfl, rfl⟩
    go_wp2_with fail
    refine hq.mono ?_
    rintro e w1 ⟨x, rfl, hb2⟩
    go_wp2
    go_ret
    exact ⟨by simp, HB1.out.trans (hb2.mono HB1.out.size)⟩

set_option maxHeartbeats 1600000 in
theorem pick2 (F : Interp) (k : Int) (hk0 : 0 ≤ k) (hk1 : k ≤ 255) (hk : k % 4 = 2) (s : ByteArray) (w : World) (bk off cap : Nat) (hs : s.size ≤ 4096) (hF : F.answers w.tape) (hB : Bodies w bk off cap) :
    Calls Ybaf.prog 4 #[.int .u8 k, .string s] w fun e w' => e = .returned (.bool true) ∧ Below w.heap.size w w' := by
  have d1 : ¬ (4096 : Int) < (s.size : Int) := by omega
  have hb1 : Below w.heap.size w (w.alloc arr) := (Below.refl _ _).alloc (Nat.le_refl _) _
  have hB1 : Bodies (w.alloc arr) bk off cap := hB.below hb1
  have hp : Calls Ybaf.prog 5 #[.string ⟨#[98, 111, 97, 114, 100]⟩] (w.alloc arr) fun e w' => e = .returned (.tuple #[.string ⟨#[98, 111, 97, 114, 100]⟩, .nilIface]) ∧ w' = w.alloc arr := parse_yes bo (w.alloc arr) bk off cap hB1 ((known_iff _).2 (.inr (.inr (.inl rfl))))
  have HB1 := Lib.hid hb1
  by_cases he : s = ⟨#[]⟩
  · have b0 : (s.toList == []) = true := str_yes he
    have ea : (⟨#[98, 111, 97, 114, 100]⟩ : ByteArray) ++ s = ⟨#[98, 111, 97, 114, 100]⟩ := app_none _ s he
    have HE := Lib.hid ea
    clear ea he hb1 hB1 hB hF
    go_enter Ybaf.func4, Ybaf.ntmps4
    go_wp2_with fail
    refine hp.mono ?_
    rintro e w1 ⟨rfl, rfl⟩
    go_wp2_with fail
    rw [HE.out]
    refine hp.mono ?_
    rintro e w1 ⟨rfl, rfl⟩
    go_wp2
    go_ret
    exact ⟨by simp, HB1.out⟩
  · have b0 : (s.toList == []) = false := str_no he
    have hq := parse_no F (⟨#[98, 111, 97, 114, 100]⟩ ++ s) (w.alloc arr) bk off cap hF hB1 (known_app bo s (.inr (.inr (.inl rfl))) he)
    clear he hb1 hB1 hB hF
    go_enter Ybaf.func4, Ybaf.ntmps4
    go_wp2_with fail
    refine hp.mono ?_
    rintro e w1 ⟨rfl, rfl⟩
    go_wp2_with fail
    refine hq.mono ?_
    rintro e w1 ⟨x, rfl, hb2⟩
    go_wp2
    go_ret
    exact ⟨by simp, HB1.out.trans (hb2.mono HB1.out.size)⟩

set_option maxHeartbeats 1600000 in
theorem pick3 (F : Interp) (k : Int) (hk0 : 0 ≤ k) (hk1 : k ≤ 255) (hk : k % 4 = 3) (s : ByteArray) (w : World) (bk off cap : Nat) (hs : s.size ≤ 4096) (hF : F.answers w.tape) (hB : Bodies w bk off cap) :
    Calls Ybaf.prog 4 #[.int .u8 k, .string s] w fun e w' => e = .returned (.bool true) ∧ Below w.heap.size w w' := by
  have d1 : ¬ (4096 : Int) < (s.size : Int) := by omega
  have hb1 : Below w.heap.size w (w.alloc arr) := (Below.refl _ _).alloc (Nat.le_refl _) _
  have hB1 : Bodies (w.alloc arr) bk off cap := hB.below hb1
  have hp : Calls Ybaf.prog 5 #[.string ⟨#[115, 104, 97, 114, 101, 104, 111, 108, 100, 101, 114, 115, 95, 109, 101, 101, 116, 105, 110, 103]⟩] (w.alloc arr) fun e w' => e = .returned (.tuple #[.string ⟨#[115, 104, 97, 114, 101, 104, 111, 108, 100, 101, 114, 115, 95, 109, 101, 101, 116, 105, 110, 103]⟩, .nilIface]) ∧ w' = w.alloc arr := parse_yes sm (w.alloc arr) bk off cap hB1 ((known_iff _).2 (.inr (.inr (.inr (rfl)))))
  have HB1 := Lib.hid hb1
  by_cases he : s = ⟨#[]⟩
  · have b0 : (s.toList == []) = true := str_yes he
    have ea : (⟨#[115, 104, 97, 114, 101, 104, 111, 108, 100, 101, 114, 115, 95, 109, 101, 101, 116, 105, 110, 103]⟩ : ByteArray) ++ s = ⟨#[115, 104, 97, 114, 101, 104, 111, 108, 100, 101, 114, 115, 95, 109, 101, 101, 116, 105, 110, 103]⟩ := app_none _ s he
    have HE := Lib.hid ea
    clear ea he hb1 hB1 hB hF
    go_enter Ybaf.func4, Ybaf.ntmps4
    go_wp2_with fail
    refine hp.mono ?_
    rintro e w1 ⟨rfl, rfl⟩
    go_wp2_with fail
    rw [HE.out]
    refine hp.mono ?_
    rintro e w1 ⟨rfl, rfl⟩
    go_wp2
    go_ret
    exact ⟨by simp, HB1.out⟩
  · have b0 : (s.toList == []) = false := str_no he
    have hq := parse_no F (⟨#[115, 104, 97, 114, 101, 104, 111, 108, 100, 101, 114, 115, 95, 109, 101, 101, 116, 105, 110, 103]⟩ ++ s) (w.alloc arr) bk off cap hF hB1 (known_app sm s (.inr (.inr (.inr (rfl)))) he)
    clear he hb1 hB1 hB hF
    go_enter Ybaf.func4, Ybaf.ntmps4
    go_wp2_with fail
    refine hp.mono ?_
    rintro e w1 ⟨rfl, rfl⟩
    go_wp2_with fail
    refine hq.mono ?_
    rintro e w1 ⟨x, rfl, hb2⟩
    go_wp2
    go_ret
    exact ⟨by simp, HB1.out.trans (hb2.mono HB1.out.size)⟩

theorem pick_any (F : Interp) (k : Int) (hk0 : 0 ≤ k) (hk1 : k ≤ 255) (s : ByteArray) (w : World) (bk off cap : Nat) (hs : s.size ≤ 9223372036854775807) (hF : F.answers w.tape) (hB : Bodies w bk off cap) :
    Calls Ybaf.prog 4 #[.int .u8 k, .string s] w fun e w' => e = .returned (.bool true) ∧ Below w.heap.size w w' := by
  by_cases hl : 4096 < s.size
  · have d1 : (4096 : Int) < (s.size : Int) := by omega
    go_enter Ybaf.func4, Ybaf.ntmps4
    go_wp2
    go_ret
    exact ⟨rfl, Below.refl _ _⟩
  · have hs' : s.size ≤ 4096 := by omega
    have h4 : k % 4 = 0 ∨ k % 4 = 1 ∨ k % 4 = 2 ∨ k % 4 = 3 := by omega
    rcases h4 with h | h | h | h
    · exact pick0 F k hk0 hk1 h s w bk off cap hs' hF hB
    · exact pick1 F k hk0 hk1 h s w bk off cap hs' hF hB
    · exact pick2 F k hk0 hk1 h s w bk off cap hs' hF hB
    · exact pick3 F k hk0 hk1 h s w bk off cap hs' hF hB
end Go.Proofs.YbulkcxbqFmt
