/-
  THE WALKS OF RequestID.appendText, RequestID.String, THE MODEL's OTHER CASES, AND THE LAW LawS4926CString.
-/
import Derived.Test.YbulkcwzmDoorModel
import Derived.Laws.IdiomStrings
import Derived.Deep.RegionWith
namespace Go.Proofs.YbulkcwzmDoor
open Go.Shelf Go.RowKit Go.Sort

theorem bytes_one (w : World) (t : TypeId) (c : UInt8) : Bytes (w.alloc (.cells #[.int .u8 (c.toNat : Int)] t)) w.heap.size [c] := fun j hj => by
  have : j = 0 := by simpa using hj
  subst this
  simp

set_option maxHeartbeats 1600000 in
set_option maxRecDepth 100000 in
/-- zzs4926cmodel, every number. -/
theorem model_any (v : Nat) (h1 : v < 4294967296) (w : World) :
    Calls Ybad.prog 6 #[.int .u32 v] w fun e w' =>
      ∃ h, e = .returned (.slice (some ⟨h, 0, none⟩) (txt v).length (txt v).length) ∧ Bytes w' h (txt v) ∧ Below w.heap.size w w' := by
  by_cases hs : v = 4294967295
  · subst hs
    have ht : txt 4294967295 = [42] := by simp [txt]
    rw [ht]
    have hb := bytes_one w 5 42
    go_enter Ybad.func6, Ybad.ntmps6
    go_wp2
    go_ret
    exact ⟨w.heap.size, rfl, hb, (Below.refl _ _).alloc (Nat.le_refl _) _⟩
  · have ht : txt v = Lib.decDigits v := by simp [txt, hs]
    rw [ht]
    by_cases hz : v = 0
    · subst hz
      have hd : Lib.decDigits 0 = [48] := by rw [Lib.decDigits, dif_pos (by omega)]; rfl
      rw [hd]
      have hb := bytes_one w 5 48
      clear hd ht
      go_enter Ybad.func6, Ybad.ntmps6
      go_wp2
      go_ret
      exact ⟨w.heap.size, rfl, hb, (Below.refl _ _).alloc (Nat.le_refl _) _⟩
    · exact model_big v (by omega) (by omega) w

set_option maxHeartbeats 1600000 in
set_option maxRecDepth 100000 in
/-- appendText onto the empty slice over ten bytes. -/
theorem appendText_any (g v : Nat) (h1 : v < 4294967296) (w : World) (hr : Room w g) (hg : g < w.heap.size)
    (htab : Lib.TabIs Ybad.prog w powName .u64 Lib.pow10Tab) :
    Calls Ybad.prog 5 #[.int .u32 v, .slice (some ⟨g, 0, none⟩) 0 10] w fun e w' =>
      e = .returned (.slice (some ⟨g, 0, none⟩) (txt v).length 10) ∧ Bytes w' g (txt v) ∧ Below g w w' := by
  by_cases hs : v = 4294967295
  · subst hs
    have ht : txt 4294967295 = [42] := by simp [txt]
    rw [ht]
    have hb1 : Below w.heap.size w (w.alloc (.cells #[.int .u8 42] 5)) := (Below.refl _ _).alloc (Nat.le_refl _) _
    have hr2 : Room (w.alloc (.cells #[.int .u8 42] 5)) g := room_below hr hb1 hg
    have hfin := bytes_setCells hr2 [42] (by simp)
    have hsrc := Src.ofSlice (P := Ybad.prog) (w.alloc (.cells #[.int .u8 42] 5)) (size := 1) (tx := 23) (e' := 5) Ybad.underlying23 ⟨w.heap.size, 0, none⟩ 1 1 [.int .u8 42] rfl
      (by intro j u hj; match j, hj with | 0, hj => simp at hj; subst hj; simp [Addr.add]) (by intro u hu; simp at hu; subst hu; rfl)
    have Hht := Lib.hid ht
    clear ht htab
    go_enter Ybad.func5, Ybad.ntmps5
    go_wp2_with (at_builtin; refine wpList_append_room1 _ rfl _ _ 23 23 rfl 5 (.int .u8 0) 1 Ybad.underlying23 infoByte g 0 0 10 rfl _ rfl 1 [.int .u8 42] hsrc (by omega) (fun j hj => by have : j < 1 := hj; simpa using (hr2 j (by omega)).1) (fun j hj => by have : j < 1 := hj; simpa using (hr2 j (by omega)).2) ?_)
    go_wp2
    go_ret
    exact ⟨rfl, hfin, below_setCells (Nat.le_refl _) _ _ _ (hb1.mono (by omega))⟩
  · have ht : txt v = Lib.decDigits v := by simp [txt, hs]
    rw [ht]
    have e1 : ((v : Int) == 4294967295) = false := beq_eq_false_iff_ne.2 (by omega)
    have hc := sappend g v h1 w hr hg htab
    have hb : (v : Int) < 4294967296 := by omega
    clear ht hs htab
    go_enter Ybad.func5, Ybad.ntmps5
    go_wp2_with (go_at_call 8; refine hc.mono ?_; rintro e w' ⟨rfl, h1, h2⟩)
    go_ret
    exact ⟨rfl, h1, h2⟩

set_option maxHeartbeats 1600000 in
set_option maxRecDepth 100000 in
/-- RequestID.String. -/
theorem string_any (v : Nat) (h1 : v < 4294967296) (w : World) (htab : Lib.TabIs Ybad.prog w powName .u64 Lib.pow10Tab) :
    Calls Ybad.prog 7 #[.int .u32 v] w fun e w' => e = .returned (.string ⟨(txt v).toArray⟩) ∧ Below w.heap.size w w' := by
  have hc := appendText_any w.heap.size v h1 (w.alloc (.cells zeros10 32)) (room_new w 32) (by simp) (Lib.tabIs_alloc htab _)
  have hb0 : Below w.heap.size w (w.alloc (.cells zeros10 32)) := (Below.refl _ _).alloc (Nat.le_refl _) _
  have HB0 := Lib.hid hb0
  clear hb0 htab
  go_enter Ybad.func7, Ybad.ntmps7
  go_wp2_with fail
  refine hc.mono ?_
  rintro e w1 ⟨rfl, hby, hbe⟩
  have hcv := run_convert_bytes_back (P := Ybad.prog) w1 23 9 5 ⟨w.heap.size, 0, none⟩ 10 (txt v) Ybad.underlying23 Ybad.underlying5 Ybad.underlying9 (fun j hj => by rw [Lib.add_plain, Nat.zero_add]; exact hby j hj)
  have HB1 := Lib.hid hbe
  clear hbe hby hc
  go_wp2
  go_ret
  exact ⟨rfl, HB0.out.trans HB1.out⟩

set_option maxHeartbeats 1600000 in
set_option maxRecDepth 100000 in
/-- THE LAW. -/
theorem law_any (v : Nat) (h1 : v < 4294967296) (w : World) (htab : Lib.TabIs Ybad.prog w powName .u64 Lib.pow10Tab) :
    Calls Ybad.prog 4 #[.int .u32 v] w fun e w' => e = .returned (.bool true) ∧ Below w.heap.size w w' := by
  have hs := string_any v h1 w htab
  clear htab
  go_enter Ybad.func4, Ybad.ntmps4
  go_wp2_with fail
  refine hs.mono ?_
  rintro e w1 ⟨rfl, hb1⟩
  have hm := model_any v h1 w1
  have HB1 := Lib.hid hb1
  clear hb1 hs
  go_wp2_with fail
  refine hm.mono ?_
  rintro e w2 ⟨h, rfl, hby, hb2⟩
  have hcv := run_convert_bytes_back (P := Ybad.prog) w2 23 9 5 ⟨h, 0, none⟩ (txt v).length (txt v) Ybad.underlying23 Ybad.underlying5 Ybad.underlying9 (fun j hj => by rw [Lib.add_plain, Nat.zero_add]; exact hby j hj)
  have HB2 := Lib.hid hb2
  clear hb2 hby hm
  go_wp2
  go_ret
  exact ⟨by simp, HB1.out.trans (HB2.out.mono HB1.out.size)⟩
end Go.Proofs.YbulkcwzmDoor
