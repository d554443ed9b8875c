/-
  THE WALKS OF internal/strconv.AppendUint AND strconv.AppendUint AT BASE 10, ONTO AN EMPTY SLICE OVER AN ARRAY OF TEN BYTES (it fits: a uint32 has at most ten digits). small, numDigits and formatBase10 by the shelf's contracts.
-/
import Derived.Test.YbulkcwzmDoorShelf
import Derived.Lib.JoinLaws
import Derived.Lib.AppendIntMem
import Derived.Lib.ItoaWalk
import Derived.Lib.ItoaMem
import Derived.Lib.Hide
import Derived.Lib.Slices
import Derived.OwnWalk
import Derived.WalkKit
import Derived.BigCall
import Derived.BigGuard
import Derived.CellFam
namespace Go.Proofs.YbulkcwzmDoor
open Go.Shelf Go.RowKit Go.Sort

theorem infoByte : (Ybad.prog.info? 5).map (fun i => (i.zero, i.size, i.bytes)) = some (some (.int .u8 0), 1, 1) := by kernel_rfl

/-- The first 'l.length' cells of block g are l's bytes. -/
def Bytes (w : World) (g : Nat) (l : List UInt8) : Prop := ∀ j (hj : j < l.length), w.cell? ⟨g, j, none⟩ = some (.int .u8 (l[j].toNat : Int))

/-- Block g has ten cells, none of them frozen. -/
def Room (w : World) (g : Nat) : Prop := ∀ j, j < 10 → (w.cell? ⟨g, j, none⟩).isSome = true ∧ w.frozen? ⟨g, j, none⟩ = false

theorem nDigits_le : ∀ k u, u < 10 ^ k → 1 ≤ k → Lib.nDigits u ≤ k := by
  intro k
  induction k with
  | zero => intro _ _ h; omega
  | succ k ih =>
    intro u hk _
    by_cases hu : u < 10
    · rw [Lib.nDigits_small hu]; omega
    · rw [Lib.nDigits_big hu]
      rw [Nat.pow_succ] at hk
      have k1 : 1 ≤ k := by
        rcases Nat.eq_zero_or_pos k with rfl | hk0
        · simp at hk; omega
        · exact hk0
      exact Nat.succ_le_succ (ih (u / 10) (by omega) k1)

theorem nDigits_le10 (u : Nat) (h : u < 4294967296) : Lib.nDigits u ≤ 10 := nDigits_le 10 u (by omega) (by omega)

/-- What an append of l's bytes into the room leaves. -/
theorem bytes_setCells {w : World} {g : Nat} (h : Room w g) (l : List UInt8) (hl : l.length ≤ 10) : Bytes (w.setCells g 0 (Lib.byteCells l)) g l := by
  intro j hj
  have := World.cell?_setCells_in g (Lib.byteCells l) 0 w (fun i hi => by
    rw [Lib.byteCells_length] at hi
    simpa using (h i (by omega)).1) j (by rw [Lib.byteCells_length]; exact hj)
  rw [Nat.zero_add] at this
  rw [this]
  simp [Lib.byteCells]

theorem room_below {w w' : World} {g B : Nat} (h : Room w g) (hb : Below B w w') (hg : g < B) : Room w' g := fun j hj => by
  rw [hb.cell (p := ⟨g, j, none⟩) hg, hb.frozen (p := ⟨g, j, none⟩) hg]
  exact h j hj

set_option maxHeartbeats 1600000 in
set_option maxRecDepth 100000 in
/-- A number below 100: no table is read. -/
theorem iappend_small (g u : Nat) (hu : u < 100) (w : World) (hr : Room w g) :
    Calls Ybad.prog 9 #[.slice (some ⟨g, 0, none⟩) 0 10, .int .u64 u, .int .i64 10] w fun e w' =>
      e = .returned (.slice (some ⟨g, 0, none⟩) (Lib.decDigits u).length 10) ∧ Bytes w' g (Lib.decDigits u) ∧ Below g w w' := by
  have hlen : (Lib.decDigits u).length ≤ 10 := by rw [Lib.decDigits_length]; exact nDigits_le10 u (by omega)
  have hsz : (⟨(Lib.decDigits u).toArray⟩ : ByteArray).size = (Lib.decDigits u).length := by simp [ByteArray.size]
  have hbc : byteCells ⟨(Lib.decDigits u).toArray⟩ = Lib.byteCells (Lib.decDigits u) := by simp [byteCells, Lib.byteCells]
  have hfin := bytes_setCells hr (Lib.decDigits u) hlen
  have hsrc := Src.ofString (P := Ybad.prog) w (tx := 9) Ybad.underlying9 ⟨(Lib.decDigits u).toArray⟩
  rw [hsz, hbc] at hsrc
  clear hsz hbc
  go_enter Ybad.func9, Ybad.ntmps9
  go_wp2_with (first
    | (go_at_call 10; refine (Ybad.internal_strconv_small u hu _).mono ?_; rintro e w' ⟨rfl, rfl⟩)
    | (at_builtin; refine wpList_append_room1 _ rfl _ _ 23 9 rfl 5 (.int .u8 0) 1 Ybad.underlying23 infoByte g 0 0 10 rfl _ rfl (Lib.decDigits u).length (Lib.byteCells (Lib.decDigits u)) hsrc (by omega) (fun j hj => by rw [Lib.byteCells_length] at hj; simpa using (hr j (by omega)).1) (fun j hj => by rw [Lib.byteCells_length] at hj; simpa using (hr j (by omega)).2) ?_))
  go_wp2
  go_ret
  refine ⟨by simp, hfin, ?_⟩
  exact below_setCells (Nat.le_refl _) _ _ _ (Below.refl _ _)

set_option maxHeartbeats 6400000 in
set_option maxRecDepth 100000 in
/-- From 100 on: the digits are laid in an array of the call's own and appended. -/
theorem iappend_big (g u : Nat) (hu : 100 ≤ u) (hu32 : u < 4294967296) (w : World) (hr : Room w g) (hg : g < w.heap.size)
    (htab : Lib.TabIs Ybad.prog w powName .u64 Lib.pow10Tab) :
    Calls Ybad.prog 9 #[.slice (some ⟨g, 0, none⟩) 0 10, .int .u64 u, .int .i64 10] w fun e w' =>
      e = .returned (.slice (some ⟨g, 0, none⟩) (Lib.decDigits u).length 10) ∧ Bytes w' g (Lib.decDigits u) ∧ Below g w w' := by
  have hu1 : 1 ≤ u := by omega
  have hu64 : u < 18446744073709551616 := by omega
  have hnd10 : Lib.nDigits u ≤ 10 := nDigits_le10 u hu32
  have hlen : (Lib.decDigits u).length ≤ 10 := by rw [Lib.decDigits_length]; exact hnd10
  have hal : Ybad.prog.arrayLen 34 = 24 := by kernel_rfl
  have hsl : ∀ W, (Instr.sliceAt 34 (.pointer (some ⟨w.heap.size, 0, none⟩)) none (some (.int .i64 (Lib.nDigits u : Int))) none).run Ybad.prog W = .ok (.slice (some ⟨w.heap.size, 0, none⟩) (Lib.nDigits u) 24) W := fun W => by
    rw [run_sliceAt_array_h W 34 ⟨w.heap.size, 0, none⟩ (by simp [Program.arrayLen, Program.elem, Ybad.underlying34]) .i64 (Lib.nDigits u : Int) (by omega) (by rw [hal]; omega)]
    go_simp
  have hH0 := Lib.holds_zero0 w 34 (Lib.nDigits u) (by omega)
  have hfmt := Ybad.internal_strconv_formatBase10 w.heap.size 0 24 u (Array.replicate (Lib.nDigits u) 0) (w.alloc (.cells Lib.zeros24 34)) hH0 (by rw [Array.size_replicate]; exact Lib.lt_pow_nDigits u) hu64 (by rw [Array.size_replicate]; omega)
  rw [Array.size_replicate] at hfmt
  have HH0 := Lib.hid hH0
  have iu : (100 : Int) ≤ (u : Int) := by omega
  clear hH0 hal
  go_enter Ybad.func9, Ybad.ntmps9
  go_wp2_with (first
    | (go_at_call 11; refine (Ybad.internal_strconv_numDigits u hu1 hu64 _ (Lib.tabIs_alloc htab _)).mono ?_; rintro e w' ⟨rfl, rfl⟩))
  go_at_call 12
  refine hfmt.mono ?_
  rintro e w' ⟨rfl, k, v', dk, rfl, hF⟩
  have hcells : ∀ j u', (Lib.byteCells (Lib.decDigits u))[j]? = some u' → ((putRow (fun (b : UInt8) => Value.int .u8 (b.toNat : Int)) (w.alloc (.cells Lib.zeros24 34)) w.heap.size 0 dk).drewN k).cell? ((⟨w.heap.size, 0, none⟩ : Addr).add j) = some u' := by
    intro j u' hj
    have hjl : j < (Lib.decDigits u).length := by
      have h5 := (List.getElem?_eq_some_iff.1 hj).1
      rwa [Lib.byteCells_length] at h5
    have e5 : (Lib.byteCells (Lib.decDigits u))[j]? = some (Value.int .u8 ((Lib.decDigits u)[j].toNat : Int)) := by simp [Lib.byteCells, hjl]
    rw [e5] at hj
    cases hj
    rw [Lib.row_is_numeral hF j hjl, Lib.add_plain, World.cell?_drewN]
    exact cell?_putRow (fun (b : UInt8) => Value.int .u8 (b.toNat : Int)) _ w.heap.size 0 _ dk HH0.out (by rw [hF.size, Array.size_replicate]) j (by rw [hF.size]; rw [Lib.decDigits_length] at hjl; exact hjl)
  obtain ⟨os, eo⟩ := Lib.fin_at w (.cells Lib.zeros24 34) dk k 0
  have hnx2 : Below w.heap.size w ((putRow (fun (b : UInt8) => Value.int .u8 (b.toNat : Int)) (w.alloc (.cells Lib.zeros24 34)) w.heap.size 0 dk).drewN k) := by rw [eo]; exact Lib.below_grow w.heap.size w (Nat.le_refl _) k os
  generalize (putRow (fun (b : UInt8) => Value.int .u8 (b.toNat : Int)) (w.alloc (.cells Lib.zeros24 34)) w.heap.size 0 dk).drewN k = W2 at hcells hnx2 ⊢
  clear eo HH0 hfmt
  have hr2 : Room W2 g := room_below hr hnx2 hg
  have hfin := bytes_setCells hr2 (Lib.decDigits u) hlen
  have hsrc := Src.ofSlice (P := Ybad.prog) W2 (size := 1) (tx := 23) (e' := 5) Ybad.underlying23 ⟨w.heap.size, 0, none⟩ (Lib.decDigits u).length 24 (Lib.byteCells (Lib.decDigits u)) (by rw [Lib.byteCells_length, Nat.mul_one]) hcells
    (by intro u' hu'; simp only [Lib.byteCells, List.mem_map] at hu'; obtain ⟨b, _, rfl⟩ := hu'; rfl)
  have hdl := Lib.decDigits_length u
  rw [hdl] at hsrc
  have HDL := Lib.hid hdl
  clear hcells hF hdl
  go_wp2_with (at_builtin; refine wpList_append_room1 _ rfl _ _ 23 23 rfl 5 (.int .u8 0) 1 Ybad.underlying23 infoByte g 0 0 10 rfl _ rfl (Lib.nDigits u) (Lib.byteCells (Lib.decDigits u)) hsrc (by omega) (fun j hj => by rw [Lib.byteCells_length] at hj; simpa using (hr2 j (by omega)).1) (fun j hj => by rw [Lib.byteCells_length] at hj; simpa using (hr2 j (by omega)).2) ?_)
  go_wp2
  go_ret
  refine ⟨by rw [HDL.out]; simp, hfin, ?_⟩
  exact below_setCells (Nat.le_refl _) _ _ _ (hnx2.mono (by omega))

/-- internal/strconv.AppendUint: both. -/
theorem iappend (g u : Nat) (hu32 : u < 4294967296) (w : World) (hr : Room w g) (hg : g < w.heap.size)
    (htab : Lib.TabIs Ybad.prog w powName .u64 Lib.pow10Tab) :
    Calls Ybad.prog 9 #[.slice (some ⟨g, 0, none⟩) 0 10, .int .u64 u, .int .i64 10] w fun e w' =>
      e = .returned (.slice (some ⟨g, 0, none⟩) (Lib.decDigits u).length 10) ∧ Bytes w' g (Lib.decDigits u) ∧ Below g w w' := by
  rcases Nat.lt_or_ge u 100 with h | h
  · exact iappend_small g u h w hr
  · exact iappend_big g u h hu32 w hr hg htab

set_option maxHeartbeats 1600000 in
set_option maxRecDepth 100000 in
/-- strconv.AppendUint hands it on. -/
theorem sappend (g u : Nat) (hu32 : u < 4294967296) (w : World) (hr : Room w g) (hg : g < w.heap.size)
    (htab : Lib.TabIs Ybad.prog w powName .u64 Lib.pow10Tab) :
    Calls Ybad.prog 8 #[.slice (some ⟨g, 0, none⟩) 0 10, .int .u64 u, .int .i64 10] w fun e w' =>
      e = .returned (.slice (some ⟨g, 0, none⟩) (Lib.decDigits u).length 10) ∧ Bytes w' g (Lib.decDigits u) ∧ Below g w w' := by
  have hc := iappend g u hu32 w hr hg htab
  go_enter Ybad.func8, Ybad.ntmps8
  go_wp2_with (go_at_call 9; refine hc.mono ?_; rintro e w' ⟨rfl, h1, h2⟩)
  go_ret
  exact ⟨rfl, h1, h2⟩
end Go.Proofs.YbulkcwzmDoor
