/-
  THE WALK OF zzs4926cmodel: the text of a number, made by hand: "*" for 0xFFFFFFFF, else the decimal digits.
-/
import Derived.Test.YbulkcwzmDoorAppend
import Derived.Deep.OwnRows
import Derived.WalkKit
import Derived.ProofKit
namespace Go.Proofs.YbulkcwzmDoor
open Go.Shelf Go.RowKit Go.Sort

/-- v cut by its last k digits. -/
def quo (v k : Nat) : Nat := v / 10 ^ k
theorem quo_zero (v : Nat) : quo v 0 = v := by simp [quo]
theorem quo_succ (v k : Nat) : quo v (k + 1) = quo v k / 10 := by
  unfold quo
  rw [Nat.pow_succ, Nat.div_div_eq_div_mul]
theorem quo_le (v k : Nat) : quo v k ≤ v := Nat.div_le_self _ _
theorem quo_pos {v k : Nat} : 0 < quo v k ↔ 10 ^ k ≤ v := by
  unfold quo
  have h : 0 < 10 ^ k := Nat.pow_pos (by omega)
  constructor
  · intro h1
    rcases Nat.lt_or_ge v (10 ^ k) with h2 | h2
    · rw [Nat.div_eq_of_lt h2] at h1; omega
    · exact h2
  · intro h1
    exact Nat.div_pos h1 h

/-- The k-th digit from the end, as a byte. -/
def dgv (v j : Nat) : Int := 48 + ((quo v j % 10 : Nat) : Int)

theorem decDigits_rev (v : Nat) : ∀ k, 10 ^ k ≤ v ∨ k = 0 → v < 10 ^ (k + 1) → (Lib.decDigits v).length = k + 1 ∧ ∀ j (hj : j < (Lib.decDigits v).length), (((Lib.decDigits v)[j]).toNat : Int) = dgv v (k - j) := by
  intro k
  induction k generalizing v with
  | zero =>
    intro _ h
    have h10 : v < 10 := by simpa using h
    rw [Lib.decDigits, dif_pos h10]
    refine ⟨rfl, fun j hj => ?_⟩
    have : j = 0 := by simpa using hj
    subst this
    simp [dgv, quo_zero]
    omega
  | succ k ih =>
    intro h1 h2
    have h1' : 10 ^ (k + 1) ≤ v := by
      rcases h1 with h | h
      · exact h
      · omega
    have hp : 1 ≤ 10 ^ k := Nat.one_le_pow _ _ (by decide)
    rw [Nat.pow_succ] at h1'
    have h10 : ¬ v < 10 := by omega
    obtain ⟨il, id⟩ := ih (v / 10) (by
      rcases Nat.eq_zero_or_pos k with hk | _
      · exact .inr hk
      · exact .inl (by omega)) (by rw [Nat.pow_succ] at h2; omega)
    rw [Lib.decDigits, dif_neg h10]
    refine ⟨by rw [List.length_append, il]; rfl, fun j hj => ?_⟩
    rw [List.length_append, il] at hj
    have hj' : j < k + 1 + 1 := by simpa using hj
    rcases Nat.lt_or_ge j (k + 1) with hj2 | hj2
    · rw [List.getElem_append_left (by rw [il]; exact hj2), id j (by rw [il]; exact hj2)]
      unfold dgv
      have e : quo v (k + 1 - j) = quo (v / 10) (k - j) := by
        unfold quo
        rw [show k + 1 - j = (k - j) + 1 from by omega, Nat.pow_succ, Nat.mul_comm, Nat.div_div_eq_div_mul]
      rw [e]
    · have hje : j = k + 1 := by omega
      subst hje
      rw [List.getElem_append_right (by rw [il]; exact Nat.le_refl _)]
      simp [il, dgv, quo_zero]
      omega

/-- Ten new cells. -/
def zeros10 : Array Value := #[Value.int .u8 0, Value.int .u8 0, Value.int .u8 0, Value.int .u8 0, Value.int .u8 0, Value.int .u8 0, Value.int .u8 0, Value.int .u8 0, Value.int .u8 0, Value.int .u8 0]
theorem room_new (w : World) (t : TypeId) : Room (w.alloc (.cells zeros10 t)) w.heap.size := fun j hj => by
  refine ⟨?_, World.frozen?_alloc_new _ _ _ _⟩
  rw [World.cell?_alloc_new]
  have e : zeros10 = Array.replicate 10 (.int .u8 0) := rfl
  rw [e, Array.getElem?_replicate, if_pos hj]
  rfl

theorem room_set {w : World} {g : Nat} (h : Room w g) (a : Addr) (v : Value) : Room (w.setCell a v) g := fun j hj => by
  refine ⟨?_, by rw [World.frozen?_setCell]; exact (h j hj).2⟩
  by_cases e : a = ⟨g, j, none⟩
  · subst e
    obtain ⟨u, hu⟩ := Option.isSome_iff_exists.1 (h j hj).1
    rw [World.cell?_setCell_same _ _ _ hu]; rfl
  · rw [World.cell?_setCell_other _ _ _ _ e]; exact (h j hj).1

/-- n cells, none of them frozen. -/
def Row (w : World) (g n : Nat) : Prop := ∀ j, j < n → (w.cell? ⟨g, j, none⟩).isSome = true ∧ w.frozen? ⟨g, j, none⟩ = false
theorem row_set {w : World} {g n : Nat} (h : Row w g n) (a : Addr) (v : Value) : Row (w.setCell a v) g n := fun j hj => by
  refine ⟨?_, by rw [World.frozen?_setCell]; exact (h j hj).2⟩
  by_cases e : a = ⟨g, j, none⟩
  · subst e
    obtain ⟨u, hu⟩ := Option.isSome_iff_exists.1 (h j hj).1
    rw [World.cell?_setCell_same _ _ _ hu]; rfl
  · rw [World.cell?_setCell_other _ _ _ _ e]; exact (h j hj).1
theorem row_new (w : World) (n : Nat) (t : TypeId) : Row (w.alloc (.cells (madeCells #[.int .u8 0] n) t)) w.heap.size n := fun j hj => by
  refine ⟨?_, World.frozen?_alloc_new _ _ _ _⟩
  rw [World.cell?_alloc_new, Array.getElem?_eq_getElem (by rw [size_madeCells]; exact hj)]
  rfl

/-- WHAT THE MODEL RETURNS. -/
def txt (v : Nat) : List UInt8 := if v = 4294967295 then [42] else Lib.decDigits v

set_option maxHeartbeats 1600000 in
set_option maxRecDepth 100000 in
theorem model_big (v : Nat) (h0 : 0 < v) (h1 : v < 4294967295) (w : World) :
    Calls Ybad.prog 6 #[.int .u32 v] w fun e w' =>
      ∃ h, e = .returned (.slice (some ⟨h, 0, none⟩) (Lib.decDigits v).length (Lib.decDigits v).length) ∧ Bytes w' h (Lib.decDigits v) ∧ Below w.heap.size w w' := by
  have e1 : ((v : Int) == 4294967295) = false := beq_eq_false_iff_ne.2 (by omega)
  have e2 : ((v : Int) == 0) = false := beq_eq_false_iff_ne.2 (by omega)
  go_enter Ybad.func6, Ybad.ntmps6
  go_wp2
  go_loopw [4, 5] (fun n x wr => ∃ k : Nat, n = .int .i64 k ∧ x = .int .u32 (quo v k : Nat) ∧ k ≤ 10 ∧ (∀ j, j < k → 0 < quo v j) ∧ Room wr w.heap.size ∧ (∀ j, j < k → wr.cell? ⟨w.heap.size, j, none⟩ = some (.int .u8 (dgv v j))) ∧ Below w.heap.size w wr ∧ wr.heap.size = w.heap.size + 1) (fun _ x _ => (intOf x).toNat)
  case atStart => exact ⟨0, rfl, by rw [quo_zero], by omega, fun j hj => by omega, room_new w 32, fun j hj => by omega, (Below.refl _ _).alloc (Nat.le_refl _) _, by simp⟩
  case round =>
    obtain ⟨k, rfl, rfl, hk, hpos, hroom, hdig, hbel, hsz⟩ := hrel
    rename World => wr
    have hq := quo_le v k
    have hqs := quo_succ v k
    rcases Nat.eq_zero_or_pos (quo v k) with hz | hz
    · have hqz : ((quo v k : Nat) : Int) = 0 := by omega
      have HP : Hid (∀ j, j < k → 0 < quo v j) := hpos
      have HD : Hid (∀ j, j < k → wr.cell? ⟨w.heap.size, j, none⟩ = some (.int .u8 (dgv v j))) := hdig
      have HR : Hid (Room wr w.heap.size) := hroom
      have HB : Hid (Below w.heap.size w wr) := hbel
      have HZ : Hid (quo v k = 0) := hz
      rw [hz]
      clear hpos hdig hroom hbel hqs hq hqz hz
      have hmk := run_make_row' (P := Ybad.prog) 23 5 (.int .u8 0) 1 Ybad.underlying23 infoByte rfl .i64 .i64 k (by omega) (by omega)
      go_wp2
      go_loopw [7] (fun t ws => ∃ i : Nat, t = .int .i64 i ∧ i ≤ k ∧ (∀ j, j < k → ws.cell? ⟨w.heap.size, j, none⟩ = some (.int .u8 (dgv v j))) ∧ Row ws (w.heap.size + 1) k ∧ (∀ j, j < i → ws.cell? ⟨w.heap.size + 1, j, none⟩ = some (.int .u8 (dgv v (k - 1 - j)))) ∧ Below w.heap.size w ws) (fun t _ => k - (intOf t).toNat)
      case atStart =>
        refine ⟨0, rfl, Nat.zero_le _, fun j hj => ?_, ?_, fun j hj => by omega, HB.out.alloc (by omega) _⟩
        · rw [World.cell?_alloc_lt _ _ _ (by show w.heap.size < wr.heap.size; omega)]
          exact HD.out j hj
        · rw [← hsz]; exact row_new wr k 5
      case round =>
        obtain ⟨i, rfl, hi, hdig, hrow, hout, hbel⟩ := hrel
        rename World => ws
        rcases Nat.lt_or_ge i k with hlt | hge
        · have hr := hdig (k - 1 - i) (by omega)
          obtain ⟨c0, hc0⟩ := Option.isSome_iff_exists.1 (hrow i hlt).1
          have hf0 := (hrow i hlt).2
          have HD2 : Hid (∀ j, j < k → ws.cell? ⟨w.heap.size, j, none⟩ = some (.int .u8 (dgv v j))) := hdig
          have HR2 : Hid (Row ws (w.heap.size + 1) k) := hrow
          have HO2 : Hid (∀ j, j < i → ws.cell? ⟨w.heap.size + 1, j, none⟩ = some (.int .u8 (dgv v (k - 1 - j)))) := hout
          have HB2 : Hid (Below w.heap.size w ws) := hbel
          clear hdig hrow hout hbel
          obtain ⟨m, hm⟩ : ∃ m, k = i + m + 1 := ⟨k - 1 - i, by omega⟩
          have em : k - 1 - i = m := by omega
          rw [em] at hr
          have HM : Hid (k - 1 - i = m) := em
          have hki : (k : Int) ≤ 10 := by omega
          have hlti : (i : Int) < k := by omega
          have hidx : (k : Int) - 1 - i = m := by omega
          clear em hm
          go_wp2
          go_roundw
          case rel =>
            refine ⟨i + 1, by go_num, by omega, ?_, row_set HR2.out _ _, ?_, HB2.out.setCell (by simp) _⟩
            · intro j hj
              rw [World.cell?_setCell_other _ _ _ _ (by simp)]
              exact HD2.out j hj
            · intro j hj
              rcases Nat.lt_or_ge j i with h | h
              · rw [World.cell?_setCell_other _ _ _ _ (by intro e; injection e; omega)]
                exact HO2.out j h
              · have : j = i := by omega
                subst this
                rw [World.cell?_setCell_same _ _ _ hc0, HM.out]
          case measure => simp [intOf]; omega
        · have hik : i = k := by omega
          subst hik
          have hlen : (Lib.decDigits v).length = i ∧ ∀ j (hj : j < (Lib.decDigits v).length), (((Lib.decDigits v)[j]).toNat : Int) = dgv v (i - 1 - j) := by
            have hne : i ≠ 0 := by
              intro h
              subst h
              have := HZ.out
              rw [quo_zero] at this
              omega
            obtain ⟨m, rfl⟩ : ∃ m, i = m + 1 := ⟨i - 1, by omega⟩
            have hp := quo_pos.1 (HP.out m (by omega))
            have hz : v < 10 ^ (m + 1) := by
              rcases Nat.lt_or_ge v (10 ^ (m + 1)) with h | h
              · exact h
              · have := quo_pos.2 h
                have := HZ.out
                omega
            obtain ⟨a, b⟩ := decDigits_rev v m (.inl hp) hz
            exact ⟨a, fun j hj => by rw [b j hj]; congr 1⟩
          have hlt : ¬ (i : Int) < i := by omega
          have HL : Hid ((Lib.decDigits v).length = i ∧ ∀ j (hj : j < (Lib.decDigits v).length), (((Lib.decDigits v)[j]).toNat : Int) = dgv v (i - 1 - j)) := hlen
          have HO2 : Hid (∀ j, j < i → ws.cell? ⟨w.heap.size + 1, j, none⟩ = some (.int .u8 (dgv v (i - 1 - j)))) := hout
          have HB2 : Hid (Below w.heap.size w ws) := hbel
          clear hlen hout hbel hdig hrow
          go_wp2
          go_ret
          refine ⟨w.heap.size + 1, by rw [HL.out.1]; rfl, fun j hj => ?_, HB2.out⟩
          rw [HO2.out j (by rw [← HL.out.1]; exact hj), HL.out.2 j hj]
    · have hp := quo_pos.1 hz
      have hk9 : k < 10 := by
        rcases Nat.lt_or_ge k 10 with h | h
        · exact h
        · have : k = 10 := by omega
          subst this; omega
      obtain ⟨c0, hc0⟩ := Option.isSome_iff_exists.1 (hroom k hk9).1
      have hf0 := (hroom k hk9).2
      have HS : Hid (quo v (k + 1) = quo v k / 10) := hqs
      have HD : Hid (∀ j, j < k → wr.cell? ⟨w.heap.size, j, none⟩ = some (.int .u8 (dgv v j))) := hdig
      have HV : Hid (dgv v k = 48 + ((quo v k % 10 : Nat) : Int)) := rfl
      have HR : Hid (Room wr w.heap.size) := hroom
      have HP : Hid (∀ j, j < k → 0 < quo v j) := hpos
      have HB : Hid (Below w.heap.size w wr) := hbel
      clear hqs hdig hroom hpos hbel hp
      generalize hqq : quo v k = q at *
      have HQ : Hid (quo v k = q) := hqq
      clear hqq
      have hqi : (0 : Int) < (q : Int) := by omega
      have hqi2 : (q : Int) < 4294967295 := by omega
      have hki : (k : Int) < 10 := by omega
      go_wp2
      go_roundw
      case rel =>
        refine ⟨k + 1, by go_num, by rw [HS.out]; go_num, by omega, ?_, room_set HR.out _ _, ?_, HB.out.setCell (Nat.le_refl _) _, by simpa using hsz⟩
        · intro j hj
          rcases Nat.lt_or_ge j k with h | h
          · exact HP.out j h
          · have : j = k := by omega
            subst this; rw [HQ.out]; exact hz
        · intro j hj
          rcases Nat.lt_or_ge j k with h | h
          · rw [World.cell?_setCell_other _ _ _ _ (by intro e; injection e; omega)]
            exact HD.out j h
          · have : j = k := by omega
            subst this
            rw [World.cell?_setCell_same _ _ _ hc0, HV.out]
            simp
      case measure => simp [intOf]; omega
end Go.Proofs.YbulkcwzmDoor
