/-
  THE WALK OF LawS4929BFirstFault.
-/
import Derived.Test.YbulkcxbcFail
import Derived.OwnWalk
import Derived.WalkKit
import Derived.ProofKit
import Derived.Deep.RegionWith
import Derived.Deep.QuietTactic
import Derived.BigQuiet
import Derived.Lib.Hide
import Derived.Lib.SliceRun
import Derived.Deep.OwnRows
import Derived.Laws.Cover3
import Derived.Laws.Small
namespace Go.Proofs.Ybulkcxbc
open Go.RowKit

/-- What the slice of causes holds: its address, where it is not empty; its cells. -/
def Causes (w : World) (ca : Option Addr) (cl : Nat) (z : Nat → Int) : Prop :=
  0 < cl → ∃ b off, ca = some ⟨b, off, none⟩ ∧ b < w.heap.size ∧ ∀ j, j < cl → w.cell? ⟨b, off + j, none⟩ = some (.int .u8 (z j))

/-- The request that the law makes, in block Q: err is nil, the cause is c, read is rd. -/
structure Req (w : World) (Q : Nat) (c : Int) (rd : Value) : Prop where
  err : w.cell? ⟨Q, 2, none⟩ = some .nilIface
  cause : w.cell? ⟨Q, 3, none⟩ = some (.int .u8 c)
  read : w.cell? ⟨Q, 7, none⟩ = some rd
  free : w.frozen? ⟨Q, 3, none⟩ = false

theorem Req.failed {w w' : World} {Q : Nat} {c c' : Int} {rd : Value} (h : Req w Q c rd) (f : Failed Q c' w w') : Req w' Q c' rd :=
  ⟨by rw [f.other _ (by simp)]; exact h.err, f.cause, by rw [f.other _ (by simp)]; exact h.read, by rw [f.frozen]; exact h.free⟩

theorem req_new (w : World) (s : Int) (rd a b c d e : Value) (t : TypeId) : Req (w.alloc (.cells #[a, b, .nilIface, .int .u8 s, c, d, e, rd] t)) w.heap.size s rd :=
  ⟨by simp, by simp, by simp, World.frozen?_alloc_new _ _ _ _⟩

set_option maxHeartbeats 1600000 in
set_option maxRecDepth 100000 in
/-- names is nil. -/
theorem law_nil (s : Int) (hs : 0 ≤ s ∧ s ≤ 255) (ca : Option Addr) (cl cc : Nat) (z : Nat → Int) (hcl : cl ≤ 1024) (w : World) (hca : Causes w ca cl z) :
    Calls Yba.prog 3 #[.int .u8 s, .slice ca cl cc, .slice none 0 0] w fun e w' => e = .returned (.bool true) ∧ Below w.heap.size w w' := by
  have HC : Hid (Causes w ca cl z) := hca
  obtain ⟨hs0, hs1⟩ := hs
  have d1 : decide ((1024 : Int) < (cl : Int)) = false := decide_eq_false (by omega)
  clear hca
  have n23 : ∀ W, (binOp .neq 23 (.slice none 0 0) (.slice none 0 0)).run Yba.prog W = .ok (.bool false) W := fun W => run_neq_slice_nil W 23 9 none 0 0 Yba.underlying23
  have e23 : ∀ W, (binOp .eql 23 (.slice none 0 0) (.slice none 0 0)).run Yba.prog W = .ok (.bool true) W := fun W => Lib.run_eql_slice_nil W 23 9 none 0 0 0 0 Yba.underlying23
  have e24 : ∀ W, (binOp .eql 24 (.slice none 0 0) (.slice none 0 0)).run Yba.prog W = .ok (.bool true) W := fun W => Lib.run_eql_slice_nil W 24 27 none 0 0 0 0 Yba.underlying24
  go_enter Yba.func3, Yba.ntmps3
  go_wp2
  go_loopw [10] (fun t ws => ∃ k : Nat, t = .int .i64 k ∧ k ≤ cl ∧ Req ws w.heap.size (cur s z k) (.slice none 0 0) ∧ Below w.heap.size w ws ∧ w.heap.size < ws.heap.size) (fun t _ => cl - (intOf t).toNat)
  case atStart => exact ⟨0, rfl, Nat.zero_le _, req_new w s _ _ _ _ _ _ _, (Below.refl _ _).alloc (Nat.le_refl _) _, by simp⟩
  case round =>
    obtain ⟨k, rfl, hk, hreq, hbel, hsz⟩ := hrel
    rename World => ws
    have HR : Hid (Req ws w.heap.size (cur s z k) (.slice none 0 0)) := hreq
    have HB : Hid (Below w.heap.size w ws) := hbel
    rcases Nat.lt_or_ge k cl with hlt | hge
    · obtain ⟨b, off, rfl, hb, hcell⟩ := HC.out (by omega)
      have hck : ws.cell? ⟨b, off + k, none⟩ = some (.int .u8 (z k)) := by
        rw [hbel.cell (p := ⟨b, off + k, none⟩) (by show b < w.heap.size; omega)]
        exact hcell k hlt
      have hfail := fail_any w.heap.size (cur s z k) (z k) ws hreq.cause hreq.free
      have HX : Hid (cur s z (k + 1) = nxt (cur s z k) (z k)) := rfl
      have hki : (k : Int) < cl := by omega
      clear hcell hreq hbel
      go_wp2_with (go_at_call 4; refine hfail.mono ?_; rintro e w' ⟨rfl, hF⟩; refine Hid.out ?_)
      refine Lib.hid ?_
      have HF := Lib.hid hF
      have HFS : w.heap.size < (by assumption : World).heap.size := by
        have := HF.out.below.size
        omega
      clear hF hfail
      go_wp2
      go_roundw
      case rel => exact ⟨k + 1, by go_num, by omega, by rw [HX.out]; exact HR.out.failed HF.out, HB.out.trans HF.out.below, HFS⟩
      case measure => simp [intOf]; omega
    · obtain rfl : k = cl := by omega
      have hki : ¬ (k : Int) < k := by omega
      clear hreq hbel
      go_wp2
      go_loop [11, 12] (fun wt t => ∃ i : Nat, t = .int .i64 i ∧ i ≤ k ∧ wt = .int .u8 (cur s z i)) (fun _ t => k - (intOf t).toNat)
      case atStart => exact ⟨0, rfl, Nat.zero_le _, rfl⟩
      case round =>
        obtain ⟨i, rfl, hi, rfl⟩ := hrel
        by_cases hA : i < k ∧ cur s z i = 0
        · obtain ⟨hik, h0⟩ := hA
          obtain ⟨b, off, rfl, hb, hcell⟩ := HC.out (by omega)
          have hck : ws.cell? ⟨b, off + i, none⟩ = some (.int .u8 (z i)) := by
            rw [HB.out.cell (p := ⟨b, off + i, none⟩) (by show b < w.heap.size; omega)]
            exact hcell i hik
          have HX : Hid (cur s z (i + 1) = z i) := by show nxt _ _ = _; simp [nxt, h0]
          have hki : (i : Int) < k := by omega
          rw [h0]
          clear hcell h0
          go_wp2
          go_round
          case rel => exact ⟨i + 1, by go_num, by omega, by rw [HX.out]⟩
          case measure => simp [intOf]; omega
        · have hcur : cur s z i = cur s z k := cur_eq hi (by
            rcases Nat.lt_or_ge i k with h | h
            · exact .inr (fun h0 => hA ⟨h, h0⟩)
            · exact .inl (by omega))
          have hc3 := HR.out.cause
          have hc2 := HR.out.err
          have hc7 := HR.out.read
          rw [← hcur] at hc3
          by_cases hik : i < k
          · have h0 : (cur s z i == 0) = false := beq_eq_false_iff_ne.2 (fun h => hA ⟨hik, h⟩)
            have hki : (i : Int) < k := by omega
            clear hcur hA
            generalize cur s z i = c at *
            go_wp2
            go_loop [13] (fun t => t = .int .i64 0) (fun _ => 0)
            case atStart => exact rfl
            case round =>
              obtain rfl := hrel
              go_wp2
              go_ret
              exact ⟨rfl, HB.out⟩
          · have hki : ¬ (i : Int) < k := by omega
            clear hcur hA
            generalize cur s z i = c at *
            go_wp2
            go_loop [13] (fun t => t = .int .i64 0) (fun _ => 0)
            case atStart => exact rfl
            case round =>
              obtain rfl := hrel
              go_wp2
              go_ret
              exact ⟨rfl, HB.out⟩

/-- The cells of the fields that are made of the names. -/
def flds (ss : Nat → ByteArray) : Nat → List Value
  | 0 => []
  | k + 1 => flds ss k ++ [.string (ss k), .int .u8 0, .bool false, .int .i64 0, .string ByteArray.empty]
theorem flds_length (ss : Nat → ByteArray) : ∀ k, (flds ss k).length = k * 5
  | 0 => rfl
  | k + 1 => by rw [flds, List.length_append, flds_length ss k]; simp; omega
theorem flds_at (ss : Nat → ByteArray) : ∀ k j, j < k → (flds ss k)[j * 5]? = some (.string (ss j))
  | k + 1, j, h => by
    rw [flds]
    rcases Nat.lt_or_ge j k with h1 | h1
    · rw [List.getElem?_append_left (by rw [flds_length]; omega)]
      exact flds_at ss k j h1
    · obtain rfl : j = k := by omega
      rw [List.getElem?_append_right (by rw [flds_length]; omega), flds_length]
      simp

/-- What the slice of names holds. -/
def Names (w : World) (na : Addr) (n : Nat) (ss : Nat → ByteArray) : Prop :=
  0 < n → ∃ b off, na = ⟨b, off, none⟩ ∧ b < w.heap.size ∧ ∀ j, j < n → w.cell? ⟨b, off + j, none⟩ = some (.string (ss j))

theorem infoField : (Yba.prog.info? 27).map (fun i => (i.zero, i.size, i.bytes)) = some (some (.agg #[.string ByteArray.empty, .int .u8 0, .bool false, .int .i64 0, .string ByteArray.empty]), 5, 48) := by kernel_rfl

set_option maxHeartbeats 3200000 in
set_option maxRecDepth 100000 in
/-- names is not nil. -/
theorem law_some (s : Int) (hs : 0 ≤ s ∧ s ≤ 255) (ca : Option Addr) (cl cc : Nat) (z : Nat → Int) (hcl : cl ≤ 1024) (na : Addr) (n nc : Nat) (hn : n ≤ 1024) (ss : Nat → ByteArray) (w : World) (hca : Causes w ca cl z) (hna : Names w na n ss) :
    Calls Yba.prog 3 #[.int .u8 s, .slice ca cl cc, .slice (some na) n nc] w fun e w' => e = .returned (.bool true) ∧ Below w.heap.size w w' := by
  have HC : Hid (Causes w ca cl z) := hca
  have HN : Hid (Names w na n ss) := hna
  obtain ⟨hs0, hs1⟩ := hs
  have d1 : decide ((1024 : Int) < (cl : Int)) = false := decide_eq_false (by omega)
  have d2 : decide ((1024 : Int) < (n : Int)) = false := decide_eq_false (by omega)
  clear hca hna
  obtain ⟨i0, hi, hz0, hz1, hz2⟩ := info_parts infoField
  have n23 : ∀ W, (binOp .neq 23 (.slice (some na) n nc) (.slice none 0 0)).run Yba.prog W = .ok (.bool true) W := fun W => run_neq_slice_nil W 23 9 (some na) n nc Yba.underlying23
  have e23 : ∀ W, (binOp .eql 23 (.slice (some na) n nc) (.slice none 0 0)).run Yba.prog W = .ok (.bool false) W := fun W => Lib.run_eql_slice_nil W 23 9 (some na) n nc 0 0 Yba.underlying23
  have e24 : ∀ W a l c, (binOp .eql 24 (.slice (some a) l c) (.slice none 0 0)).run Yba.prog W = .ok (.bool false) W := fun W a l c => Lib.run_eql_slice_nil W 24 27 (some a) l c 0 0 Yba.underlying24
  go_enter Yba.func3, Yba.ntmps3
  go_wp2_with (at_make; refine wpList_make_own _ rfl _ _ 24 rfl w.heap.size 27 i0 _ 5 Yba.underlying24 hi hz0 hz1 .i64 .i64 _ n rfl rfl rfl (by rw [hz2]; omega) (by unfold maxLen; omega) (Nat.le_refl _) ?_)
  intro w1 hown1 hgrow1
  have hbel1 : Below w.heap.size w w1 := (Below.refl _ _).grown hgrow1 (Nat.le_refl _) (fun k hk => by cases hk)
  have HO1 := Lib.hid hown1
  have HB1 := Lib.hid hbel1
  clear hown1 hgrow1 hbel1
  go_wp2
  go_loopw [7, 8] (fun rd t wr => ∃ k : Nat, t = .int .i64 k ∧ k ≤ n ∧ rd = .slice (some ⟨w.heap.size, 0, none⟩) k n ∧ wr.ownsRow w.heap.size 27 5 (.slice (some ⟨w.heap.size, 0, none⟩) k n) k (flds ss k) ∧ Below w.heap.size w wr) (fun _ t _ => n - (intOf t).toNat)
  case atStart => exact ⟨0, rfl, Nat.zero_le _, rfl, HO1.out, HB1.out⟩
  case round =>
    obtain ⟨k, rfl, hk, rfl, hown, hbel⟩ := hrel
    rename World => wr
    have HB2 := Lib.hid hbel
    have HO2 := Lib.hid hown
    have hszw : w.heap.size ≤ wr.heap.size := hbel.size
    rcases Nat.lt_or_ge k n with hlt | hge
    · obtain ⟨b, off, rfl, hb, hcell⟩ := HN.out (by omega)
      have hck : wr.cell? ⟨b, off + k, none⟩ = some (.string (ss k)) := by
        rw [hbel.cell (p := ⟨b, off + k, none⟩) hb]
        exact hcell k hlt
      have hki : (k : Int) < n := by omega
      clear hcell hbel
      go_wp2_with (at_builtin; refine wpList_append_fits _ rfl _ _ 24 rfl w.heap.size 27 i0 5 Yba.underlying24 hi hz1 w.heap.size k n _ rfl (hown.alloc _) ⟨wr.heap.size, 0, none⟩ 1 1 [.string (ss k), .int .u8 0, .bool false, .int .i64 0, .string ByteArray.empty] rfl rfl ?c1 ?c2 ?c3 ?_)
      case c1 =>
        intro j u hj
        match j, hj with
        | 0, hj => simp at hj; subst hj; simp [Addr.add]
        | 1, hj => simp at hj; subst hj; simp [Addr.add]
        | 2, hj => simp at hj; subst hj; simp [Addr.add]
        | 3, hj => simp at hj; subst hj; simp [Addr.add]
        | 4, hj => simp at hj; subst hj; simp [Addr.add]; rfl
        | j + 5, hj => simp at hj
      case c2 =>
        intro u hu
        simp at hu
        rcases hu with rfl | rfl | rfl | rfl | rfl <;> rfl
      case c3 => omega
      intro w2 hown2 hgrow2
      have hbel2 : Below w.heap.size w w2 := (HB2.out.alloc hszw _).grown hgrow2 (by simp; omega) (fun j hj => by cases hj; exact Nat.le_refl _)
      have HO3 := Lib.hid hown2
      have HB3 := Lib.hid hbel2
      clear hown2 hgrow2 hbel2 hown
      go_wp2
      go_roundw
      case rel => exact ⟨k + 1, by go_num, by omega, by simp, HO3.out, HB3.out⟩
      case measure => simp [intOf]; omega
    · obtain rfl : n = k := by omega
      have hki : ¬ (n : Int) < n := by omega
      have hRs : w.heap.size < wr.heap.size := (hown.lt w.heap.size rfl).2
      have hFl : ∀ j, j < n → wr.cell? ⟨w.heap.size, j * 5, none⟩ = some (.string (ss j)) := fun j hj => by
        have := hown.cells (g := w.heap.size) rfl (j * 5) _ (flds_at ss n j hj)
        rw [Addr.add_lit, Nat.zero_add] at this
        exact this
      have HFL := Lib.hid hFl
      clear hown hbel hFl
      go_wp2
      go_loopw [10] (fun t ws => ∃ k : Nat, t = .int .i64 k ∧ k ≤ cl ∧ Req ws wr.heap.size (cur s z k) (.slice (some ⟨w.heap.size, 0, none⟩) n n) ∧ Below wr.heap.size wr ws ∧ wr.heap.size < ws.heap.size) (fun t _ => cl - (intOf t).toNat)
      case atStart => exact ⟨0, rfl, Nat.zero_le _, req_new wr s _ _ _ _ _ _ _, (Below.refl _ _).alloc (Nat.le_refl _) _, by simp⟩
      case round =>
        obtain ⟨k, rfl, hk, hreq, hbel, hsz⟩ := hrel
        rename World => ws
        have HR : Hid (Req ws wr.heap.size (cur s z k) (.slice (some ⟨w.heap.size, 0, none⟩) n n)) := hreq
        have HB : Hid (Below wr.heap.size wr ws) := hbel
        rcases Nat.lt_or_ge k cl with hlt | hge
        · obtain ⟨b, off, rfl, hb, hcell⟩ := HC.out (by omega)
          have hck : ws.cell? ⟨b, off + k, none⟩ = some (.int .u8 (z k)) := by
            rw [hbel.cell (p := ⟨b, off + k, none⟩) (by show b < wr.heap.size; omega), HB2.out.cell (p := ⟨b, off + k, none⟩) hb]
            exact hcell k hlt
          have hfail := fail_any wr.heap.size (cur s z k) (z k) ws hreq.cause hreq.free
          have HX : Hid (cur s z (k + 1) = nxt (cur s z k) (z k)) := rfl
          have hki : (k : Int) < cl := by omega
          clear hcell hreq hbel
          go_wp2_with (go_at_call 4; refine hfail.mono ?_; rintro e w' ⟨rfl, hF⟩; refine Hid.out ?_)
          refine Lib.hid ?_
          have HF := Lib.hid hF
          have HFS : wr.heap.size < (by assumption : World).heap.size := by
            have := HF.out.below.size
            omega
          clear hF hfail
          go_wp2
          go_roundw
          case rel => exact ⟨k + 1, by go_num, by omega, by rw [HX.out]; exact HR.out.failed HF.out, HB.out.trans HF.out.below, HFS⟩
          case measure => simp [intOf]; omega
        · obtain rfl : k = cl := by omega
          have hki : ¬ (k : Int) < k := by omega
          clear hreq hbel
          go_wp2
          go_loop [11, 12] (fun wt t => ∃ i : Nat, t = .int .i64 i ∧ i ≤ k ∧ wt = .int .u8 (cur s z i)) (fun _ t => k - (intOf t).toNat)
          case atStart => exact ⟨0, rfl, Nat.zero_le _, rfl⟩
          case round =>
            obtain ⟨i, rfl, hi, rfl⟩ := hrel
            by_cases hA : i < k ∧ cur s z i = 0
            · obtain ⟨hik, h0⟩ := hA
              obtain ⟨b, off, rfl, hb, hcell⟩ := HC.out (by omega)
              have hck : ws.cell? ⟨b, off + i, none⟩ = some (.int .u8 (z i)) := by
                rw [HB.out.cell (p := ⟨b, off + i, none⟩) (by show b < wr.heap.size; omega), HB2.out.cell (p := ⟨b, off + i, none⟩) hb]
                exact hcell i hik
              have HX : Hid (cur s z (i + 1) = z i) := by show nxt _ _ = _; simp [nxt, h0]
              have hki : (i : Int) < k := by omega
              rw [h0]
              clear hcell h0
              go_wp2
              go_round
              case rel => exact ⟨i + 1, by go_num, by omega, by rw [HX.out]⟩
              case measure => simp [intOf]; omega
            · have hcur : cur s z i = cur s z k := cur_eq hi (by
                rcases Nat.lt_or_ge i k with h | h
                · exact .inr (fun h0 => hA ⟨h, h0⟩)
                · exact .inl (by omega))
              have hc3 := HR.out.cause
              have hc2 := HR.out.err
              have hc7 := HR.out.read
              rw [← hcur] at hc3
              by_cases hik : i < k
              · have h0 : (cur s z i == 0) = false := beq_eq_false_iff_ne.2 (fun h => hA ⟨hik, h⟩)
                have hki : (i : Int) < k := by omega
                clear hcur hA
                generalize cur s z i = c at *
                go_wp2
                have HQ : Hid (Below w.heap.size w ws) := HB2.out.trans (HB.out.mono hszw)
                go_loopw [13] (fun t wq => ∃ j : Nat, t = .int .i64 j ∧ j ≤ n ∧ ∃ q, wq = ws.drewN q) (fun t _ => n - (intOf t).toNat)
                case atStart => exact ⟨0, rfl, Nat.zero_le _, 0, rfl⟩
                case round =>
                  obtain ⟨j, rfl, hj, q, rfl⟩ := hrel
                  rcases Nat.lt_or_ge j n with hjn | hjn
                  · obtain ⟨b, off, rfl, hb, hcell⟩ := HN.out (by omega)
                    have hq1 : ws.cell? ⟨b, off + j, none⟩ = some (.string (ss j)) := by
                      rw [HQ.out.cell (p := ⟨b, off + j, none⟩) hb]
                      exact hcell j hjn
                    have hq2 : ws.cell? ⟨wr.heap.size, 7, none⟩ = some (.slice (some ⟨w.heap.size, 0, none⟩) n n) := by
                      exact hc7
                    have hq3 : ws.cell? ⟨w.heap.size, j * 5, none⟩ = some (.string (ss j)) := by
                      rw [HB.out.cell (p := ⟨w.heap.size, j * 5, none⟩) hRs]
                      exact HFL.out j hjn
                    have hji : (j : Int) < n := by omega
                    clear hcell hc2 hc3 hc7
                    go_wp2
                    go_quiet (fail)
                    go_wp2
                    go_roundw
                    case rel => exact ⟨j + 1, by go_num, by omega, _, rfl⟩
                    case measure => simp [intOf]; omega
                  · have hji : ¬ (j : Int) < n := by omega
                    go_wp2
                    go_ret
                    exact ⟨rfl, HQ.out.trans ⟨rfl, rfl, rfl, Nat.le_refl _, fun _ _ => rfl⟩⟩
              · have hki : ¬ (i : Int) < k := by omega
                clear hcur hA
                generalize cur s z i = c at *
                go_wp2
                have HQ : Hid (Below w.heap.size w ws) := HB2.out.trans (HB.out.mono hszw)
                go_loopw [13] (fun t wq => ∃ j : Nat, t = .int .i64 j ∧ j ≤ n ∧ ∃ q, wq = ws.drewN q) (fun t _ => n - (intOf t).toNat)
                case atStart => exact ⟨0, rfl, Nat.zero_le _, 0, rfl⟩
                case round =>
                  obtain ⟨j, rfl, hj, q, rfl⟩ := hrel
                  rcases Nat.lt_or_ge j n with hjn | hjn
                  · obtain ⟨b, off, rfl, hb, hcell⟩ := HN.out (by omega)
                    have hq1 : ws.cell? ⟨b, off + j, none⟩ = some (.string (ss j)) := by
                      rw [HQ.out.cell (p := ⟨b, off + j, none⟩) hb]
                      exact hcell j hjn
                    have hq2 : ws.cell? ⟨wr.heap.size, 7, none⟩ = some (.slice (some ⟨w.heap.size, 0, none⟩) n n) := by
                      exact hc7
                    have hq3 : ws.cell? ⟨w.heap.size, j * 5, none⟩ = some (.string (ss j)) := by
                      rw [HB.out.cell (p := ⟨w.heap.size, j * 5, none⟩) hRs]
                      exact HFL.out j hjn
                    have hji : (j : Int) < n := by omega
                    clear hcell hc2 hc3 hc7
                    go_wp2
                    go_quiet (fail)
                    go_wp2
                    go_roundw
                    case rel => exact ⟨j + 1, by go_num, by omega, _, rfl⟩
                    case measure => simp [intOf]; omega
                  · have hji : ¬ (j : Int) < n := by omega
                    go_wp2
                    go_ret
                    exact ⟨rfl, HQ.out.trans ⟨rfl, rfl, rfl, Nat.le_refl _, fun _ _ => rfl⟩⟩

/-- One of the two slices is too long: nothing is asked. -/
theorem law_long (s : Int) (ca : Option Addr) (cl cc : Nat) (na : Option Addr) (n nc : Nat) (h : 1024 < cl ∨ 1024 < n) (w : World) :
    Calls Yba.prog 3 #[.int .u8 s, .slice ca cl cc, .slice na n nc] w fun e w' => e = .returned (.bool true) ∧ Below w.heap.size w w' := by
  by_cases h1 : 1024 < cl
  · have d1 : decide ((1024 : Int) < (cl : Int)) = true := decide_eq_true (by omega)
    go_enter Yba.func3, Yba.ntmps3
    go_wp2
    go_ret
    exact ⟨rfl, Below.refl _ _⟩
  · have d1 : decide ((1024 : Int) < (cl : Int)) = false := decide_eq_false (by omega)
    have d2 : decide ((1024 : Int) < (n : Int)) = true := decide_eq_true (by omega)
    go_enter Yba.func3, Yba.ntmps3
    go_wp2
    go_ret
    exact ⟨rfl, Below.refl _ _⟩
end Go.Proofs.Ybulkcxbc
