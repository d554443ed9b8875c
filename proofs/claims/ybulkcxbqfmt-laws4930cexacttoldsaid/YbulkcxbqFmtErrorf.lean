/-
  THE CLOSED FACTS FOR THE WALK OVER THE STOPPED fmt.errorf (after the kit's own make at another program), AND fmt.Errorf's CONTRACT at this program's one format: whatever text F gives, it hands back a new error that is not nil.
-/
import Derived.Test.YbulkcxbqFmtProg
import Derived.Stop.CallBack
import Derived.Stop.IfaceNil
import GoSem.ClaimData
import Derived.WalkKit
import Derived.WalkSpells
import Derived.Below
namespace Go.Proofs.YbulkcxbqFmt
open Go.Extern.Stop Go.Stop Go.Extern Go.RowKit

theorem call11 (args : Array Value) (w : World) : (callFunc 11 args).run Ybaf.prog w = ((FmtStop.errorf #[9, 34] #[23] args).run Ybaf.prog w).andThen fun v w' => .ok (.value v) w' :=
  run_callFunc_extern Ybaf.func11 (by kernel_rfl) (by kernel_rfl) (by kernel_rfl) (by kernel_rfl) args w
theorem fguard (name : String) (w : World) : (FmtStop.guard name).run Ybaf.prog w = .ok () w := by kernel_rfl
theorem fprinted (w : World) : (FmtDoors.printed ⟨#[37, 113, 32, 105, 115, 32, 110, 111, 116, 32, 97, 110, 32, 97, 112, 112, 114, 111, 118, 105, 110, 103, 32, 98, 111, 100, 121, 59, 32, 119, 97, 110, 116, 32, 111, 110, 101, 32, 111, 102, 32, 37, 115]⟩ 2).run Ybaf.prog w = .ok [(0, 113, false), (1, 115, false)] w := by kernel_rfl
def shape9 : List UInt8 := [12, 6, 0, 0, 0, 0, 0, 0, 0, 115, 116, 114, 105, 110, 103]
theorem op113 (name : String) (x : ByteArray) (w : World) : (FmtStop.operand name true 113 false (.iface 9 (.string x))).run Ybaf.prog w = .ok (shape9, FmtStop.pack x.data.toList) w := by kernel_rfl
theorem op115 (name : String) (x : ByteArray) (w : World) : (FmtStop.operand name true 115 false (.iface 9 (.string x))).run Ybaf.prog w = .ok (shape9, FmtStop.pack x.data.toList) w := by kernel_rfl
theorem ptr45 (w : World) : (FmtStop.ptrTo "errors.errorString").run Ybaf.prog w = .ok 45 w := by kernel_rfl
theorem elem45 (w : World) : (elemOf 45).run Ybaf.prog w = .ok 47 w := by kernel_rfl

attribute [local go_sem] call11 fguard fprinted op113 op115 ptr45 elem45

set_option maxHeartbeats 1600000 in
theorem errorf_any (F : Interp) (s j : ByteArray) (b : Nat) (w : World) (hF : F.answers w.tape) (h0 : w.cell? ⟨b, 0, none⟩ = some (.iface 9 (.string s))) (h1 : w.cell? ⟨b, 1, none⟩ = some (.iface 9 (.string j))) :
    Calls Ybaf.prog 8 #[.string ⟨#[37, 113, 32, 105, 115, 32, 110, 111, 116, 32, 97, 110, 32, 97, 112, 112, 114, 111, 118, 105, 110, 103, 32, 98, 111, 100, 121, 59, 32, 119, 97, 110, 116, 32, 111, 110, 101, 32, 111, 102, 32, 37, 115]⟩, .slice (some ⟨b, 0, none⟩) 2 2] w fun e w' => ∃ x, e = .returned (.iface 45 x) ∧ Below w.heap.size w w' := by
  have hF' := answers_open hF
  go_enter Ybaf.func8, Ybaf.ntmps8
  go_wp2
  go_ret
  exact ⟨_, rfl, ((Below.refl _ _).alloc (Nat.le_refl _) _).drew⟩
end Go.Proofs.YbulkcxbqFmt
