/-
  The library contracts of strings.Join and slices.Contains (at []string) at this program's numbers (written by the kit's lay-shelf and lay-plain, cut to what is used).
-/
import Derived.Shelf.Strings.Builder1
import Derived.Shelf.Strings.Builder2
import Derived.Shelf.Strings.OnBuilder
import Derived.Shelf.Slices.Turned
import Derived.Test.YbulkcxbqFmtProg
namespace Go.Proofs
open Go.Shelf
def Ybaf.lays156_ren : Go.Shelf.Ren := ⟨fun | 156 => 9 | 165 => 13 | 166 => 14 | 169 => 15 | 240 => 16 | 241 => 17 | 276 => 18 | 277 => 19 | n => n, fun | 31 => 30 | 9 => 9 | 3 => 3 | 4 => 4 | 0 => 0 | 20 => 20 | 72 => 40 | 76 => 42 | 70 => 37 | 37 => 38 | 75 => 23 | 127 => 48 | 164 => 49 | 5 => 5 | 80 => 44 | n => n, fun | n => n⟩
theorem Ybaf.lays156 : Go.Proofs.Lays.n156 Ybaf.prog Ybaf.lays156_ren := {
  mixed := by kernel_rfl
  f156 := Ybaf.func9.trans (congrArg some (by kernel_rfl))
  f165 := Ybaf.func13.trans (congrArg some (by kernel_rfl))
  f166 := Ybaf.func14.trans (congrArg some (by kernel_rfl))
  f169 := Ybaf.func15.trans (congrArg some (by kernel_rfl))
  f240 := Ybaf.func16.trans (congrArg some (by kernel_rfl))
  f241 := Ybaf.func17.trans (congrArg some (by kernel_rfl))
  f276 := Ybaf.func18.trans (congrArg some (by kernel_rfl))
  f277 := Ybaf.func19.trans (congrArg some (by kernel_rfl))
  t0 := Ybaf.underlying0
  a0 := Ybaf.isAgg0
  z0 := Ybaf.sizeOf0
  v0 := Ybaf.zeroValue0
  t3 := Ybaf.underlying3
  a3 := Ybaf.isAgg3
  z3 := Ybaf.sizeOf3
  v3 := Ybaf.zeroValue3
  t4 := Ybaf.underlying4
  a4 := Ybaf.isAgg4
  z4 := Ybaf.sizeOf4
  v4 := Ybaf.zeroValue4
  t9 := Ybaf.underlying9
  a9 := Ybaf.isAgg9
  z9 := Ybaf.sizeOf9
  v9 := Ybaf.zeroValue9
  t20 := Ybaf.underlying20
  a20 := Ybaf.isAgg20
  z20 := Ybaf.sizeOf20
  v20 := Ybaf.zeroValue20
  t31 := Ybaf.underlying30
  a31 := Ybaf.isAgg30
  z31 := Ybaf.sizeOf30
  v31 := Ybaf.zeroValue30
  t37 := Ybaf.underlying38
  a37 := Ybaf.isAgg38
  z37 := Ybaf.sizeOf38
  v37 := Ybaf.zeroValue38
  t70 := Ybaf.underlying37
  a70 := Ybaf.isAgg37
  z70 := Ybaf.sizeOf37
  v70 := Ybaf.zeroValue37
  t72 := Ybaf.underlying40
  a72 := Ybaf.isAgg40
  z72 := Ybaf.sizeOf40
  v72 := Ybaf.zeroValue40
  t75 := Ybaf.underlying23
  a75 := Ybaf.isAgg23
  z75 := Ybaf.sizeOf23
  v75 := Ybaf.zeroValue23
  t76 := Ybaf.underlying42
  a76 := Ybaf.isAgg42
  z76 := Ybaf.sizeOf42
  v76 := Ybaf.zeroValue42
  t127 := Ybaf.underlying48
  a127 := Ybaf.isAgg48
  z127 := Ybaf.sizeOf48
  v127 := Ybaf.zeroValue48
  t164 := Ybaf.underlying49
  a164 := Ybaf.isAgg49
  z164 := Ybaf.sizeOf49
  v164 := Ybaf.zeroValue49 }
theorem Ybaf.Builder_Extra_156 : Builder.Extra Ybaf.prog Ybaf.lays156_ren := {
  sizeBuilder := by kernel_rfl
  liesBuilder := by kernel_rfl
  t5 := Ybaf.underlying5
  a5 := Ybaf.isAgg5
  z5 := Ybaf.sizeOf5
  v5 := Ybaf.zeroValue5
  infoByte := by kernel_rfl
  cellsByte := by kernel_rfl
  sizeByte := by kernel_rfl
  neB5 := by decide }
open Go.RowKit in
theorem Ybaf.strings_Join_none (a : Option Addr) (c : Nat) (sep : ByteArray) (w : World) :
    Calls Ybaf.prog 9 #[.slice a 0 c, .string sep] w fun e w' => e = .returned (.string ⟨#[]⟩) ∧ w' = w := Any.strings_Join_none Ybaf.lays156 Ybaf.Builder_Extra_156 a c sep w
open Go.RowKit in
theorem Ybaf.strings_Join (bk o c : Nat) (xs : List ByteArray) (sep : ByteArray) (w : World) (hcells : ∀ (j : Nat) x, xs[j]? = some x → w.cell? ⟨bk, o + j, none⟩ = some (.string x)) (hbk : bk < w.heap.size) (hN : xs.length ≤ 140737488355328) (hcap : xs.length ≤ c) (hlen : (Lib.join (xs.map (·.data.toList)) sep.data.toList).length ≤ 140737488355328) :
    Calls Ybaf.prog 9 #[.slice (some ⟨bk, o, none⟩) xs.length c, .string sep] w fun e w' => e = .returned (.string ⟨(Lib.join (xs.map (·.data.toList)) sep.data.toList).toArray⟩) ∧ Below w.heap.size w w' := Any.strings_Join Ybaf.lays156 Ybaf.Builder_Extra_156 bk o c xs sep w hcells hbk hN hcap hlen
def Ybaf.lays110_ren : Go.Shelf.Ren := ⟨fun | 110 => 7 | 109 => 10 | n => n, fun | 31 => 30 | 9 => 9 | 4 => 4 | 3 => 3 | 0 => 0 | n => n, fun | n => n⟩
theorem Ybaf.lays110 : Go.Proofs.Lays.n110 Ybaf.prog Ybaf.lays110_ren := {
  mixed := by kernel_rfl
  f109 := Ybaf.func10.trans (congrArg some (by kernel_rfl))
  f110 := Ybaf.func7.trans (congrArg some (by kernel_rfl))
  t0 := Ybaf.underlying0
  a0 := Ybaf.isAgg0
  z0 := Ybaf.sizeOf0
  v0 := Ybaf.zeroValue0
  t3 := Ybaf.underlying3
  a3 := Ybaf.isAgg3
  z3 := Ybaf.sizeOf3
  v3 := Ybaf.zeroValue3
  t4 := Ybaf.underlying4
  a4 := Ybaf.isAgg4
  z4 := Ybaf.sizeOf4
  v4 := Ybaf.zeroValue4
  t9 := Ybaf.underlying9
  a9 := Ybaf.isAgg9
  z9 := Ybaf.sizeOf9
  v9 := Ybaf.zeroValue9
  t31 := Ybaf.underlying30
  a31 := Ybaf.isAgg30
  z31 := Ybaf.sizeOf30
  v31 := Ybaf.zeroValue30 }
open Go.Lib in
theorem Ybaf.slices_Contains_string (b off n c : Nat) (zs : List ByteArray) (x : ByteArray) (w : World) (hz : n ≤ zs.length) (hbig : n ≤ 9223372036854775807) (hc : ∀ j, j < zs.length → w.cell? ⟨b, off + j, none⟩ = some (.string (zs.getD j ByteArray.empty))) :
    Calls Ybaf.prog 7 #[.slice (some ⟨b, off, none⟩) n c, .string x] w fun e w' => e = .returned (.bool (Lib.containsS (zs.take n) x)) ∧ w' = w := Any.slices_Contains_string Ybaf.lays110 b off n c zs x w hz hbig hc
open Go.Lib in
theorem Ybaf.slices_Contains_string_empty (a : Option Addr) (c : Nat) (x : ByteArray) (w : World) :
    Calls Ybaf.prog 7 #[.slice a 0 c, .string x] w fun e w' => e = .returned (.bool false) ∧ w' = w := Any.slices_Contains_string_empty Ybaf.lays110 a c x w
end Go.Proofs
