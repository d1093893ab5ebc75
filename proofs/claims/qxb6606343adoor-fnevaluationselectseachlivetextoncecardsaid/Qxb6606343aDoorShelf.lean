/-
  strings.Join's contract of the guide's shelf, laid at this seat's dump (written by the guide's lay-shelf and lay-plain for this program; its remarks struck).
-/
import Derived.Shelf.Strings.OnBuilder
import Derived.Test.Qxb6606343aDoorProg
namespace Go.Proofs
open Go.Shelf
def Tryd.lays156_ren : Go.Shelf.Ren := ⟨fun | 156 => 25 | 165 => 31 | 166 => 32 | 169 => 33 | 240 => 37 | 241 => 38 | 276 => 43 | 277 => 44 | n => n, fun | 31 => 28 | 9 => 9 | 3 => 3 | 4 => 4 | 0 => 0 | 20 => 20 | 72 => 66 | 76 => 70 | 70 => 64 | 37 => 39 | 75 => 69 | 127 => 77 | 164 => 89 | 5 => 5 | 80 => 72 | n => n, fun | n => n⟩
theorem Tryd.lays156 : Go.Proofs.Lays.n156 Tryd.prog Tryd.lays156_ren := {
  mixed := by kernel_rfl
  f156 := Tryd.func25.trans (congrArg some (by kernel_rfl))
  f165 := Tryd.func31.trans (congrArg some (by kernel_rfl))
  f166 := Tryd.func32.trans (congrArg some (by kernel_rfl))
  f169 := Tryd.func33.trans (congrArg some (by kernel_rfl))
  f240 := Tryd.func37.trans (congrArg some (by kernel_rfl))
  f241 := Tryd.func38.trans (congrArg some (by kernel_rfl))
  f276 := Tryd.func43.trans (congrArg some (by kernel_rfl))
  f277 := Tryd.func44.trans (congrArg some (by kernel_rfl))
  t0 := Tryd.underlying0
  a0 := Tryd.isAgg0
  z0 := Tryd.sizeOf0
  v0 := Tryd.zeroValue0
  t3 := Tryd.underlying3
  a3 := Tryd.isAgg3
  z3 := Tryd.sizeOf3
  v3 := Tryd.zeroValue3
  t4 := Tryd.underlying4
  a4 := Tryd.isAgg4
  z4 := Tryd.sizeOf4
  v4 := Tryd.zeroValue4
  t9 := Tryd.underlying9
  a9 := Tryd.isAgg9
  z9 := Tryd.sizeOf9
  v9 := Tryd.zeroValue9
  t20 := Tryd.underlying20
  a20 := Tryd.isAgg20
  z20 := Tryd.sizeOf20
  v20 := Tryd.zeroValue20
  t31 := Tryd.underlying28
  a31 := Tryd.isAgg28
  z31 := Tryd.sizeOf28
  v31 := Tryd.zeroValue28
  t37 := Tryd.underlying39
  a37 := Tryd.isAgg39
  z37 := Tryd.sizeOf39
  v37 := Tryd.zeroValue39
  t70 := Tryd.underlying64
  a70 := Tryd.isAgg64
  z70 := Tryd.sizeOf64
  v70 := Tryd.zeroValue64
  t72 := Tryd.underlying66
  a72 := Tryd.isAgg66
  z72 := Tryd.sizeOf66
  v72 := Tryd.zeroValue66
  t75 := Tryd.underlying69
  a75 := Tryd.isAgg69
  z75 := Tryd.sizeOf69
  v75 := Tryd.zeroValue69
  t76 := Tryd.underlying70
  a76 := Tryd.isAgg70
  z76 := Tryd.sizeOf70
  v76 := Tryd.zeroValue70
  t127 := Tryd.underlying77
  a127 := Tryd.isAgg77
  z127 := Tryd.sizeOf77
  v127 := Tryd.zeroValue77
  t164 := Tryd.underlying89
  a164 := Tryd.isAgg89
  z164 := Tryd.sizeOf89
  v164 := Tryd.zeroValue89 }
theorem Tryd.Builder_Extra_156 : Builder.Extra Tryd.prog Tryd.lays156_ren := {
  sizeBuilder := by kernel_rfl
  liesBuilder := by kernel_rfl
  t5 := Tryd.underlying5
  a5 := Tryd.isAgg5
  z5 := Tryd.sizeOf5
  v5 := Tryd.zeroValue5
  infoByte := by kernel_rfl
  cellsByte := by kernel_rfl
  sizeByte := by kernel_rfl
  neB5 := by decide }
open Go.RowKit in
theorem Tryd.strings_Join_none (a : Option Addr) (c : Nat) (sep : ByteArray) (w : World) :
    Calls Tryd.prog 25 #[.slice a 0 c, .string sep] w fun e w' => e = .returned (.string ⟨#[]⟩) ∧ w' = w := Any.strings_Join_none Tryd.lays156 Tryd.Builder_Extra_156 a c sep w
open Go.RowKit in
theorem Tryd.strings_Join (bk o c : Nat) (xs : List ByteArray) (sep : ByteArray) (w : World) (hcells : ∀ (j : Nat) x, xs[j]? = some x → w.cell? ⟨bk, o + j, none⟩ = some (.string x)) (hbk : bk < w.heap.size) (hN : xs.length ≤ 140737488355328) (hcap : xs.length ≤ c) (hlen : (Lib.join (xs.map (·.data.toList)) sep.data.toList).length ≤ 140737488355328) :
    Calls Tryd.prog 25 #[.slice (some ⟨bk, o, none⟩) xs.length c, .string sep] w fun e w' => e = .returned (.string ⟨(Lib.join (xs.map (·.data.toList)) sep.data.toList).toArray⟩) ∧ Below w.heap.size w w' := Any.strings_Join Tryd.lays156 Tryd.Builder_Extra_156 bk o c xs sep w hcells hbk hN hcap hlen
end Go.Proofs
