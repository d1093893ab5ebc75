/-
  strconv.IsPrint's contract of the guide's shelf, laid at this seat's dump (written by the guide's lay-shelf and lay-plain for this program; its remarks struck).
-/
import Derived.Shelf.Strconv.IsPrint32
import Derived.Test.Qxb6613423aDoorProg
namespace Go.Proofs
open Go.Shelf
def Tryd.lays339_ren : Go.Shelf.Ren := ⟨fun | 339 => 9 | 345 => 10 | 346 => 11 | n => n, fun | 21 => 21 | 4 => 4 | 49 => 23 | 234 => 24 | 131 => 25 | 3 => 3 | 0 => 0 | 51 => 27 | 236 => 28 | 46 => 30 | n => n, fun | 20 => 0 | 21 => 1 | 22 => 2 | 23 => 3 | n => n⟩
theorem Tryd.lays339 : Go.Proofs.Lays.n339 Tryd.prog Tryd.lays339_ren := {
  mixed := by kernel_rfl
  f339 := Tryd.func9.trans (congrArg some (by kernel_rfl))
  f345 := Tryd.func10.trans (congrArg some (by kernel_rfl))
  f346 := Tryd.func11.trans (congrArg some (by kernel_rfl))
  t0 := Tryd.underlying0
  a0 := Tryd.isAgg0
  z0 := Tryd.sizeOf0
  v0 := Tryd.zeroValue0
  t3 := Tryd.underlying3
  a3 := Tryd.isAgg3
  z3 := Tryd.sizeOf3
  v3 := Tryd.zeroValue3
  t4 := Tryd.underlying4
  a4 := Tryd.isAgg4
  z4 := Tryd.sizeOf4
  v4 := Tryd.zeroValue4
  t21 := Tryd.underlying21
  a21 := Tryd.isAgg21
  z21 := Tryd.sizeOf21
  v21 := Tryd.zeroValue21
  t46 := Tryd.underlying30
  a46 := Tryd.isAgg30
  z46 := Tryd.sizeOf30
  v46 := Tryd.zeroValue30
  t49 := Tryd.underlying23
  a49 := Tryd.isAgg23
  z49 := Tryd.sizeOf23
  v49 := Tryd.zeroValue23
  t51 := Tryd.underlying27
  a51 := Tryd.isAgg27
  z51 := Tryd.sizeOf27
  v51 := Tryd.zeroValue27
  t131 := Tryd.underlying25
  a131 := Tryd.isAgg25
  z131 := Tryd.sizeOf25
  v131 := Tryd.zeroValue25
  t234 := Tryd.underlying24
  a234 := Tryd.isAgg24
  z234 := Tryd.sizeOf24
  v234 := Tryd.zeroValue24
  t236 := Tryd.underlying28
  a236 := Tryd.isAgg28
  z236 := Tryd.sizeOf28
  v236 := Tryd.zeroValue28
  g20 := by kernel_rfl
  g21 := by kernel_rfl
  g22 := by kernel_rfl
  g23 := by kernel_rfl }
open Go.RowKit in
theorem Tryd.strconv_IsPrint_32 (T : Lib.PrintTabs) (r : Nat) (w : World) (h1 : 65535 < r) (h2 : r < 2147483648) (hT : Lib.PrintTabsAt 0 1 2 3 T w) :
    Calls Tryd.prog 9 #[.int .i32 r] w fun e w' => e = .returned (.bool (Lib.isPrintR T r)) ∧ ∃ q, w' = w.drewN q := Any.strconv_IsPrint_32 Tryd.lays339 T r w h1 h2 hT
open Go.RowKit in
theorem Tryd.strconv_IsPrint (T : Lib.PrintTabs) (r : Int) (w : World) (hlo : -2147483648 ≤ r) (hhi : r ≤ 2147483647) (hT : Lib.PrintTabsAt 0 1 2 3 T w) :
    Calls Tryd.prog 9 #[.int .i32 r] w fun e w' => e = .returned (.bool (Lib.isPrintR T r)) ∧ ∃ q, w' = w.drewN q := Any.strconv_IsPrint Tryd.lays339 T r w hlo hhi hT
end Go.Proofs
