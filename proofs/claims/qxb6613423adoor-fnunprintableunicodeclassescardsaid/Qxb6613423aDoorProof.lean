/-
  THE ROWS AND THE TIED CARDS of seat b6613423aD, PROVED. The frame after the guide's Pindig.
-/
import Derived.Test.Qxb6613423aDoorCards
import Derived.Test.Qxb6613423aDoorTie
import Derived.Test.Qxb6613423aDoorWalk
import Derived.ProofKit
import Derived.PinnedBridge
import Derived.Lib.LaidPrint
import Derived.Lay
import Derived.SevenTiedAt
namespace Go.Proofs.Qxb6613423aDoor
open Go.ChangeShapes Go.WideShapes Go.ChangeAt Go.RowKit

theorem own : ownKnob Tryd.prog.godebug = none := by kernel_rfl
theorem extra : PrintExtra Tryd.prog Tryd.lays339_ren := ⟨by kernel_rfl, by kernel_rfl, by kernel_rfl, by kernel_rfl, by kernel_rfl, by kernel_rfl, by kernel_rfl, by kernel_rfl, by kernel_rfl, by kernel_rfl⟩

theorem tabs_of {W : World} (h20 : Lib.VarReads Tryd.prog W "strconv.isPrint16" Pinned.isPrint16) (h21 : Lib.VarReads Tryd.prog W "strconv.isNotPrint16" Pinned.isNotPrint16)
    (h22 : Lib.VarReads Tryd.prog W "strconv.isPrint32" Pinned.isPrint32) (h23 : Lib.VarReads Tryd.prog W "strconv.isNotPrint32" Pinned.isNotPrint32) : Tabs W :=
  printTabs_of_reads Tryd.lays339 extra (Pinned.isPrint16_eq ▸ h20) (Pinned.isNotPrint16_eq ▸ h21) (Pinned.isPrint32_eq ▸ h22) (Pinned.isNotPrint32_eq ▸ h23)

end Go.Proofs.Qxb6613423aDoor
