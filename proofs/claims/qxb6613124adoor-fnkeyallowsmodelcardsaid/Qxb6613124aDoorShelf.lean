/-
  Contracts of the guide's shelf, laid at this seat's dump (written by the guide's lay-shelf and lay-plain for this program; its remarks struck).
-/
import Derived.Shelf.Strings.Search1
import Derived.Shelf.Strings.LastIndex
import Derived.Shelf.Unicode.CaseLaid
import Derived.Ground.PaProg
import Derived.Shelf.Hex.More
import Derived.Test.Qxb6613124aDoorProg
namespace Go.Proofs
open Go.Shelf
def Tryd.lays217_ren : Go.Shelf.Ren := ⟨fun | 217 => 75 | 266 => 84 | n => n, fun | 9 => 9 | 5 => 5 | 3 => 3 | n => n, fun | n => n⟩
theorem Tryd.lays217 : Go.Proofs.Lays.n217 Tryd.prog Tryd.lays217_ren := {
  mixed := by kernel_rfl
  f217 := Tryd.func75.trans (congrArg some (by kernel_rfl))
  f266 := Tryd.func84.trans (congrArg some (by kernel_rfl))
  t3 := Tryd.underlying3
  a3 := Tryd.isAgg3
  z3 := Tryd.sizeOf3
  v3 := Tryd.zeroValue3
  t5 := Tryd.underlying5
  a5 := Tryd.isAgg5
  z5 := Tryd.sizeOf5
  v5 := Tryd.zeroValue5
  t9 := Tryd.underlying9
  a9 := Tryd.isAgg9
  z9 := Tryd.sizeOf9
  v9 := Tryd.zeroValue9 }
open Go.RowKit Go.Lib in
theorem Tryd.stringslite_IndexByte (s : ByteArray) (c : Int) (w : World) :
    Calls Tryd.prog 75 #[.string s, .int .u8 c] w fun e w' => e = .returned (.int .i64 (Lib.indexByte s.data.toList c.toNat.toUInt8)) ∧ w' = w := Any.stringslite_IndexByte Tryd.lays217 s c w
def Tryd.lays149_ren : Go.Shelf.Ren := ⟨fun | 149 => 42 | 222 => 57 | n => n, fun | 9 => 9 | 5 => 5 | 3 => 3 | 4 => 4 | n => n, fun | n => n⟩
theorem Tryd.lays149 : Go.Proofs.Lays.n149 Tryd.prog Tryd.lays149_ren := {
  mixed := by kernel_rfl
  f149 := Tryd.func42.trans (congrArg some (by kernel_rfl))
  f222 := Tryd.func57.trans (congrArg some (by kernel_rfl))
  t3 := Tryd.underlying3
  a3 := Tryd.isAgg3
  z3 := Tryd.sizeOf3
  v3 := Tryd.zeroValue3
  t4 := Tryd.underlying4
  a4 := Tryd.isAgg4
  z4 := Tryd.sizeOf4
  v4 := Tryd.zeroValue4
  t5 := Tryd.underlying5
  a5 := Tryd.isAgg5
  z5 := Tryd.sizeOf5
  v5 := Tryd.zeroValue5
  t9 := Tryd.underlying9
  a9 := Tryd.isAgg9
  z9 := Tryd.sizeOf9
  v9 := Tryd.zeroValue9 }
open Go.RowKit Go.Lib in
theorem Tryd.strings_LastIndexByte (s : ByteArray) (c : Int) (hs : s.size < 4611686018427387904) (w : World) :
    Calls Tryd.prog 42 #[.string s, .int .u8 c] w fun e w' => e = .returned (.int .i64 (Lib.lastIndexByte s c)) ∧ w' = w := Any.strings_LastIndexByte Tryd.lays149 s c hs w
def Tryd.lays204_ren : Go.Shelf.Ren := ⟨fun | 204 => 105 | 262 => 106 | 313 => 107 | 274 => 82 | 275 => 83 | n => n, fun | 21 => 21 | 4 => 4 | 3 => 3 | 162 => 131 | 203 => 159 | 160 => 129 | 46 => 122 | 0 => 0 | 208 => 143 | 51 => 133 | 206 => 141 | n => n, fun | 13 => 3 | n => n⟩
theorem Tryd.lays204 : Go.Proofs.Lays.n204 Tryd.prog Tryd.lays204_ren := {
  mixed := by kernel_rfl
  f204 := Tryd.func105.trans (congrArg some (by kernel_rfl))
  f262 := Tryd.func106.trans (congrArg some (by kernel_rfl))
  f274 := Tryd.func82.trans (congrArg some (by kernel_rfl))
  f275 := Tryd.func83.trans (congrArg some (by kernel_rfl))
  f313 := Tryd.func107.trans (congrArg some (by kernel_rfl))
  t0 := Tryd.underlying0
  a0 := Tryd.isAgg0
  z0 := Tryd.sizeOf0
  v0 := Tryd.zeroValue0
  t3 := Tryd.underlying3
  a3 := Tryd.isAgg3
  z3 := Tryd.sizeOf3
  v3 := Tryd.zeroValue3
  t4 := Tryd.underlying4
  a4 := Tryd.isAgg4
  z4 := Tryd.sizeOf4
  v4 := Tryd.zeroValue4
  t21 := Tryd.underlying21
  a21 := Tryd.isAgg21
  z21 := Tryd.sizeOf21
  v21 := Tryd.zeroValue21
  t46 := Tryd.underlying122
  a46 := Tryd.isAgg122
  z46 := Tryd.sizeOf122
  v46 := Tryd.zeroValue122
  t51 := Tryd.underlying133
  a51 := Tryd.isAgg133
  z51 := Tryd.sizeOf133
  v51 := Tryd.zeroValue133
  t160 := Tryd.underlying129
  a160 := Tryd.isAgg129
  z160 := Tryd.sizeOf129
  v160 := Tryd.zeroValue129
  t162 := Tryd.underlying131
  a162 := Tryd.isAgg131
  z162 := Tryd.sizeOf131
  v162 := Tryd.zeroValue131
  t203 := Tryd.underlying159
  a203 := Tryd.isAgg159
  z203 := Tryd.sizeOf159
  v203 := Tryd.zeroValue159
  t206 := Tryd.underlying141
  a206 := Tryd.isAgg141
  z206 := Tryd.sizeOf141
  v206 := Tryd.zeroValue141
  t208 := Tryd.underlying143
  a208 := Tryd.isAgg143
  z208 := Tryd.sizeOf143
  v208 := Tryd.zeroValue143
  g13 := by kernel_rfl }
open Go.RowKit Go.Lib in
theorem Tryd.unicode_ToLower_laid (r : Int) (w : World) (hV : CaseVar 3 caseA w) :
    Calls Tryd.prog 105 #[.int .i32 r] w fun e w' => e = .returned (.int .i32 (toLowerU r)) ∧ ∃ q, w' = w.drewN q := Any.unicode_ToLower_laid Tryd.lays204 r w hV
def Tryd.laysPah39_ren : Go.Shelf.Ren := ⟨fun | 39 => 63 | 41 => 72 | 40 => 73 | n => n, fun | 30 => 78 | 9 => 9 | 3 => 3 | 0 => 0 | 5 => 5 | 46 => 122 | n => n, fun | n => n⟩
theorem Tryd.laysPah39 : Go.Proofs.Lays.ph39 Tryd.prog Tryd.laysPah39_ren := {
  mixed := by kernel_rfl
  f39 := Tryd.func63.trans (congrArg some (by kernel_rfl))
  f40 := Tryd.func73.trans (congrArg some (by kernel_rfl))
  f41 := Tryd.func72.trans (congrArg some (by kernel_rfl))
  t0 := Tryd.underlying0
  a0 := Tryd.isAgg0
  z0 := Tryd.sizeOf0
  v0 := Tryd.zeroValue0
  t3 := Tryd.underlying3
  a3 := Tryd.isAgg3
  z3 := Tryd.sizeOf3
  v3 := Tryd.zeroValue3
  t5 := Tryd.underlying5
  a5 := Tryd.isAgg5
  z5 := Tryd.sizeOf5
  v5 := Tryd.zeroValue5
  t9 := Tryd.underlying9
  a9 := Tryd.isAgg9
  z9 := Tryd.sizeOf9
  v9 := Tryd.zeroValue9
  t30 := Tryd.underlying78
  a30 := Tryd.isAgg78
  z30 := Tryd.sizeOf78
  v30 := Tryd.zeroValue78
  t46 := Tryd.underlying122
  a46 := Tryd.isAgg122
  z46 := Tryd.sizeOf122
  v46 := Tryd.zeroValue122
  info5 := by kernel_rfl }
open Go.RowKit Go.Lib in
theorem Tryd.hex_EncodeToString_bytes (bs os cs : Nat) (l : List UInt8) (w : World) (hsrc : ∀ i (h : i < l.length), w.cell? ⟨bs, os + i, none⟩ = some (.int .u8 ((l[i]'h).toNat : Int))) (hb : bs < w.heap.size) (hbig : 2 * l.length ≤ 281474976710656) :
    Calls Tryd.prog 63 #[.slice (some ⟨bs, os, none⟩) l.length cs] w fun e w' => e = .returned (.string ⟨(Hx.encode l).toArray⟩) ∧ Below w.heap.size w w' := Any.hex_EncodeToString_bytes Tryd.laysPah39 bs os cs l w hsrc hb hbig
open Go.RowKit in
theorem Tryd.hex_EncodeToString_nil (w : World) : Calls Tryd.prog 63 #[.slice none 0 0] w fun e w' => e = .returned (.string ⟨#[]⟩) ∧ Below w.heap.size w w' := Any.hex_EncodeToString_nil Tryd.laysPah39 w
end Go.Proofs
