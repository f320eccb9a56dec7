/- Contracts of Go's library at this program. -/
import Derived.Shelf.Lays
import Derived.Shelf.Unicode.Decode
import Derived.Test.YtcmpcjffmccllaaGreatDoorProg
namespace Go.Proofs.YtcmpcjffmccllaaGreatDoor
open Go.Shelf

def Su.lays197_ren : Go.Shelf.Ren := ⟨fun | 197 => 106 | 260 => 160 | n => n, fun | 9 => 9 | 21 => 21 | 3 => 3 | 4 => 4 | 5 => 5 | 105 => 188 | 119 => 290 | 0 => 0 | 46 => 50 | 139 => 293 | 138 => 292 | n => n, fun | 3 => 2 | 4 => 3 | n => n⟩
theorem Su.lays197 : Go.Proofs.Lays.n197 Tryz.prog Su.lays197_ren := {
  mixed := by kernel_rfl
  f197 := Tryz.func106.trans (congrArg some (by kernel_rfl))
  f260 := Tryz.func160.trans (congrArg some (by kernel_rfl))
  t0 := Tryz.underlying0
  a0 := Tryz.isAgg0
  z0 := Tryz.sizeOf0
  v0 := Tryz.zeroValue0
  t3 := Tryz.underlying3
  a3 := Tryz.isAgg3
  z3 := Tryz.sizeOf3
  v3 := Tryz.zeroValue3
  t4 := Tryz.underlying4
  a4 := Tryz.isAgg4
  z4 := Tryz.sizeOf4
  v4 := Tryz.zeroValue4
  t5 := Tryz.underlying5
  a5 := Tryz.isAgg5
  z5 := Tryz.sizeOf5
  v5 := Tryz.zeroValue5
  t9 := Tryz.underlying9
  a9 := Tryz.isAgg9
  z9 := Tryz.sizeOf9
  v9 := Tryz.zeroValue9
  t21 := Tryz.underlying21
  a21 := Tryz.isAgg21
  z21 := Tryz.sizeOf21
  v21 := Tryz.zeroValue21
  t46 := Tryz.underlying50
  a46 := Tryz.isAgg50
  z46 := Tryz.sizeOf50
  v46 := Tryz.zeroValue50
  t105 := Tryz.underlying188
  a105 := Tryz.isAgg188
  z105 := Tryz.sizeOf188
  v105 := Tryz.zeroValue188
  t119 := Tryz.underlying290
  a119 := Tryz.isAgg290
  z119 := Tryz.sizeOf290
  t138 := Tryz.underlying292
  a138 := Tryz.isAgg292
  z138 := Tryz.sizeOf292
  v138 := Tryz.zeroValue292
  t139 := Tryz.underlying293
  a139 := Tryz.isAgg293
  z139 := Tryz.sizeOf293
  v139 := Tryz.zeroValue293
  g3 := by kernel_rfl
  g4 := by kernel_rfl }
open Go.RowKit Go.Lib in
theorem Su.utf8_DecodeRuneInString_ascii (s : ByteArray) (x : UInt8) (w : World) (h0 : s.data.toList[0]? = some x) (hx : x.toNat < 128) :
    Calls Tryz.prog 106 #[.string s] w fun e w' => e = .returned (.tuple #[.int .i32 x.toNat, .int .i64 1]) ∧ w' = w := Any.utf8_DecodeRuneInString_ascii Su.lays197 s x w h0 hx

end Go.Proofs.YtcmpcjffmccllaaGreatDoor
