/- Contracts of the library's bytes.Buffer at this program. -/
import Derived.Shelf.LaysM
import Derived.Shelf.Bytes.Len
import Derived.Shelf.Bytes.String
import Derived.Shelf.Bytes.Bytes
import Derived.Shelf.Bytes.WriteByteKept
import Derived.Shelf.Bytes.WriteStringKept
import Derived.Test.YtbfmmikllelfeaaGreatDoorProg
namespace Go.Proofs.YtbfmmikllelfeaaGreatDoor
open Go.Shelf

def Sh.laysM181_ren : Go.Shelf.Ren := ⟨fun | 181 => 311 | n => n, fun | 130 => 103 | 3 => 3 | 0 => 0 | 93 => 101 | 37 => 44 | 91 => 99 | 5 => 5 | n => n, fun | n => n⟩
theorem Sh.laysM181 : Go.Proofs.LaysM.n181 Tryz.prog Sh.laysM181_ren := {
  mixed := by kernel_rfl
  f181 := Tryz.func311.trans (congrArg some (by kernel_rfl))
  t0 := Tryz.underlying0
  a0 := Tryz.isAgg0
  z0 := Tryz.sizeOf0
  v0 := Tryz.zeroValue0
  t3 := Tryz.underlying3
  a3 := Tryz.isAgg3
  z3 := Tryz.sizeOf3
  v3 := Tryz.zeroValue3
  t37 := Tryz.underlying44
  a37 := Tryz.isAgg44
  z37 := Tryz.sizeOf44
  v37 := Tryz.zeroValue44
  t93 := Tryz.underlying101
  a93 := Tryz.isAgg101
  z93 := Tryz.sizeOf101
  v93 := Tryz.zeroValue101
  t130 := Tryz.underlying103
  a130 := Tryz.isAgg103
  z130 := Tryz.sizeOf103
  v130 := Tryz.zeroValue103
  t5 := Tryz.underlying5
  a5 := Tryz.isAgg5
  z5 := Tryz.sizeOf5
  v5 := Tryz.zeroValue5
  t91 := Tryz.underlying99
  a91 := Tryz.isAgg99
  z91 := Tryz.sizeOf99
  v91 := Tryz.zeroValue99
  i0 := by kernel_rfl
  i3 := by kernel_rfl
  i5 := by kernel_rfl
  i37 := by kernel_rfl
  i91 := by kernel_rfl
  i93 := by kernel_rfl
  i130 := by kernel_rfl }
open Go.RowKit in
theorem Sh.Buffer_Len (B b : Nat) (bs : List Value) (w : World) (h : Lib.IsBuffer 101 5 B b bs w) :
    Calls Tryz.prog 311 #[.pointer (some ⟨b, 0, none⟩)] w fun e w' => e = .returned (.int .i64 bs.length) ∧ ∃ n, w' = w.drewN n := Any.Buffer_Len Sh.laysM181 B b bs w h

def Sh.laysM182_ren : Go.Shelf.Ren := ⟨fun | 182 => 67 | n => n, fun | 130 => 103 | 9 => 9 | 4 => 4 | 0 => 0 | 93 => 101 | 37 => 44 | 3 => 3 | 91 => 99 | 5 => 5 | n => n, fun | n => n⟩
theorem Sh.laysM182 : Go.Proofs.LaysM.n182 Tryz.prog Sh.laysM182_ren := {
  mixed := by kernel_rfl
  f182 := Tryz.func67.trans (congrArg some (by kernel_rfl))
  t0 := Tryz.underlying0
  a0 := Tryz.isAgg0
  z0 := Tryz.sizeOf0
  v0 := Tryz.zeroValue0
  t3 := Tryz.underlying3
  a3 := Tryz.isAgg3
  z3 := Tryz.sizeOf3
  v3 := Tryz.zeroValue3
  t4 := Tryz.underlying4
  a4 := Tryz.isAgg4
  z4 := Tryz.sizeOf4
  v4 := Tryz.zeroValue4
  t9 := Tryz.underlying9
  a9 := Tryz.isAgg9
  z9 := Tryz.sizeOf9
  v9 := Tryz.zeroValue9
  t37 := Tryz.underlying44
  a37 := Tryz.isAgg44
  z37 := Tryz.sizeOf44
  v37 := Tryz.zeroValue44
  t93 := Tryz.underlying101
  a93 := Tryz.isAgg101
  z93 := Tryz.sizeOf101
  v93 := Tryz.zeroValue101
  t130 := Tryz.underlying103
  a130 := Tryz.isAgg103
  z130 := Tryz.sizeOf103
  v130 := Tryz.zeroValue103
  t5 := Tryz.underlying5
  a5 := Tryz.isAgg5
  z5 := Tryz.sizeOf5
  v5 := Tryz.zeroValue5
  t91 := Tryz.underlying99
  a91 := Tryz.isAgg99
  z91 := Tryz.sizeOf99
  v91 := Tryz.zeroValue99
  i0 := by kernel_rfl
  i3 := by kernel_rfl
  i4 := by kernel_rfl
  i5 := by kernel_rfl
  i9 := by kernel_rfl
  i37 := by kernel_rfl
  i91 := by kernel_rfl
  i93 := by kernel_rfl
  i130 := by kernel_rfl }
open Go.RowKit in
theorem Sh.Buffer_String (B b : Nat) (l : List UInt8) (w : World) (h : Lib.IsBuffer 101 5 B b (Lib.byteCells l) w) :
    Calls Tryz.prog 67 #[.pointer (some ⟨b, 0, none⟩)] w fun e w' => e = .returned (.string ⟨l.toArray⟩) ∧ ∃ n, w' = w.drewN n := Any.Buffer_String Sh.laysM182 B b l w h

def Sh.laysM183_ren : Go.Shelf.Ren := ⟨fun | 183 => 329 | n => n, fun | 130 => 103 | 37 => 44 | 0 => 0 | 93 => 101 | 3 => 3 | 5 => 5 | 91 => 99 | n => n, fun | n => n⟩
theorem Sh.laysM183 : Go.Proofs.LaysM.n183 Tryz.prog Sh.laysM183_ren := {
  mixed := by kernel_rfl
  f183 := Tryz.func329.trans (congrArg some (by kernel_rfl))
  t0 := Tryz.underlying0
  a0 := Tryz.isAgg0
  z0 := Tryz.sizeOf0
  v0 := Tryz.zeroValue0
  t3 := Tryz.underlying3
  a3 := Tryz.isAgg3
  z3 := Tryz.sizeOf3
  v3 := Tryz.zeroValue3
  t37 := Tryz.underlying44
  a37 := Tryz.isAgg44
  z37 := Tryz.sizeOf44
  v37 := Tryz.zeroValue44
  t93 := Tryz.underlying101
  a93 := Tryz.isAgg101
  z93 := Tryz.sizeOf101
  v93 := Tryz.zeroValue101
  t130 := Tryz.underlying103
  a130 := Tryz.isAgg103
  z130 := Tryz.sizeOf103
  v130 := Tryz.zeroValue103
  t5 := Tryz.underlying5
  a5 := Tryz.isAgg5
  z5 := Tryz.sizeOf5
  v5 := Tryz.zeroValue5
  t91 := Tryz.underlying99
  a91 := Tryz.isAgg99
  z91 := Tryz.sizeOf99
  v91 := Tryz.zeroValue99
  i0 := by kernel_rfl
  i3 := by kernel_rfl
  i5 := by kernel_rfl
  i37 := by kernel_rfl
  i91 := by kernel_rfl
  i93 := by kernel_rfl
  i130 := by kernel_rfl }
open Go.RowKit in
theorem Sh.Buffer_Bytes (B b : Nat) (bs : List Value) (w : World) (h : Lib.IsBuffer 101 5 B b bs w) :
    Calls Tryz.prog 329 #[.pointer (some ⟨b, 0, none⟩)] w fun e w' => ∃ v, e = .returned v ∧ w'.ownsRow B 5 1 v bs.length bs ∧ ∃ n, w' = w.drewN n := Any.Buffer_Bytes Sh.laysM183 B b bs w h

def Sh.laysM179_ren : Go.Shelf.Ren := ⟨fun | 179 => 313 | 251 => 308 | 252 => 309 | 181 => 311 | 184 => 301 | 290 => 312 | 324 => 314 | n => n, fun | 130 => 103 | 5 => 5 | 75 => 74 | 0 => 0 | 93 => 101 | 91 => 99 | 3 => 3 | 131 => 229 | 4 => 4 | 37 => 44 | 20 => 20 | 80 => 78 | 9 => 9 | n => n, fun | 14 => 9 | n => n⟩
theorem Sh.laysM179 : Go.Proofs.LaysM.n179 Tryz.prog Sh.laysM179_ren := {
  mixed := by kernel_rfl
  f179 := Tryz.func313.trans (congrArg some (by kernel_rfl))
  f181 := Tryz.func311.trans (congrArg some (by kernel_rfl))
  f184 := Tryz.func301.trans (congrArg some (by kernel_rfl))
  f251 := Tryz.func308.trans (congrArg some (by kernel_rfl))
  f252 := Tryz.func309.trans (congrArg some (by kernel_rfl))
  f290 := Tryz.func312.trans (congrArg some (by kernel_rfl))
  f324 := Tryz.func314.trans (congrArg some (by kernel_rfl))
  t0 := Tryz.underlying0
  a0 := Tryz.isAgg0
  z0 := Tryz.sizeOf0
  v0 := Tryz.zeroValue0
  t3 := Tryz.underlying3
  a3 := Tryz.isAgg3
  z3 := Tryz.sizeOf3
  v3 := Tryz.zeroValue3
  t4 := Tryz.underlying4
  a4 := Tryz.isAgg4
  z4 := Tryz.sizeOf4
  v4 := Tryz.zeroValue4
  t5 := Tryz.underlying5
  a5 := Tryz.isAgg5
  z5 := Tryz.sizeOf5
  v5 := Tryz.zeroValue5
  t20 := Tryz.underlying20
  a20 := Tryz.isAgg20
  z20 := Tryz.sizeOf20
  v20 := Tryz.zeroValue20
  t37 := Tryz.underlying44
  a37 := Tryz.isAgg44
  z37 := Tryz.sizeOf44
  v37 := Tryz.zeroValue44
  t75 := Tryz.underlying74
  a75 := Tryz.isAgg74
  z75 := Tryz.sizeOf74
  v75 := Tryz.zeroValue74
  t91 := Tryz.underlying99
  a91 := Tryz.isAgg99
  z91 := Tryz.sizeOf99
  v91 := Tryz.zeroValue99
  t93 := Tryz.underlying101
  a93 := Tryz.isAgg101
  z93 := Tryz.sizeOf101
  v93 := Tryz.zeroValue101
  t130 := Tryz.underlying103
  a130 := Tryz.isAgg103
  z130 := Tryz.sizeOf103
  v130 := Tryz.zeroValue103
  t131 := Tryz.underlying229
  a131 := Tryz.isAgg229
  z131 := Tryz.sizeOf229
  v131 := Tryz.zeroValue229
  g14 := by kernel_rfl
  t9 := Tryz.underlying9
  a9 := Tryz.isAgg9
  z9 := Tryz.sizeOf9
  v9 := Tryz.zeroValue9
  t80 := Tryz.underlying78
  a80 := Tryz.isAgg78
  z80 := Tryz.sizeOf78
  v80 := Tryz.zeroValue78
  i0 := by kernel_rfl
  i3 := by kernel_rfl
  i4 := by kernel_rfl
  i5 := by kernel_rfl
  i9 := by kernel_rfl
  i20 := by kernel_rfl
  i37 := by kernel_rfl
  i75 := by kernel_rfl
  i80 := by kernel_rfl
  i91 := by kernel_rfl
  i93 := by kernel_rfl
  i130 := by kernel_rfl
  i131 := by kernel_rfl
  m14 := by kernel_rfl }
open Go.RowKit in
theorem Sh.Buffer_WriteByte_kept (B b : Nat) (bs : List Value) (c : Int) (w : World) (h : Lib.IsBuffer 101 5 B b bs w) (hBw : B ≤ w.heap.size) (h1 : ∀ v ∈ bs, v.oneCell' = true) (hlim : bs.length + 1 ≤ 140737488355328) :
    Calls Tryz.prog 313 #[.pointer (some ⟨b, 0, none⟩), .int .u8 c] w fun e w' => e = .returned .nilIface ∧ Lib.IsBuffer 101 5 B b (bs ++ [.int .u8 c]) w' ∧ Below B w w' ∧ Lib.OthersKept 5 (some b) w w' := Any.Buffer_WriteByte_kept Sh.laysM179 B b bs c w h hBw h1 hlim

def Sh.laysM178_ren : Go.Shelf.Ren := ⟨fun | 178 => 304 | 251 => 308 | 252 => 309 | 181 => 311 | 184 => 301 | 290 => 312 | 324 => 314 | n => n, fun | 130 => 103 | 9 => 9 | 3 => 3 | 75 => 74 | 0 => 0 | 93 => 101 | 91 => 99 | 131 => 229 | 4 => 4 | 37 => 44 | 20 => 20 | 80 => 78 | 5 => 5 | n => n, fun | 14 => 9 | n => n⟩
theorem Sh.laysM178 : Go.Proofs.LaysM.n178 Tryz.prog Sh.laysM178_ren := {
  mixed := by kernel_rfl
  f178 := Tryz.func304.trans (congrArg some (by kernel_rfl))
  f181 := Tryz.func311.trans (congrArg some (by kernel_rfl))
  f184 := Tryz.func301.trans (congrArg some (by kernel_rfl))
  f251 := Tryz.func308.trans (congrArg some (by kernel_rfl))
  f252 := Tryz.func309.trans (congrArg some (by kernel_rfl))
  f290 := Tryz.func312.trans (congrArg some (by kernel_rfl))
  f324 := Tryz.func314.trans (congrArg some (by kernel_rfl))
  t0 := Tryz.underlying0
  a0 := Tryz.isAgg0
  z0 := Tryz.sizeOf0
  v0 := Tryz.zeroValue0
  t3 := Tryz.underlying3
  a3 := Tryz.isAgg3
  z3 := Tryz.sizeOf3
  v3 := Tryz.zeroValue3
  t4 := Tryz.underlying4
  a4 := Tryz.isAgg4
  z4 := Tryz.sizeOf4
  v4 := Tryz.zeroValue4
  t9 := Tryz.underlying9
  a9 := Tryz.isAgg9
  z9 := Tryz.sizeOf9
  v9 := Tryz.zeroValue9
  t20 := Tryz.underlying20
  a20 := Tryz.isAgg20
  z20 := Tryz.sizeOf20
  v20 := Tryz.zeroValue20
  t37 := Tryz.underlying44
  a37 := Tryz.isAgg44
  z37 := Tryz.sizeOf44
  v37 := Tryz.zeroValue44
  t75 := Tryz.underlying74
  a75 := Tryz.isAgg74
  z75 := Tryz.sizeOf74
  v75 := Tryz.zeroValue74
  t91 := Tryz.underlying99
  a91 := Tryz.isAgg99
  z91 := Tryz.sizeOf99
  v91 := Tryz.zeroValue99
  t93 := Tryz.underlying101
  a93 := Tryz.isAgg101
  z93 := Tryz.sizeOf101
  v93 := Tryz.zeroValue101
  t130 := Tryz.underlying103
  a130 := Tryz.isAgg103
  z130 := Tryz.sizeOf103
  v130 := Tryz.zeroValue103
  t131 := Tryz.underlying229
  a131 := Tryz.isAgg229
  z131 := Tryz.sizeOf229
  v131 := Tryz.zeroValue229
  g14 := by kernel_rfl
  t5 := Tryz.underlying5
  a5 := Tryz.isAgg5
  z5 := Tryz.sizeOf5
  v5 := Tryz.zeroValue5
  t80 := Tryz.underlying78
  a80 := Tryz.isAgg78
  z80 := Tryz.sizeOf78
  v80 := Tryz.zeroValue78
  i0 := by kernel_rfl
  i3 := by kernel_rfl
  i4 := by kernel_rfl
  i5 := by kernel_rfl
  i9 := by kernel_rfl
  i20 := by kernel_rfl
  i37 := by kernel_rfl
  i75 := by kernel_rfl
  i80 := by kernel_rfl
  i91 := by kernel_rfl
  i93 := by kernel_rfl
  i130 := by kernel_rfl
  i131 := by kernel_rfl
  m14 := by kernel_rfl }
open Go.RowKit in
theorem Sh.Buffer_WriteString_kept (B b : Nat) (bs : List Value) (s : ByteArray) (w : World) (h : Lib.IsBuffer 101 5 B b bs w) (hBw : B ≤ w.heap.size) (h1 : ∀ v ∈ bs, v.oneCell' = true) (hlim : bs.length + s.size ≤ 140737488355328) :
    Calls Tryz.prog 304 #[.pointer (some ⟨b, 0, none⟩), .string s] w fun e w' => e = .returned (.tuple #[.int .i64 s.size, .nilIface]) ∧ Lib.IsBuffer 101 5 B b (bs ++ Lib.byteCells s.data.toList) w' ∧ Below B w w' ∧ Lib.OthersKept 5 (some b) w w' := Any.Buffer_WriteString_kept Sh.laysM178 B b bs s w h hBw h1 hlim

end Go.Proofs.YtbfmmikllelfeaaGreatDoor
