/- Contracts of the library's bytes.Buffer at this program. -/
import Derived.Shelf.LaysM
import Derived.Shelf.Bytes.Len
import Derived.Shelf.Bytes.String
import Derived.Shelf.Bytes.Bytes
import Derived.Shelf.Bytes.WriteByteKept
import Derived.Shelf.Bytes.WriteStringKept
import Derived.Test.YtcmpcjffmccllaaGreatDoorProg
namespace Go.Proofs.YtcmpcjffmccllaaGreatDoor
open Go.Shelf

def Sh.laysM181_ren : Go.Shelf.Ren := ⟨fun | 181 => 249 | n => n, fun | 130 => 76 | 3 => 3 | 0 => 0 | 93 => 74 | 37 => 55 | 91 => 72 | 5 => 5 | n => n, fun | n => n⟩
theorem Sh.laysM181 : Go.Proofs.LaysM.n181 Tryz.prog Sh.laysM181_ren := {
  mixed := by kernel_rfl
  f181 := Tryz.func249.trans (congrArg some (by kernel_rfl))
  t0 := Tryz.underlying0
  a0 := Tryz.isAgg0
  z0 := Tryz.sizeOf0
  v0 := Tryz.zeroValue0
  t3 := Tryz.underlying3
  a3 := Tryz.isAgg3
  z3 := Tryz.sizeOf3
  v3 := Tryz.zeroValue3
  t37 := Tryz.underlying55
  a37 := Tryz.isAgg55
  z37 := Tryz.sizeOf55
  v37 := Tryz.zeroValue55
  t93 := Tryz.underlying74
  a93 := Tryz.isAgg74
  z93 := Tryz.sizeOf74
  v93 := Tryz.zeroValue74
  t130 := Tryz.underlying76
  a130 := Tryz.isAgg76
  z130 := Tryz.sizeOf76
  v130 := Tryz.zeroValue76
  t5 := Tryz.underlying5
  a5 := Tryz.isAgg5
  z5 := Tryz.sizeOf5
  v5 := Tryz.zeroValue5
  t91 := Tryz.underlying72
  a91 := Tryz.isAgg72
  z91 := Tryz.sizeOf72
  v91 := Tryz.zeroValue72
  i0 := by kernel_rfl
  i3 := by kernel_rfl
  i5 := by kernel_rfl
  i37 := by kernel_rfl
  i91 := by kernel_rfl
  i93 := by kernel_rfl
  i130 := by kernel_rfl }
open Go.RowKit in
theorem Sh.Buffer_Len (B b : Nat) (bs : List Value) (w : World) (h : Lib.IsBuffer 74 5 B b bs w) :
    Calls Tryz.prog 249 #[.pointer (some ⟨b, 0, none⟩)] w fun e w' => e = .returned (.int .i64 bs.length) ∧ ∃ n, w' = w.drewN n := Any.Buffer_Len Sh.laysM181 B b bs w h

def Sh.laysM182_ren : Go.Shelf.Ren := ⟨fun | 182 => 42 | n => n, fun | 130 => 76 | 9 => 9 | 4 => 4 | 0 => 0 | 93 => 74 | 37 => 55 | 3 => 3 | 91 => 72 | 5 => 5 | n => n, fun | n => n⟩
theorem Sh.laysM182 : Go.Proofs.LaysM.n182 Tryz.prog Sh.laysM182_ren := {
  mixed := by kernel_rfl
  f182 := Tryz.func42.trans (congrArg some (by kernel_rfl))
  t0 := Tryz.underlying0
  a0 := Tryz.isAgg0
  z0 := Tryz.sizeOf0
  v0 := Tryz.zeroValue0
  t3 := Tryz.underlying3
  a3 := Tryz.isAgg3
  z3 := Tryz.sizeOf3
  v3 := Tryz.zeroValue3
  t4 := Tryz.underlying4
  a4 := Tryz.isAgg4
  z4 := Tryz.sizeOf4
  v4 := Tryz.zeroValue4
  t9 := Tryz.underlying9
  a9 := Tryz.isAgg9
  z9 := Tryz.sizeOf9
  v9 := Tryz.zeroValue9
  t37 := Tryz.underlying55
  a37 := Tryz.isAgg55
  z37 := Tryz.sizeOf55
  v37 := Tryz.zeroValue55
  t93 := Tryz.underlying74
  a93 := Tryz.isAgg74
  z93 := Tryz.sizeOf74
  v93 := Tryz.zeroValue74
  t130 := Tryz.underlying76
  a130 := Tryz.isAgg76
  z130 := Tryz.sizeOf76
  v130 := Tryz.zeroValue76
  t5 := Tryz.underlying5
  a5 := Tryz.isAgg5
  z5 := Tryz.sizeOf5
  v5 := Tryz.zeroValue5
  t91 := Tryz.underlying72
  a91 := Tryz.isAgg72
  z91 := Tryz.sizeOf72
  v91 := Tryz.zeroValue72
  i0 := by kernel_rfl
  i3 := by kernel_rfl
  i4 := by kernel_rfl
  i5 := by kernel_rfl
  i9 := by kernel_rfl
  i37 := by kernel_rfl
  i91 := by kernel_rfl
  i93 := by kernel_rfl
  i130 := by kernel_rfl }
open Go.RowKit in
theorem Sh.Buffer_String (B b : Nat) (l : List UInt8) (w : World) (h : Lib.IsBuffer 74 5 B b (Lib.byteCells l) w) :
    Calls Tryz.prog 42 #[.pointer (some ⟨b, 0, none⟩)] w fun e w' => e = .returned (.string ⟨l.toArray⟩) ∧ ∃ n, w' = w.drewN n := Any.Buffer_String Sh.laysM182 B b l w h

def Sh.laysM183_ren : Go.Shelf.Ren := ⟨fun | 183 => 272 | n => n, fun | 130 => 76 | 37 => 55 | 0 => 0 | 93 => 74 | 3 => 3 | 5 => 5 | 91 => 72 | n => n, fun | n => n⟩
theorem Sh.laysM183 : Go.Proofs.LaysM.n183 Tryz.prog Sh.laysM183_ren := {
  mixed := by kernel_rfl
  f183 := Tryz.func272.trans (congrArg some (by kernel_rfl))
  t0 := Tryz.underlying0
  a0 := Tryz.isAgg0
  z0 := Tryz.sizeOf0
  v0 := Tryz.zeroValue0
  t3 := Tryz.underlying3
  a3 := Tryz.isAgg3
  z3 := Tryz.sizeOf3
  v3 := Tryz.zeroValue3
  t37 := Tryz.underlying55
  a37 := Tryz.isAgg55
  z37 := Tryz.sizeOf55
  v37 := Tryz.zeroValue55
  t93 := Tryz.underlying74
  a93 := Tryz.isAgg74
  z93 := Tryz.sizeOf74
  v93 := Tryz.zeroValue74
  t130 := Tryz.underlying76
  a130 := Tryz.isAgg76
  z130 := Tryz.sizeOf76
  v130 := Tryz.zeroValue76
  t5 := Tryz.underlying5
  a5 := Tryz.isAgg5
  z5 := Tryz.sizeOf5
  v5 := Tryz.zeroValue5
  t91 := Tryz.underlying72
  a91 := Tryz.isAgg72
  z91 := Tryz.sizeOf72
  v91 := Tryz.zeroValue72
  i0 := by kernel_rfl
  i3 := by kernel_rfl
  i5 := by kernel_rfl
  i37 := by kernel_rfl
  i91 := by kernel_rfl
  i93 := by kernel_rfl
  i130 := by kernel_rfl }
open Go.RowKit in
theorem Sh.Buffer_Bytes (B b : Nat) (bs : List Value) (w : World) (h : Lib.IsBuffer 74 5 B b bs w) :
    Calls Tryz.prog 272 #[.pointer (some ⟨b, 0, none⟩)] w fun e w' => ∃ v, e = .returned v ∧ w'.ownsRow B 5 1 v bs.length bs ∧ ∃ n, w' = w.drewN n := Any.Buffer_Bytes Sh.laysM183 B b bs w h

def Sh.laysM179_ren : Go.Shelf.Ren := ⟨fun | 179 => 260 | 251 => 247 | 252 => 248 | 181 => 249 | 184 => 239 | 290 => 250 | 324 => 251 | n => n, fun | 130 => 76 | 5 => 5 | 75 => 60 | 0 => 0 | 93 => 74 | 91 => 72 | 3 => 3 | 131 => 266 | 4 => 4 | 37 => 55 | 20 => 20 | 80 => 64 | 9 => 9 | n => n, fun | 14 => 9 | n => n⟩
theorem Sh.laysM179 : Go.Proofs.LaysM.n179 Tryz.prog Sh.laysM179_ren := {
  mixed := by kernel_rfl
  f179 := Tryz.func260.trans (congrArg some (by kernel_rfl))
  f181 := Tryz.func249.trans (congrArg some (by kernel_rfl))
  f184 := Tryz.func239.trans (congrArg some (by kernel_rfl))
  f251 := Tryz.func247.trans (congrArg some (by kernel_rfl))
  f252 := Tryz.func248.trans (congrArg some (by kernel_rfl))
  f290 := Tryz.func250.trans (congrArg some (by kernel_rfl))
  f324 := Tryz.func251.trans (congrArg some (by kernel_rfl))
  t0 := Tryz.underlying0
  a0 := Tryz.isAgg0
  z0 := Tryz.sizeOf0
  v0 := Tryz.zeroValue0
  t3 := Tryz.underlying3
  a3 := Tryz.isAgg3
  z3 := Tryz.sizeOf3
  v3 := Tryz.zeroValue3
  t4 := Tryz.underlying4
  a4 := Tryz.isAgg4
  z4 := Tryz.sizeOf4
  v4 := Tryz.zeroValue4
  t5 := Tryz.underlying5
  a5 := Tryz.isAgg5
  z5 := Tryz.sizeOf5
  v5 := Tryz.zeroValue5
  t20 := Tryz.underlying20
  a20 := Tryz.isAgg20
  z20 := Tryz.sizeOf20
  v20 := Tryz.zeroValue20
  t37 := Tryz.underlying55
  a37 := Tryz.isAgg55
  z37 := Tryz.sizeOf55
  v37 := Tryz.zeroValue55
  t75 := Tryz.underlying60
  a75 := Tryz.isAgg60
  z75 := Tryz.sizeOf60
  v75 := Tryz.zeroValue60
  t91 := Tryz.underlying72
  a91 := Tryz.isAgg72
  z91 := Tryz.sizeOf72
  v91 := Tryz.zeroValue72
  t93 := Tryz.underlying74
  a93 := Tryz.isAgg74
  z93 := Tryz.sizeOf74
  v93 := Tryz.zeroValue74
  t130 := Tryz.underlying76
  a130 := Tryz.isAgg76
  z130 := Tryz.sizeOf76
  v130 := Tryz.zeroValue76
  t131 := Tryz.underlying266
  a131 := Tryz.isAgg266
  z131 := Tryz.sizeOf266
  v131 := Tryz.zeroValue266
  g14 := by kernel_rfl
  t9 := Tryz.underlying9
  a9 := Tryz.isAgg9
  z9 := Tryz.sizeOf9
  v9 := Tryz.zeroValue9
  t80 := Tryz.underlying64
  a80 := Tryz.isAgg64
  z80 := Tryz.sizeOf64
  v80 := Tryz.zeroValue64
  i0 := by kernel_rfl
  i3 := by kernel_rfl
  i4 := by kernel_rfl
  i5 := by kernel_rfl
  i9 := by kernel_rfl
  i20 := by kernel_rfl
  i37 := by kernel_rfl
  i75 := by kernel_rfl
  i80 := by kernel_rfl
  i91 := by kernel_rfl
  i93 := by kernel_rfl
  i130 := by kernel_rfl
  i131 := by kernel_rfl
  m14 := by kernel_rfl }
open Go.RowKit in
theorem Sh.Buffer_WriteByte_kept (B b : Nat) (bs : List Value) (c : Int) (w : World) (h : Lib.IsBuffer 74 5 B b bs w) (hBw : B ≤ w.heap.size) (h1 : ∀ v ∈ bs, v.oneCell' = true) (hlim : bs.length + 1 ≤ 140737488355328) :
    Calls Tryz.prog 260 #[.pointer (some ⟨b, 0, none⟩), .int .u8 c] w fun e w' => e = .returned .nilIface ∧ Lib.IsBuffer 74 5 B b (bs ++ [.int .u8 c]) w' ∧ Below B w w' ∧ Lib.OthersKept 5 (some b) w w' := Any.Buffer_WriteByte_kept Sh.laysM179 B b bs c w h hBw h1 hlim

def Sh.laysM178_ren : Go.Shelf.Ren := ⟨fun | 178 => 246 | 251 => 247 | 252 => 248 | 181 => 249 | 184 => 239 | 290 => 250 | 324 => 251 | n => n, fun | 130 => 76 | 9 => 9 | 3 => 3 | 75 => 60 | 0 => 0 | 93 => 74 | 91 => 72 | 131 => 266 | 4 => 4 | 37 => 55 | 20 => 20 | 80 => 64 | 5 => 5 | n => n, fun | 14 => 9 | n => n⟩
theorem Sh.laysM178 : Go.Proofs.LaysM.n178 Tryz.prog Sh.laysM178_ren := {
  mixed := by kernel_rfl
  f178 := Tryz.func246.trans (congrArg some (by kernel_rfl))
  f181 := Tryz.func249.trans (congrArg some (by kernel_rfl))
  f184 := Tryz.func239.trans (congrArg some (by kernel_rfl))
  f251 := Tryz.func247.trans (congrArg some (by kernel_rfl))
  f252 := Tryz.func248.trans (congrArg some (by kernel_rfl))
  f290 := Tryz.func250.trans (congrArg some (by kernel_rfl))
  f324 := Tryz.func251.trans (congrArg some (by kernel_rfl))
  t0 := Tryz.underlying0
  a0 := Tryz.isAgg0
  z0 := Tryz.sizeOf0
  v0 := Tryz.zeroValue0
  t3 := Tryz.underlying3
  a3 := Tryz.isAgg3
  z3 := Tryz.sizeOf3
  v3 := Tryz.zeroValue3
  t4 := Tryz.underlying4
  a4 := Tryz.isAgg4
  z4 := Tryz.sizeOf4
  v4 := Tryz.zeroValue4
  t9 := Tryz.underlying9
  a9 := Tryz.isAgg9
  z9 := Tryz.sizeOf9
  v9 := Tryz.zeroValue9
  t20 := Tryz.underlying20
  a20 := Tryz.isAgg20
  z20 := Tryz.sizeOf20
  v20 := Tryz.zeroValue20
  t37 := Tryz.underlying55
  a37 := Tryz.isAgg55
  z37 := Tryz.sizeOf55
  v37 := Tryz.zeroValue55
  t75 := Tryz.underlying60
  a75 := Tryz.isAgg60
  z75 := Tryz.sizeOf60
  v75 := Tryz.zeroValue60
  t91 := Tryz.underlying72
  a91 := Tryz.isAgg72
  z91 := Tryz.sizeOf72
  v91 := Tryz.zeroValue72
  t93 := Tryz.underlying74
  a93 := Tryz.isAgg74
  z93 := Tryz.sizeOf74
  v93 := Tryz.zeroValue74
  t130 := Tryz.underlying76
  a130 := Tryz.isAgg76
  z130 := Tryz.sizeOf76
  v130 := Tryz.zeroValue76
  t131 := Tryz.underlying266
  a131 := Tryz.isAgg266
  z131 := Tryz.sizeOf266
  v131 := Tryz.zeroValue266
  g14 := by kernel_rfl
  t5 := Tryz.underlying5
  a5 := Tryz.isAgg5
  z5 := Tryz.sizeOf5
  v5 := Tryz.zeroValue5
  t80 := Tryz.underlying64
  a80 := Tryz.isAgg64
  z80 := Tryz.sizeOf64
  v80 := Tryz.zeroValue64
  i0 := by kernel_rfl
  i3 := by kernel_rfl
  i4 := by kernel_rfl
  i5 := by kernel_rfl
  i9 := by kernel_rfl
  i20 := by kernel_rfl
  i37 := by kernel_rfl
  i75 := by kernel_rfl
  i80 := by kernel_rfl
  i91 := by kernel_rfl
  i93 := by kernel_rfl
  i130 := by kernel_rfl
  i131 := by kernel_rfl
  m14 := by kernel_rfl }
open Go.RowKit in
theorem Sh.Buffer_WriteString_kept (B b : Nat) (bs : List Value) (s : ByteArray) (w : World) (h : Lib.IsBuffer 74 5 B b bs w) (hBw : B ≤ w.heap.size) (h1 : ∀ v ∈ bs, v.oneCell' = true) (hlim : bs.length + s.size ≤ 140737488355328) :
    Calls Tryz.prog 246 #[.pointer (some ⟨b, 0, none⟩), .string s] w fun e w' => e = .returned (.tuple #[.int .i64 s.size, .nilIface]) ∧ Lib.IsBuffer 74 5 B b (bs ++ Lib.byteCells s.data.toList) w' ∧ Below B w w' ∧ Lib.OthersKept 5 (some b) w w' := Any.Buffer_WriteString_kept Sh.laysM178 B b bs s w h hBw h1 hlim

end Go.Proofs.YtcmpcjffmccllaaGreatDoor
