/- Contracts of Go's library at this program. -/
import Derived.Shelf.Lays
import Derived.Shelf.Strings.Repeat
import Derived.Test.YtcmpcjffmccllaaGreatDoorProg
namespace Go.Proofs.YtcmpcjffmccllaaGreatDoor
open Go.Shelf

def Sr.lays105_ren : Go.Shelf.Ren := ⟨fun | 105 => 16 | 212 => 30 | 99 => 31 | 165 => 32 | 166 => 33 | 170 => 34 | 169 => 35 | 263 => 44 | 264 => 45 | 206 => 46 | 240 => 47 | 241 => 48 | 276 => 58 | 277 => 59 | n => n, fun | 9 => 9 | 3 => 3 | 4 => 4 | 20 => 20 | 0 => 0 | 46 => 50 | 109 => 51 | 5 => 5 | 72 => 57 | 76 => 61 | 51 => 22 | 146 => 81 | 53 => 83 | 148 => 84 | 70 => 54 | 37 => 55 | 75 => 60 | 127 => 86 | 164 => 114 | 80 => 64 | n => n, fun | n => n⟩
theorem Sr.lays105 : Go.Proofs.Lays.n105 Tryz.prog Sr.lays105_ren := {
  mixed := by kernel_rfl
  f99 := Tryz.func31.trans (congrArg some (by kernel_rfl))
  f105 := Tryz.func16.trans (congrArg some (by kernel_rfl))
  f165 := Tryz.func32.trans (congrArg some (by kernel_rfl))
  f166 := Tryz.func33.trans (congrArg some (by kernel_rfl))
  f169 := Tryz.func35.trans (congrArg some (by kernel_rfl))
  f170 := Tryz.func34.trans (congrArg some (by kernel_rfl))
  f206 := Tryz.func46.trans (congrArg some (by kernel_rfl))
  f212 := Tryz.func30.trans (congrArg some (by kernel_rfl))
  f240 := Tryz.func47.trans (congrArg some (by kernel_rfl))
  f241 := Tryz.func48.trans (congrArg some (by kernel_rfl))
  f263 := Tryz.func44.trans (congrArg some (by kernel_rfl))
  f264 := Tryz.func45.trans (congrArg some (by kernel_rfl))
  f276 := Tryz.func58.trans (congrArg some (by kernel_rfl))
  f277 := Tryz.func59.trans (congrArg some (by kernel_rfl))
  t0 := Tryz.underlying0
  a0 := Tryz.isAgg0
  z0 := Tryz.sizeOf0
  v0 := Tryz.zeroValue0
  t3 := Tryz.underlying3
  a3 := Tryz.isAgg3
  z3 := Tryz.sizeOf3
  v3 := Tryz.zeroValue3
  t4 := Tryz.underlying4
  a4 := Tryz.isAgg4
  z4 := Tryz.sizeOf4
  v4 := Tryz.zeroValue4
  t5 := Tryz.underlying5
  a5 := Tryz.isAgg5
  z5 := Tryz.sizeOf5
  v5 := Tryz.zeroValue5
  t9 := Tryz.underlying9
  a9 := Tryz.isAgg9
  z9 := Tryz.sizeOf9
  v9 := Tryz.zeroValue9
  t20 := Tryz.underlying20
  a20 := Tryz.isAgg20
  z20 := Tryz.sizeOf20
  v20 := Tryz.zeroValue20
  t37 := Tryz.underlying55
  a37 := Tryz.isAgg55
  z37 := Tryz.sizeOf55
  v37 := Tryz.zeroValue55
  t46 := Tryz.underlying50
  a46 := Tryz.isAgg50
  z46 := Tryz.sizeOf50
  v46 := Tryz.zeroValue50
  t51 := Tryz.underlying22
  a51 := Tryz.isAgg22
  z51 := Tryz.sizeOf22
  v51 := Tryz.zeroValue22
  t53 := Tryz.underlying83
  a53 := Tryz.isAgg83
  z53 := Tryz.sizeOf83
  v53 := Tryz.zeroValue83
  t70 := Tryz.underlying54
  a70 := Tryz.isAgg54
  z70 := Tryz.sizeOf54
  v70 := Tryz.zeroValue54
  t72 := Tryz.underlying57
  a72 := Tryz.isAgg57
  z72 := Tryz.sizeOf57
  v72 := Tryz.zeroValue57
  t75 := Tryz.underlying60
  a75 := Tryz.isAgg60
  z75 := Tryz.sizeOf60
  v75 := Tryz.zeroValue60
  t76 := Tryz.underlying61
  a76 := Tryz.isAgg61
  z76 := Tryz.sizeOf61
  v76 := Tryz.zeroValue61
  t109 := Tryz.underlying51
  a109 := Tryz.isAgg51
  z109 := Tryz.sizeOf51
  v109 := Tryz.zeroValue51
  t127 := Tryz.underlying86
  a127 := Tryz.isAgg86
  z127 := Tryz.sizeOf86
  v127 := Tryz.zeroValue86
  t146 := Tryz.underlying81
  a146 := Tryz.isAgg81
  z146 := Tryz.sizeOf81
  v146 := Tryz.zeroValue81
  t148 := Tryz.underlying84
  a148 := Tryz.isAgg84
  z148 := Tryz.sizeOf84
  v148 := Tryz.zeroValue84
  t164 := Tryz.underlying114
  a164 := Tryz.isAgg114
  z164 := Tryz.sizeOf114
  v164 := Tryz.zeroValue114 }
theorem Sr.Builder_Extra_105 : Builder.Extra Tryz.prog Sr.lays105_ren := {
  sizeBuilder := by kernel_rfl
  liesBuilder := by kernel_rfl
  t5 := Tryz.underlying5
  a5 := Tryz.isAgg5
  z5 := Tryz.sizeOf5
  v5 := Tryz.zeroValue5
  infoByte := by kernel_rfl
  cellsByte := by kernel_rfl
  sizeByte := by kernel_rfl
  neB5 := by decide }
open Go.RowKit Go.Lib in
theorem Sr.strings_Repeat_main (s : ByteArray) (c : Nat) (w : World) (hc2 : 2 ≤ c) (hc : c ≤ 9223372036854775807) (hlen : s.size * c ≤ 140737488355328) (h0 : 0 < s.size) :
    Calls Tryz.prog 16 #[.string s, .int .i64 c] w fun e w' => e = .returned (.string ⟨(Lib.repeatL s.data.toList c).toArray⟩) ∧ Below w.heap.size w w' := Any.strings_Repeat_main Sr.lays105 Sr.Builder_Extra_105 s c w hc2 hc hlen h0
open Go.RowKit Go.Lib in
theorem Sr.strings_Repeat_zero (s : ByteArray) (w : World) :
    Calls Tryz.prog 16 #[.string s, .int .i64 0] w fun e w' => e = .returned (.string ⟨#[]⟩) ∧ w' = w := Any.strings_Repeat_zero Sr.lays105 s w
open Go.RowKit Go.Lib in
theorem Sr.strings_Repeat_one (s : ByteArray) (w : World) :
    Calls Tryz.prog 16 #[.string s, .int .i64 1] w fun e w' => e = .returned (.string s) ∧ w' = w := Any.strings_Repeat_one Sr.lays105 s w
open Go.RowKit Go.Lib in
theorem Sr.strings_Repeat_empty (s : ByteArray) (c : Nat) (w : World) (hc2 : 2 ≤ c) (hc : c ≤ 9223372036854775807) (h0 : s.size = 0) :
    Calls Tryz.prog 16 #[.string s, .int .i64 c] w fun e w' => e = .returned (.string ⟨#[]⟩) ∧ w' = w := Any.strings_Repeat_empty Sr.lays105 s c w hc2 hc h0
open Go.RowKit Go.Lib in
theorem Sr.strings_Repeat_negative (s : ByteArray) (c : Int) (w : World) (hc : c < 0) :
    Calls Tryz.prog 16 #[.string s, .int .i64 c] w fun e w' => e = .panicked [{ v := repeatPanic Sr.lays105_ren "strings: negative Repeat count", recovered := false }] ∧ w' = w := Any.strings_Repeat_negative Sr.lays105 s c w hc
open Go.RowKit Go.Lib in
theorem Sr.strings_Repeat_overflow (s : ByteArray) (c : Nat) (w : World) (hc : c ≤ 9223372036854775807) (hs : s.size ≤ 9223372036854775807) (hbig : 9223372036854775807 < s.size * c) :
    Calls Tryz.prog 16 #[.string s, .int .i64 c] w fun e w' => e = .panicked [{ v := repeatPanic Sr.lays105_ren "strings: Repeat output length overflow", recovered := false }] ∧ w' = w := Any.strings_Repeat_overflow Sr.lays105 s c w hc hs hbig
open Go.RowKit Go.Lib in
theorem Sr.strings_Repeat (s : ByteArray) (c : Nat) (w : World) (hc : c ≤ 9223372036854775807) (hlen : s.size * c ≤ 140737488355328) :
    Calls Tryz.prog 16 #[.string s, .int .i64 c] w fun e w' => e = .returned (.string ⟨(Lib.repeatL s.data.toList c).toArray⟩) ∧ Below w.heap.size w w' := Any.strings_Repeat Sr.lays105 Sr.Builder_Extra_105 s c w hc hlen

end Go.Proofs.YtcmpcjffmccllaaGreatDoor
