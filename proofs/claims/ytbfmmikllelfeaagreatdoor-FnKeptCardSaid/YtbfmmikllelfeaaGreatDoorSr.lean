/- Contracts of Go's library at this program. -/
import Derived.Shelf.Lays
import Derived.Shelf.Strings.Repeat
import Derived.Test.YtbfmmikllelfeaaGreatDoorProg
namespace Go.Proofs.YtbfmmikllelfeaaGreatDoor
open Go.Shelf

def Sr.lays105_ren : Go.Shelf.Ren := ⟨fun | 105 => 12 | 212 => 38 | 99 => 39 | 165 => 40 | 166 => 41 | 170 => 42 | 169 => 43 | 263 => 62 | 264 => 63 | 206 => 64 | 240 => 65 | 241 => 66 | 276 => 84 | 277 => 85 | n => n, fun | 9 => 9 | 3 => 3 | 4 => 4 | 20 => 20 | 0 => 0 | 46 => 65 | 109 => 66 | 5 => 5 | 72 => 71 | 76 => 75 | 51 => 40 | 146 => 90 | 53 => 92 | 148 => 93 | 70 => 69 | 37 => 44 | 75 => 74 | 127 => 95 | 164 => 164 | 80 => 78 | n => n, fun | n => n⟩
theorem Sr.lays105 : Go.Proofs.Lays.n105 Tryz.prog Sr.lays105_ren := {
  mixed := by kernel_rfl
  f99 := Tryz.func39.trans (congrArg some (by kernel_rfl))
  f105 := Tryz.func12.trans (congrArg some (by kernel_rfl))
  f165 := Tryz.func40.trans (congrArg some (by kernel_rfl))
  f166 := Tryz.func41.trans (congrArg some (by kernel_rfl))
  f169 := Tryz.func43.trans (congrArg some (by kernel_rfl))
  f170 := Tryz.func42.trans (congrArg some (by kernel_rfl))
  f206 := Tryz.func64.trans (congrArg some (by kernel_rfl))
  f212 := Tryz.func38.trans (congrArg some (by kernel_rfl))
  f240 := Tryz.func65.trans (congrArg some (by kernel_rfl))
  f241 := Tryz.func66.trans (congrArg some (by kernel_rfl))
  f263 := Tryz.func62.trans (congrArg some (by kernel_rfl))
  f264 := Tryz.func63.trans (congrArg some (by kernel_rfl))
  f276 := Tryz.func84.trans (congrArg some (by kernel_rfl))
  f277 := Tryz.func85.trans (congrArg some (by kernel_rfl))
  t0 := Tryz.underlying0
  a0 := Tryz.isAgg0
  z0 := Tryz.sizeOf0
  v0 := Tryz.zeroValue0
  t3 := Tryz.underlying3
  a3 := Tryz.isAgg3
  z3 := Tryz.sizeOf3
  v3 := Tryz.zeroValue3
  t4 := Tryz.underlying4
  a4 := Tryz.isAgg4
  z4 := Tryz.sizeOf4
  v4 := Tryz.zeroValue4
  t5 := Tryz.underlying5
  a5 := Tryz.isAgg5
  z5 := Tryz.sizeOf5
  v5 := Tryz.zeroValue5
  t9 := Tryz.underlying9
  a9 := Tryz.isAgg9
  z9 := Tryz.sizeOf9
  v9 := Tryz.zeroValue9
  t20 := Tryz.underlying20
  a20 := Tryz.isAgg20
  z20 := Tryz.sizeOf20
  v20 := Tryz.zeroValue20
  t37 := Tryz.underlying44
  a37 := Tryz.isAgg44
  z37 := Tryz.sizeOf44
  v37 := Tryz.zeroValue44
  t46 := Tryz.underlying65
  a46 := Tryz.isAgg65
  z46 := Tryz.sizeOf65
  v46 := Tryz.zeroValue65
  t51 := Tryz.underlying40
  a51 := Tryz.isAgg40
  z51 := Tryz.sizeOf40
  v51 := Tryz.zeroValue40
  t53 := Tryz.underlying92
  a53 := Tryz.isAgg92
  z53 := Tryz.sizeOf92
  v53 := Tryz.zeroValue92
  t70 := Tryz.underlying69
  a70 := Tryz.isAgg69
  z70 := Tryz.sizeOf69
  v70 := Tryz.zeroValue69
  t72 := Tryz.underlying71
  a72 := Tryz.isAgg71
  z72 := Tryz.sizeOf71
  v72 := Tryz.zeroValue71
  t75 := Tryz.underlying74
  a75 := Tryz.isAgg74
  z75 := Tryz.sizeOf74
  v75 := Tryz.zeroValue74
  t76 := Tryz.underlying75
  a76 := Tryz.isAgg75
  z76 := Tryz.sizeOf75
  v76 := Tryz.zeroValue75
  t109 := Tryz.underlying66
  a109 := Tryz.isAgg66
  z109 := Tryz.sizeOf66
  v109 := Tryz.zeroValue66
  t127 := Tryz.underlying95
  a127 := Tryz.isAgg95
  z127 := Tryz.sizeOf95
  v127 := Tryz.zeroValue95
  t146 := Tryz.underlying90
  a146 := Tryz.isAgg90
  z146 := Tryz.sizeOf90
  v146 := Tryz.zeroValue90
  t148 := Tryz.underlying93
  a148 := Tryz.isAgg93
  z148 := Tryz.sizeOf93
  v148 := Tryz.zeroValue93
  t164 := Tryz.underlying164
  a164 := Tryz.isAgg164
  z164 := Tryz.sizeOf164
  v164 := Tryz.zeroValue164 }
theorem Sr.Builder_Extra_105 : Builder.Extra Tryz.prog Sr.lays105_ren := {
  sizeBuilder := by kernel_rfl
  liesBuilder := by kernel_rfl
  t5 := Tryz.underlying5
  a5 := Tryz.isAgg5
  z5 := Tryz.sizeOf5
  v5 := Tryz.zeroValue5
  infoByte := by kernel_rfl
  cellsByte := by kernel_rfl
  sizeByte := by kernel_rfl
  neB5 := by decide }
open Go.RowKit Go.Lib in
theorem Sr.strings_Repeat_main (s : ByteArray) (c : Nat) (w : World) (hc2 : 2 ≤ c) (hc : c ≤ 9223372036854775807) (hlen : s.size * c ≤ 140737488355328) (h0 : 0 < s.size) :
    Calls Tryz.prog 12 #[.string s, .int .i64 c] w fun e w' => e = .returned (.string ⟨(Lib.repeatL s.data.toList c).toArray⟩) ∧ Below w.heap.size w w' := Any.strings_Repeat_main Sr.lays105 Sr.Builder_Extra_105 s c w hc2 hc hlen h0
open Go.RowKit Go.Lib in
theorem Sr.strings_Repeat_zero (s : ByteArray) (w : World) :
    Calls Tryz.prog 12 #[.string s, .int .i64 0] w fun e w' => e = .returned (.string ⟨#[]⟩) ∧ w' = w := Any.strings_Repeat_zero Sr.lays105 s w
open Go.RowKit Go.Lib in
theorem Sr.strings_Repeat_one (s : ByteArray) (w : World) :
    Calls Tryz.prog 12 #[.string s, .int .i64 1] w fun e w' => e = .returned (.string s) ∧ w' = w := Any.strings_Repeat_one Sr.lays105 s w
open Go.RowKit Go.Lib in
theorem Sr.strings_Repeat_empty (s : ByteArray) (c : Nat) (w : World) (hc2 : 2 ≤ c) (hc : c ≤ 9223372036854775807) (h0 : s.size = 0) :
    Calls Tryz.prog 12 #[.string s, .int .i64 c] w fun e w' => e = .returned (.string ⟨#[]⟩) ∧ w' = w := Any.strings_Repeat_empty Sr.lays105 s c w hc2 hc h0
open Go.RowKit Go.Lib in
theorem Sr.strings_Repeat_negative (s : ByteArray) (c : Int) (w : World) (hc : c < 0) :
    Calls Tryz.prog 12 #[.string s, .int .i64 c] w fun e w' => e = .panicked [{ v := repeatPanic Sr.lays105_ren "strings: negative Repeat count", recovered := false }] ∧ w' = w := Any.strings_Repeat_negative Sr.lays105 s c w hc
open Go.RowKit Go.Lib in
theorem Sr.strings_Repeat_overflow (s : ByteArray) (c : Nat) (w : World) (hc : c ≤ 9223372036854775807) (hs : s.size ≤ 9223372036854775807) (hbig : 9223372036854775807 < s.size * c) :
    Calls Tryz.prog 12 #[.string s, .int .i64 c] w fun e w' => e = .panicked [{ v := repeatPanic Sr.lays105_ren "strings: Repeat output length overflow", recovered := false }] ∧ w' = w := Any.strings_Repeat_overflow Sr.lays105 s c w hc hs hbig
open Go.RowKit Go.Lib in
theorem Sr.strings_Repeat (s : ByteArray) (c : Nat) (w : World) (hc : c ≤ 9223372036854775807) (hlen : s.size * c ≤ 140737488355328) :
    Calls Tryz.prog 12 #[.string s, .int .i64 c] w fun e w' => e = .returned (.string ⟨(Lib.repeatL s.data.toList c).toArray⟩) ∧ Below w.heap.size w w' := Any.strings_Repeat Sr.lays105 Sr.Builder_Extra_105 s c w hc hlen

end Go.Proofs.YtbfmmikllelfeaaGreatDoor
