/- Contracts of the library's strconv.Itoa and strings.Join at this program. -/
import Derived.Shelf.Lays
import Derived.Shelf.Strconv.Itoa3
import Derived.Shelf.Strings.OnBuilder
import Derived.Test.YtcmpcjffmccllaaGreatDoorProg
namespace Go.Proofs.YtcmpcjffmccllaaGreatDoor
open Go.Shelf

def Sk.lays156_ren : Go.Shelf.Ren := ⟨fun | 156 => 170 | 165 => 32 | 166 => 33 | 169 => 35 | 240 => 47 | 241 => 48 | 276 => 58 | 277 => 59 | n => n, fun | 31 => 32 | 9 => 9 | 3 => 3 | 4 => 4 | 0 => 0 | 20 => 20 | 72 => 57 | 76 => 61 | 70 => 54 | 37 => 55 | 75 => 60 | 127 => 86 | 164 => 114 | 5 => 5 | 80 => 64 | n => n, fun | n => n⟩
theorem Sk.lays156 : Go.Proofs.Lays.n156 Tryz.prog Sk.lays156_ren := {
  mixed := by kernel_rfl
  f156 := Tryz.func170.trans (congrArg some (by kernel_rfl))
  f165 := Tryz.func32.trans (congrArg some (by kernel_rfl))
  f166 := Tryz.func33.trans (congrArg some (by kernel_rfl))
  f169 := Tryz.func35.trans (congrArg some (by kernel_rfl))
  f240 := Tryz.func47.trans (congrArg some (by kernel_rfl))
  f241 := Tryz.func48.trans (congrArg some (by kernel_rfl))
  f276 := Tryz.func58.trans (congrArg some (by kernel_rfl))
  f277 := Tryz.func59.trans (congrArg some (by kernel_rfl))
  t0 := Tryz.underlying0
  a0 := Tryz.isAgg0
  z0 := Tryz.sizeOf0
  v0 := Tryz.zeroValue0
  t3 := Tryz.underlying3
  a3 := Tryz.isAgg3
  z3 := Tryz.sizeOf3
  v3 := Tryz.zeroValue3
  t4 := Tryz.underlying4
  a4 := Tryz.isAgg4
  z4 := Tryz.sizeOf4
  v4 := Tryz.zeroValue4
  t9 := Tryz.underlying9
  a9 := Tryz.isAgg9
  z9 := Tryz.sizeOf9
  v9 := Tryz.zeroValue9
  t20 := Tryz.underlying20
  a20 := Tryz.isAgg20
  z20 := Tryz.sizeOf20
  v20 := Tryz.zeroValue20
  t31 := Tryz.underlying32
  a31 := Tryz.isAgg32
  z31 := Tryz.sizeOf32
  v31 := Tryz.zeroValue32
  t37 := Tryz.underlying55
  a37 := Tryz.isAgg55
  z37 := Tryz.sizeOf55
  v37 := Tryz.zeroValue55
  t70 := Tryz.underlying54
  a70 := Tryz.isAgg54
  z70 := Tryz.sizeOf54
  v70 := Tryz.zeroValue54
  t72 := Tryz.underlying57
  a72 := Tryz.isAgg57
  z72 := Tryz.sizeOf57
  v72 := Tryz.zeroValue57
  t75 := Tryz.underlying60
  a75 := Tryz.isAgg60
  z75 := Tryz.sizeOf60
  v75 := Tryz.zeroValue60
  t76 := Tryz.underlying61
  a76 := Tryz.isAgg61
  z76 := Tryz.sizeOf61
  v76 := Tryz.zeroValue61
  t127 := Tryz.underlying86
  a127 := Tryz.isAgg86
  z127 := Tryz.sizeOf86
  v127 := Tryz.zeroValue86
  t164 := Tryz.underlying114
  a164 := Tryz.isAgg114
  z164 := Tryz.sizeOf114
  v164 := Tryz.zeroValue114 }
theorem Sk.Builder_Extra_156 : Builder.Extra Tryz.prog Sk.lays156_ren := {
  sizeBuilder := by kernel_rfl
  liesBuilder := by kernel_rfl
  t5 := Tryz.underlying5
  a5 := Tryz.isAgg5
  z5 := Tryz.sizeOf5
  v5 := Tryz.zeroValue5
  infoByte := by kernel_rfl
  cellsByte := by kernel_rfl
  sizeByte := by kernel_rfl
  neB5 := by decide }
open Go.RowKit in
theorem Sk.strings_Join_none (a : Option Addr) (c : Nat) (sep : ByteArray) (w : World) :
    Calls Tryz.prog 170 #[.slice a 0 c, .string sep] w fun e w' => e = .returned (.string ⟨#[]⟩) ∧ w' = w := Any.strings_Join_none Sk.lays156 Sk.Builder_Extra_156 a c sep w
open Go.RowKit in
theorem Sk.strings_Join (bk o c : Nat) (xs : List ByteArray) (sep : ByteArray) (w : World) (hcells : ∀ (j : Nat) x, xs[j]? = some x → w.cell? ⟨bk, o + j, none⟩ = some (.string x)) (hbk : bk < w.heap.size) (hN : xs.length ≤ 140737488355328) (hcap : xs.length ≤ c) (hlen : (Lib.join (xs.map (·.data.toList)) sep.data.toList).length ≤ 140737488355328) :
    Calls Tryz.prog 170 #[.slice (some ⟨bk, o, none⟩) xs.length c, .string sep] w fun e w' => e = .returned (.string ⟨(Lib.join (xs.map (·.data.toList)) sep.data.toList).toArray⟩) ∧ Below w.heap.size w w' := Any.strings_Join Sk.lays156 Sk.Builder_Extra_156 bk o c xs sep w hcells hbk hN hcap hlen

def Sk.lays171_ren : Go.Shelf.Ren := ⟨fun | 171 => 205 | 243 => 208 | 246 => 209 | 283 => 210 | 284 => 211 | 285 => 212 | 286 => 213 | 129 => 215 | 317 => 214 | 318 => 216 | 319 => 217 | 320 => 218 | 337 => 219 | 338 => 220 | n => n, fun | 3 => 3 | 9 => 9 | 2 => 2 | 4 => 4 | 171 => 313 | 0 => 0 | 53 => 83 | 37 => 55 | 5 => 5 | 173 => 316 | 212 => 320 | 51 => 22 | 20 => 20 | 213 => 321 | 46 => 50 | 232 => 325 | 233 => 326 | n => n, fun | 17 => 6 | 18 => 7 | 19 => 8 | n => n⟩
theorem Sk.lays171 : Go.Proofs.Lays.n171 Tryz.prog Sk.lays171_ren := {
  mixed := by kernel_rfl
  f129 := Tryz.func215.trans (congrArg some (by kernel_rfl))
  f171 := Tryz.func205.trans (congrArg some (by kernel_rfl))
  f243 := Tryz.func208.trans (congrArg some (by kernel_rfl))
  f246 := Tryz.func209.trans (congrArg some (by kernel_rfl))
  f283 := Tryz.func210.trans (congrArg some (by kernel_rfl))
  f284 := Tryz.func211.trans (congrArg some (by kernel_rfl))
  f285 := Tryz.func212.trans (congrArg some (by kernel_rfl))
  f286 := Tryz.func213.trans (congrArg some (by kernel_rfl))
  f317 := Tryz.func214.trans (congrArg some (by kernel_rfl))
  f318 := Tryz.func216.trans (congrArg some (by kernel_rfl))
  f319 := Tryz.func217.trans (congrArg some (by kernel_rfl))
  f320 := Tryz.func218.trans (congrArg some (by kernel_rfl))
  f337 := Tryz.func219.trans (congrArg some (by kernel_rfl))
  f338 := Tryz.func220.trans (congrArg some (by kernel_rfl))
  t0 := Tryz.underlying0
  a0 := Tryz.isAgg0
  z0 := Tryz.sizeOf0
  v0 := Tryz.zeroValue0
  t2 := Tryz.underlying2
  a2 := Tryz.isAgg2
  z2 := Tryz.sizeOf2
  v2 := Tryz.zeroValue2
  t3 := Tryz.underlying3
  a3 := Tryz.isAgg3
  z3 := Tryz.sizeOf3
  v3 := Tryz.zeroValue3
  t4 := Tryz.underlying4
  a4 := Tryz.isAgg4
  z4 := Tryz.sizeOf4
  v4 := Tryz.zeroValue4
  t5 := Tryz.underlying5
  a5 := Tryz.isAgg5
  z5 := Tryz.sizeOf5
  v5 := Tryz.zeroValue5
  t9 := Tryz.underlying9
  a9 := Tryz.isAgg9
  z9 := Tryz.sizeOf9
  v9 := Tryz.zeroValue9
  t20 := Tryz.underlying20
  a20 := Tryz.isAgg20
  z20 := Tryz.sizeOf20
  v20 := Tryz.zeroValue20
  t37 := Tryz.underlying55
  a37 := Tryz.isAgg55
  z37 := Tryz.sizeOf55
  v37 := Tryz.zeroValue55
  t46 := Tryz.underlying50
  a46 := Tryz.isAgg50
  z46 := Tryz.sizeOf50
  v46 := Tryz.zeroValue50
  t51 := Tryz.underlying22
  a51 := Tryz.isAgg22
  z51 := Tryz.sizeOf22
  v51 := Tryz.zeroValue22
  t53 := Tryz.underlying83
  a53 := Tryz.isAgg83
  z53 := Tryz.sizeOf83
  v53 := Tryz.zeroValue83
  t171 := Tryz.underlying313
  a171 := Tryz.isAgg313
  z171 := Tryz.sizeOf313
  v171 := Tryz.zeroValue313
  t173 := Tryz.underlying316
  a173 := Tryz.isAgg316
  z173 := Tryz.sizeOf316
  v173 := Tryz.zeroValue316
  t212 := Tryz.underlying320
  a212 := Tryz.isAgg320
  z212 := Tryz.sizeOf320
  v212 := Tryz.zeroValue320
  t213 := Tryz.underlying321
  a213 := Tryz.isAgg321
  z213 := Tryz.sizeOf321
  t232 := Tryz.underlying325
  a232 := Tryz.isAgg325
  z232 := Tryz.sizeOf325
  v232 := Tryz.zeroValue325
  t233 := Tryz.underlying326
  a233 := Tryz.isAgg326
  z233 := Tryz.sizeOf326
  v233 := Tryz.zeroValue326
  g17 := by kernel_rfl
  g18 := by kernel_rfl
  g19 := by kernel_rfl }
open Go.RowKit Go.Sort Go.Lib in
theorem Sk.strconv_Itoa_small (i : Nat) (hi : i < 100) (w : World) :
    Calls Tryz.prog 205 #[.int .i64 i] w fun e w' => e = .returned (.string ⟨(Lib.decDigits i).toArray⟩) ∧ w' = w := Any.strconv_Itoa_small Sk.lays171 i hi w

end Go.Proofs.YtcmpcjffmccllaaGreatDoor
