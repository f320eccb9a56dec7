/- Contracts of the library's strconv.Itoa and strings.Join at this program. -/
import Derived.Shelf.Lays
import Derived.Shelf.Strconv.Itoa3
import Derived.Shelf.Strings.OnBuilder
import Derived.Test.YtbfmmikllelfeaaGreatDoorProg
namespace Go.Proofs.YtbfmmikllelfeaaGreatDoor
open Go.Shelf

def Sk.lays156_ren : Go.Shelf.Ren := ⟨fun | 156 => 232 | 165 => 40 | 166 => 41 | 169 => 43 | 240 => 65 | 241 => 66 | 276 => 84 | 277 => 85 | n => n, fun | 31 => 31 | 9 => 9 | 3 => 3 | 4 => 4 | 0 => 0 | 20 => 20 | 72 => 71 | 76 => 75 | 70 => 69 | 37 => 44 | 75 => 74 | 127 => 95 | 164 => 164 | 5 => 5 | 80 => 78 | n => n, fun | n => n⟩
theorem Sk.lays156 : Go.Proofs.Lays.n156 Tryz.prog Sk.lays156_ren := {
  mixed := by kernel_rfl
  f156 := Tryz.func232.trans (congrArg some (by kernel_rfl))
  f165 := Tryz.func40.trans (congrArg some (by kernel_rfl))
  f166 := Tryz.func41.trans (congrArg some (by kernel_rfl))
  f169 := Tryz.func43.trans (congrArg some (by kernel_rfl))
  f240 := Tryz.func65.trans (congrArg some (by kernel_rfl))
  f241 := Tryz.func66.trans (congrArg some (by kernel_rfl))
  f276 := Tryz.func84.trans (congrArg some (by kernel_rfl))
  f277 := Tryz.func85.trans (congrArg some (by kernel_rfl))
  t0 := Tryz.underlying0
  a0 := Tryz.isAgg0
  z0 := Tryz.sizeOf0
  v0 := Tryz.zeroValue0
  t3 := Tryz.underlying3
  a3 := Tryz.isAgg3
  z3 := Tryz.sizeOf3
  v3 := Tryz.zeroValue3
  t4 := Tryz.underlying4
  a4 := Tryz.isAgg4
  z4 := Tryz.sizeOf4
  v4 := Tryz.zeroValue4
  t9 := Tryz.underlying9
  a9 := Tryz.isAgg9
  z9 := Tryz.sizeOf9
  v9 := Tryz.zeroValue9
  t20 := Tryz.underlying20
  a20 := Tryz.isAgg20
  z20 := Tryz.sizeOf20
  v20 := Tryz.zeroValue20
  t31 := Tryz.underlying31
  a31 := Tryz.isAgg31
  z31 := Tryz.sizeOf31
  v31 := Tryz.zeroValue31
  t37 := Tryz.underlying44
  a37 := Tryz.isAgg44
  z37 := Tryz.sizeOf44
  v37 := Tryz.zeroValue44
  t70 := Tryz.underlying69
  a70 := Tryz.isAgg69
  z70 := Tryz.sizeOf69
  v70 := Tryz.zeroValue69
  t72 := Tryz.underlying71
  a72 := Tryz.isAgg71
  z72 := Tryz.sizeOf71
  v72 := Tryz.zeroValue71
  t75 := Tryz.underlying74
  a75 := Tryz.isAgg74
  z75 := Tryz.sizeOf74
  v75 := Tryz.zeroValue74
  t76 := Tryz.underlying75
  a76 := Tryz.isAgg75
  z76 := Tryz.sizeOf75
  v76 := Tryz.zeroValue75
  t127 := Tryz.underlying95
  a127 := Tryz.isAgg95
  z127 := Tryz.sizeOf95
  v127 := Tryz.zeroValue95
  t164 := Tryz.underlying164
  a164 := Tryz.isAgg164
  z164 := Tryz.sizeOf164
  v164 := Tryz.zeroValue164 }
theorem Sk.Builder_Extra_156 : Builder.Extra Tryz.prog Sk.lays156_ren := {
  sizeBuilder := by kernel_rfl
  liesBuilder := by kernel_rfl
  t5 := Tryz.underlying5
  a5 := Tryz.isAgg5
  z5 := Tryz.sizeOf5
  v5 := Tryz.zeroValue5
  infoByte := by kernel_rfl
  cellsByte := by kernel_rfl
  sizeByte := by kernel_rfl
  neB5 := by decide }
open Go.RowKit in
theorem Sk.strings_Join_none (a : Option Addr) (c : Nat) (sep : ByteArray) (w : World) :
    Calls Tryz.prog 232 #[.slice a 0 c, .string sep] w fun e w' => e = .returned (.string ⟨#[]⟩) ∧ w' = w := Any.strings_Join_none Sk.lays156 Sk.Builder_Extra_156 a c sep w
open Go.RowKit in
theorem Sk.strings_Join (bk o c : Nat) (xs : List ByteArray) (sep : ByteArray) (w : World) (hcells : ∀ (j : Nat) x, xs[j]? = some x → w.cell? ⟨bk, o + j, none⟩ = some (.string x)) (hbk : bk < w.heap.size) (hN : xs.length ≤ 140737488355328) (hcap : xs.length ≤ c) (hlen : (Lib.join (xs.map (·.data.toList)) sep.data.toList).length ≤ 140737488355328) :
    Calls Tryz.prog 232 #[.slice (some ⟨bk, o, none⟩) xs.length c, .string sep] w fun e w' => e = .returned (.string ⟨(Lib.join (xs.map (·.data.toList)) sep.data.toList).toArray⟩) ∧ Below w.heap.size w w' := Any.strings_Join Sk.lays156 Sk.Builder_Extra_156 bk o c xs sep w hcells hbk hN hcap hlen

def Sk.lays171_ren : Go.Shelf.Ren := ⟨fun | 171 => 268 | 243 => 271 | 246 => 272 | 283 => 273 | 284 => 274 | 285 => 275 | 286 => 276 | 129 => 138 | 317 => 277 | 318 => 278 | 319 => 279 | 320 => 280 | 337 => 281 | 338 => 282 | n => n, fun | 3 => 3 | 9 => 9 | 2 => 2 | 4 => 4 | 171 => 384 | 0 => 0 | 53 => 92 | 37 => 44 | 5 => 5 | 173 => 386 | 212 => 390 | 51 => 40 | 20 => 20 | 213 => 391 | 46 => 65 | 232 => 393 | 233 => 394 | n => n, fun | 17 => 6 | 18 => 7 | 19 => 8 | n => n⟩
theorem Sk.lays171 : Go.Proofs.Lays.n171 Tryz.prog Sk.lays171_ren := {
  mixed := by kernel_rfl
  f129 := Tryz.func138.trans (congrArg some (by kernel_rfl))
  f171 := Tryz.func268.trans (congrArg some (by kernel_rfl))
  f243 := Tryz.func271.trans (congrArg some (by kernel_rfl))
  f246 := Tryz.func272.trans (congrArg some (by kernel_rfl))
  f283 := Tryz.func273.trans (congrArg some (by kernel_rfl))
  f284 := Tryz.func274.trans (congrArg some (by kernel_rfl))
  f285 := Tryz.func275.trans (congrArg some (by kernel_rfl))
  f286 := Tryz.func276.trans (congrArg some (by kernel_rfl))
  f317 := Tryz.func277.trans (congrArg some (by kernel_rfl))
  f318 := Tryz.func278.trans (congrArg some (by kernel_rfl))
  f319 := Tryz.func279.trans (congrArg some (by kernel_rfl))
  f320 := Tryz.func280.trans (congrArg some (by kernel_rfl))
  f337 := Tryz.func281.trans (congrArg some (by kernel_rfl))
  f338 := Tryz.func282.trans (congrArg some (by kernel_rfl))
  t0 := Tryz.underlying0
  a0 := Tryz.isAgg0
  z0 := Tryz.sizeOf0
  v0 := Tryz.zeroValue0
  t2 := Tryz.underlying2
  a2 := Tryz.isAgg2
  z2 := Tryz.sizeOf2
  v2 := Tryz.zeroValue2
  t3 := Tryz.underlying3
  a3 := Tryz.isAgg3
  z3 := Tryz.sizeOf3
  v3 := Tryz.zeroValue3
  t4 := Tryz.underlying4
  a4 := Tryz.isAgg4
  z4 := Tryz.sizeOf4
  v4 := Tryz.zeroValue4
  t5 := Tryz.underlying5
  a5 := Tryz.isAgg5
  z5 := Tryz.sizeOf5
  v5 := Tryz.zeroValue5
  t9 := Tryz.underlying9
  a9 := Tryz.isAgg9
  z9 := Tryz.sizeOf9
  v9 := Tryz.zeroValue9
  t20 := Tryz.underlying20
  a20 := Tryz.isAgg20
  z20 := Tryz.sizeOf20
  v20 := Tryz.zeroValue20
  t37 := Tryz.underlying44
  a37 := Tryz.isAgg44
  z37 := Tryz.sizeOf44
  v37 := Tryz.zeroValue44
  t46 := Tryz.underlying65
  a46 := Tryz.isAgg65
  z46 := Tryz.sizeOf65
  v46 := Tryz.zeroValue65
  t51 := Tryz.underlying40
  a51 := Tryz.isAgg40
  z51 := Tryz.sizeOf40
  v51 := Tryz.zeroValue40
  t53 := Tryz.underlying92
  a53 := Tryz.isAgg92
  z53 := Tryz.sizeOf92
  v53 := Tryz.zeroValue92
  t171 := Tryz.underlying384
  a171 := Tryz.isAgg384
  z171 := Tryz.sizeOf384
  v171 := Tryz.zeroValue384
  t173 := Tryz.underlying386
  a173 := Tryz.isAgg386
  z173 := Tryz.sizeOf386
  v173 := Tryz.zeroValue386
  t212 := Tryz.underlying390
  a212 := Tryz.isAgg390
  z212 := Tryz.sizeOf390
  v212 := Tryz.zeroValue390
  t213 := Tryz.underlying391
  a213 := Tryz.isAgg391
  z213 := Tryz.sizeOf391
  t232 := Tryz.underlying393
  a232 := Tryz.isAgg393
  z232 := Tryz.sizeOf393
  v232 := Tryz.zeroValue393
  t233 := Tryz.underlying394
  a233 := Tryz.isAgg394
  z233 := Tryz.sizeOf394
  v233 := Tryz.zeroValue394
  g17 := by kernel_rfl
  g18 := by kernel_rfl
  g19 := by kernel_rfl }
open Go.RowKit Go.Sort Go.Lib in
theorem Sk.strconv_Itoa_small (i : Nat) (hi : i < 100) (w : World) :
    Calls Tryz.prog 268 #[.int .i64 i] w fun e w' => e = .returned (.string ⟨(Lib.decDigits i).toArray⟩) ∧ w' = w := Any.strconv_Itoa_small Sk.lays171 i hi w

end Go.Proofs.YtbfmmikllelfeaaGreatDoor
