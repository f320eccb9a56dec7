/- Inlines: the loop of inline. -/
import Derived.Test.YtbfmmikllelfeaaGreatDoorI3
import Derived.Test.YtbfmmikllelfeaaGreatDoorI5
import Derived.Test.YtbfmmikllelfeaaGreatDoorC1
import Derived.Test.YtbfmmikllelfeaaGreatDoorI1
import Derived.Test.YtbfmmikllelfeaaGreatDoorD0
import Derived.Test.YtbfmmikllelfeaaGreatDoorEp
import Derived.Test.YtbfmmikllelfeaaGreatDoorN8
namespace Go.Proofs.YtbfmmikllelfeaaGreatDoor
open Go.RowKit Sl

set_option maxRecDepth 100000 in
set_option maxHeartbeats 1000000 in
theorem parseEscape_w (p : Option Addr) (s : List UInt8) (i : Nat) (c : UInt8) (hsl : s.length ≤ 1000000000) (h1 : s[i + 1]? = some c) (hp : isP c = true) (w : World) (G : HP) (hs : Sat w G) :
    Calls Tryz.prog 109 #[.pointer p, .string (B.bs s), .int .i64 i] w fun e w' => ∃ v, e = .returned (.tuple #[v, .int .i64 i, .int .i64 (i + 2 : Nat), .bool true]) ∧ Sat w' (TokAt v (.esc [c]) * G) := by
  have hz : (B.bs s).size = s.length := rfl
  obtain ⟨hlt, hc⟩ := List.getElem?_eq_some_iff.1 h1
  have hix : ∀ h, (B.bs s)[i + 1]'h = c := fun _ => hc
  have hcut : (B.bs s).extract (i + 1) (i + 2) = B.bs [c] := by
    rw [B.extract_bs, B.bs_data, show i + 2 - (i + 1) = 1 by omega, List.drop_eq_getElem_cons hlt, hc]
    rfl
  have hP := fun w => isP_w c w
  rw [hp] at hP
  have HP := Lib.hid hP
  clear hP hp h1 hc
  go_enter Tryz.func109, Tryz.ntmps109
  go_wp2_with fail
  refine (HP.out w).mono ?_
  rintro e w' ⟨rfl, rfl⟩
  go_wp2
  refine bodyPost_ret (v := .tuple #[.iface 234 (.pointer (some ⟨w.heap.size, 0, none⟩)), .int .i64 i, .int .i64 (i + 2 : Nat), .bool true]) (by simp [results, Tryz.results109, go_sem]) rfl ⟨_, rfl, ?_⟩
  have h5 := hs.new (d := w.heap.size) [.string (B.bs [c])] 236 rfl
  exact Sat.ex_mk w.heap.size (h5.cast (by rw [pur_star rfl]))

/-- A frame of 335 temporaries, of which 0, 1, 5, 7, 8 are known. -/
def IFrame (v0 v1 v5 v7 v8 : Value) (a : Act) : Prop := a.defers = [] ∧ a.tmps.size = 335 ∧ a.tmps[0]? = some v0 ∧ a.tmps[1]? = some v1 ∧ a.tmps[5]? = some v5 ∧ a.tmps[7]? = some v7 ∧ a.tmps[8]? = some v8

set_option maxRecDepth 100000 in
theorem IFrame.open {v0 v1 v5 v7 v8 : Value} {a : Act} (h : IFrame v0 v1 v5 v7 v8 a) : ∃ u : Nat → Value, a = ⟨#[v0, v1, u 2, u 3, u 4, v5, u 6, v7, v8, u 9, u 10, u 11, u 12, u 13, u 14, u 15, u 16, u 17, u 18, u 19, u 20, u 21, u 22, u 23, u 24, u 25, u 26, u 27, u 28, u 29, u 30, u 31, u 32, u 33, u 34, u 35, u 36, u 37, u 38, u 39, u 40, u 41, u 42, u 43, u 44, u 45, u 46, u 47, u 48, u 49, u 50, u 51, u 52, u 53, u 54, u 55, u 56, u 57, u 58, u 59, u 60, u 61, u 62, u 63, u 64, u 65, u 66, u 67, u 68, u 69, u 70, u 71, u 72, u 73, u 74, u 75, u 76, u 77, u 78, u 79, u 80, u 81, u 82, u 83, u 84, u 85, u 86, u 87, u 88, u 89, u 90, u 91, u 92, u 93, u 94, u 95, u 96, u 97, u 98, u 99, u 100, u 101, u 102, u 103, u 104, u 105, u 106, u 107, u 108, u 109, u 110, u 111, u 112, u 113, u 114, u 115, u 116, u 117, u 118, u 119, u 120, u 121, u 122, u 123, u 124, u 125, u 126, u 127, u 128, u 129, u 130, u 131, u 132, u 133, u 134, u 135, u 136, u 137, u 138, u 139, u 140, u 141, u 142, u 143, u 144, u 145, u 146, u 147, u 148, u 149, u 150, u 151, u 152, u 153, u 154, u 155, u 156, u 157, u 158, u 159, u 160, u 161, u 162, u 163, u 164, u 165, u 166, u 167, u 168, u 169, u 170, u 171, u 172, u 173, u 174, u 175, u 176, u 177, u 178, u 179, u 180, u 181, u 182, u 183, u 184, u 185, u 186, u 187, u 188, u 189, u 190, u 191, u 192, u 193, u 194, u 195, u 196, u 197, u 198, u 199, u 200, u 201, u 202, u 203, u 204, u 205, u 206, u 207, u 208, u 209, u 210, u 211, u 212, u 213, u 214, u 215, u 216, u 217, u 218, u 219, u 220, u 221, u 222, u 223, u 224, u 225, u 226, u 227, u 228, u 229, u 230, u 231, u 232, u 233, u 234, u 235, u 236, u 237, u 238, u 239, u 240, u 241, u 242, u 243, u 244, u 245, u 246, u 247, u 248, u 249, u 250, u 251, u 252, u 253, u 254, u 255, u 256, u 257, u 258, u 259, u 260, u 261, u 262, u 263, u 264, u 265, u 266, u 267, u 268, u 269, u 270, u 271, u 272, u 273, u 274, u 275, u 276, u 277, u 278, u 279, u 280, u 281, u 282, u 283, u 284, u 285, u 286, u 287, u 288, u 289, u 290, u 291, u 292, u 293, u 294, u 295, u 296, u 297, u 298, u 299, u 300, u 301, u 302, u 303, u 304, u 305, u 306, u 307, u 308, u 309, u 310, u 311, u 312, u 313, u 314, u 315, u 316, u 317, u 318, u 319, u 320, u 321, u 322, u 323, u 324, u 325, u 326, u 327, u 328, u 329, u 330, u 331, u 332, u 333, u 334], []⟩ := by
  obtain ⟨t, d⟩ := a
  obtain ⟨h1, h2, k0, k1, k5, k7, k8⟩ := h
  obtain ⟨l⟩ := t
  have hl : l.length = 335 := h2
  have e := list_range l
  rw [hl] at e
  simp only at h1
  subst h1
  have e0 : l[0]?.getD undef = v0 := by
    have : l[0]? = some v0 := by simpa using k0
    rw [this]; rfl
  have e1 : l[1]?.getD undef = v1 := by
    have : l[1]? = some v1 := by simpa using k1
    rw [this]; rfl
  have e5 : l[5]?.getD undef = v5 := by
    have : l[5]? = some v5 := by simpa using k5
    rw [this]; rfl
  have e7 : l[7]?.getD undef = v7 := by
    have : l[7]? = some v7 := by simpa using k7
    rw [this]; rfl
  have e8 : l[8]?.getD undef = v8 := by
    have : l[8]? = some v8 := by simpa using k8
    rw [this]; rfl
  refine ⟨fun i => l[i]?.getD undef, ?_⟩
  rw [← e0, ← e1, ← e5, ← e7, ← e8]
  have e' : (⟨⟨l⟩, []⟩ : Act) = ⟨((List.range 335).map fun i => l[i]?.getD undef).toArray, []⟩ := by rw [← e]
  exact e'

/-- A frame of 335 temporaries, of which 0 are known. -/
def JFrame (v0 : Value) (a : Act) : Prop := a.defers = [] ∧ a.tmps.size = 335 ∧ a.tmps[0]? = some v0

set_option maxRecDepth 100000 in
theorem JFrame.open {v0 : Value} {a : Act} (h : JFrame v0 a) : ∃ u : Nat → Value, a = ⟨#[v0, u 1, u 2, u 3, u 4, u 5, u 6, u 7, u 8, u 9, u 10, u 11, u 12, u 13, u 14, u 15, u 16, u 17, u 18, u 19, u 20, u 21, u 22, u 23, u 24, u 25, u 26, u 27, u 28, u 29, u 30, u 31, u 32, u 33, u 34, u 35, u 36, u 37, u 38, u 39, u 40, u 41, u 42, u 43, u 44, u 45, u 46, u 47, u 48, u 49, u 50, u 51, u 52, u 53, u 54, u 55, u 56, u 57, u 58, u 59, u 60, u 61, u 62, u 63, u 64, u 65, u 66, u 67, u 68, u 69, u 70, u 71, u 72, u 73, u 74, u 75, u 76, u 77, u 78, u 79, u 80, u 81, u 82, u 83, u 84, u 85, u 86, u 87, u 88, u 89, u 90, u 91, u 92, u 93, u 94, u 95, u 96, u 97, u 98, u 99, u 100, u 101, u 102, u 103, u 104, u 105, u 106, u 107, u 108, u 109, u 110, u 111, u 112, u 113, u 114, u 115, u 116, u 117, u 118, u 119, u 120, u 121, u 122, u 123, u 124, u 125, u 126, u 127, u 128, u 129, u 130, u 131, u 132, u 133, u 134, u 135, u 136, u 137, u 138, u 139, u 140, u 141, u 142, u 143, u 144, u 145, u 146, u 147, u 148, u 149, u 150, u 151, u 152, u 153, u 154, u 155, u 156, u 157, u 158, u 159, u 160, u 161, u 162, u 163, u 164, u 165, u 166, u 167, u 168, u 169, u 170, u 171, u 172, u 173, u 174, u 175, u 176, u 177, u 178, u 179, u 180, u 181, u 182, u 183, u 184, u 185, u 186, u 187, u 188, u 189, u 190, u 191, u 192, u 193, u 194, u 195, u 196, u 197, u 198, u 199, u 200, u 201, u 202, u 203, u 204, u 205, u 206, u 207, u 208, u 209, u 210, u 211, u 212, u 213, u 214, u 215, u 216, u 217, u 218, u 219, u 220, u 221, u 222, u 223, u 224, u 225, u 226, u 227, u 228, u 229, u 230, u 231, u 232, u 233, u 234, u 235, u 236, u 237, u 238, u 239, u 240, u 241, u 242, u 243, u 244, u 245, u 246, u 247, u 248, u 249, u 250, u 251, u 252, u 253, u 254, u 255, u 256, u 257, u 258, u 259, u 260, u 261, u 262, u 263, u 264, u 265, u 266, u 267, u 268, u 269, u 270, u 271, u 272, u 273, u 274, u 275, u 276, u 277, u 278, u 279, u 280, u 281, u 282, u 283, u 284, u 285, u 286, u 287, u 288, u 289, u 290, u 291, u 292, u 293, u 294, u 295, u 296, u 297, u 298, u 299, u 300, u 301, u 302, u 303, u 304, u 305, u 306, u 307, u 308, u 309, u 310, u 311, u 312, u 313, u 314, u 315, u 316, u 317, u 318, u 319, u 320, u 321, u 322, u 323, u 324, u 325, u 326, u 327, u 328, u 329, u 330, u 331, u 332, u 333, u 334], []⟩ := by
  obtain ⟨t, d⟩ := a
  obtain ⟨h1, h2, k0⟩ := h
  obtain ⟨l⟩ := t
  have hl : l.length = 335 := h2
  have e := list_range l
  rw [hl] at e
  simp only at h1
  subst h1
  have e0 : l[0]?.getD undef = v0 := by
    have : l[0]? = some v0 := by simpa using k0
    rw [this]; rfl
  refine ⟨fun i => l[i]?.getD undef, ?_⟩
  rw [← e0]
  have e' : (⟨⟨l⟩, []⟩ : Act) = ⟨((List.range 335).map fun i => l[i]?.getD undef).toArray, []⟩ := by rw [← e]
  exact e'

theorem loud_false {o : Opt} {c : UInt8} (h : loud o c = false) : (c ≠ 92 ∧ c ≠ 96 ∧ c ≠ 60 ∧ c ≠ 91 ∧ c ≠ 33 ∧ c ≠ 95 ∧ c ≠ 42 ∧ c ≠ 10 ∧ c ≠ 38) ∧
    ((c = 46 ∧ o.dots = false) ∨ (c = 45 ∧ o.dashes = false) ∨ (c = 34 ∧ o.quotes = false) ∨ (c = 39 ∧ o.quotes = false) ∨ (c = 126 ∧ o.del = false) ∨ (c = 58 ∧ o.emoji = false) ∨ (c ≠ 46 ∧ c ≠ 45 ∧ c ≠ 34 ∧ c ≠ 39 ∧ c ≠ 126 ∧ c ≠ 58)) := by
  unfold loud at h
  simp only [Bool.or_eq_false_iff, Bool.and_eq_false_iff, beq_eq_false_iff_ne, ne_eq] at h
  obtain ⟨⟨⟨⟨⟨⟨⟨⟨⟨⟨⟨⟨⟨a1, a2⟩, a3⟩, a4⟩, a5⟩, a6⟩, a7⟩, a8⟩, a9⟩, a10⟩, a11⟩, a12⟩, a13⟩, a14⟩ := h
  refine ⟨⟨a1, a2, a3, a4, a5, a6, a7, a12, a13⟩, ?_⟩
  by_cases h1 : c = 46
  · exact .inl ⟨h1, a8.resolve_left fun h => h h1⟩
  by_cases h2 : c = 45
  · exact .inr (.inl ⟨h2, a9.resolve_left fun h => h h2⟩)
  by_cases h3 : c = 34
  · exact .inr (.inr (.inl ⟨h3, a10.resolve_left fun h => h.1 h3⟩))
  by_cases h4 : c = 39
  · exact .inr (.inr (.inr (.inl ⟨h4, a10.resolve_left fun h => h.2 h4⟩)))
  by_cases h5 : c = 126
  · exact .inr (.inr (.inr (.inr (.inl ⟨h5, a11.resolve_left fun h => h h5⟩))))
  by_cases h6 : c = 58
  · exact .inr (.inr (.inr (.inr (.inr (.inl ⟨h6, a14.resolve_left fun h => h h6⟩)))))
  exact .inr (.inr (.inr (.inr (.inr (.inr ⟨h1, h2, h3, h4, h5, h6⟩)))))

theorem neq_nilFunc (w : World) : (binOp .neq 205 .nilFunc .nilFunc).run Tryz.prog w = .ok (.bool false) w := by kernel_rfl
theorem neq_bound (f : FuncId) (v : Value) (w : World) : (binOp .neq 205 (.func (.func f) #[v] #[]) .nilFunc).run Tryz.prog w = .ok (.bool true) w := by kernel_rfl
theorem neq_func (f : FuncId) (w : World) : (binOp .neq 205 (.func (.func f) #[] #[]) .nilFunc).run Tryz.prog w = .ok (.bool true) w := by kernel_rfl

/-- What inline leaves of the parser's state as it was. -/
def Keeps (x x0 : PSt) : Prop := x.parser = x0.parser ∧ x.root = x0.root ∧ x.links = x0.links ∧ x.lineno = x0.lineno ∧ x.stack = x0.stack ∧ x.depth = x0.depth ∧ x.lists = x0.lists ∧ x.texts = x0.texts ∧ x.bt.length = x0.bt.length

/-- What autoLinkText makes of tokens. -/
def AutoOf (o : Opt) (ts us : List Tok) : Prop := ∀ (p pb g k cap : Nat) (x : PSt) (vs junk : List Value) (F : HP) (w : World), x.parser = some ⟨pb, 0, none⟩ → k = vs.length → vs.length ≤ 1000000000 → cap ≤ maxLen → cap = (vs ++ junk).length →
  Sat w (row p 173 x.cells * (row pb 105 o.pcells * (row g 188 (vs ++ junk) * (ToksAt vs ts * F)))) →
  Calls Tryz.prog 127 #[.pointer (some ⟨p, 0, none⟩), .slice (some ⟨g, 0, none⟩) k cap] w fun e w' => ∃ L : SV, e = .returned L.v ∧ Sat w' (row p 173 x.cells * (InlsAt L us * (row pb 105 o.pcells * F)))

theorem autoOf_off {o : Opt} (ho : o.auto = false) (ts : List Tok) : AutoOf o ts ts := by
  intro p pb g k cap x vs junk F w hx hk hv hcm hcap hs
  have hna := noAuto_w p pb ⟨some ⟨g, 0, none⟩, k, cap⟩ x o.pcells _ w hx (by simp [Opt.pcells, ho]) hs
  refine hna.mono ?_
  rintro e w' ⟨rfl, rfl⟩
  refine ⟨_, rfl, ?_⟩
  have s12 := arr_mk (t := 188) (sz := 1) (n := k) (cap := cap) (xs := vs) (junk := junk) (by rw [Nat.mul_one]; exact hk.symm) (by rw [hcap, List.length_append]; omega) hcm (by rw [Nat.mul_one]; exact hcap.symm) (hs.cast (show _ = row g 188 (vs ++ junk) * (ToksAt vs ts * (row p 173 x.cells * (row pb 105 o.pcells * F))) from by ac_rfl))
  have s13 : Sat _ (InlsAt ⟨some ⟨g, 0, none⟩, k, cap⟩ ts * _) := inlsAt_iff.2 ⟨vs, hk, s12⟩
  exact s13.cast (by
    generalize InlsAt ⟨some ⟨g, 0, none⟩, k, cap⟩ ts = Y
    ac_rfl)

set_option maxRecDepth 100000 in
set_option maxHeartbeats 4000000 in
theorem inline_w (P : List Tok → Prop) (hM : Merges P) (p pb : Nat) (o : Opt) (raw s : List UInt8) (ts : List Tok) (x0 : PSt) (F : HP) (w : World) (hx : x0.parser = some ⟨pb, 0, none⟩) (hb0 : x0.bt.length = 81) (hraw : raw.length ≤ 100000000) (hst : B.trimR (B.trimL raw) = s) (hsl : s.length ≤ 100000000) {us : List Tok} (hA : AutoOf o (mergeT ts) us) (hne : ts ≠ [])
    (hS : Scan o s 0 0 ts) (hR : Runs P ts) (hs : Sat w (row p 173 x0.cells * (row pb 105 o.pcells * F))) :
    Calls Tryz.prog 92 #[.pointer (some ⟨p, 0, none⟩), .string (B.bs raw)] w fun e w' => ∃ (x : PSt) (L : SV), e = .returned L.v ∧ Keeps x x0 ∧ Sat w' (row p 173 x.cells * (InlsAt L us * (row pb 105 o.pcells * F))) := by
  have hz : (B.bs s).size = s.length := rfl
  have hx0 := hx
  have nn := neq_nilFunc
  have nf := neq_func
  have nb := neq_bound
  obtain ⟨f0, f1, f2, f3, f4, f5, f6, f7, f8, f9, f10, f11, fz, hlp⟩ := PSt.facts hs
  clear f0 f1 f2 f3 f4 f5 f6 f10 f11
  have hT := trimSpaceTab_w raw w (by omega)
  rw [hst] at hT
  have HT := Lib.hid hT
  have HX := Lib.hid hx
  have HS := Lib.hid hs
  clear hT hx hs hst
  go_enter Tryz.func92, Tryz.ntmps92
  go_wp2_with fail
  refine HT.out.mono ?_
  rintro e w1 ⟨rfl, rfl⟩
  go_wp2
  have h0 : Sat (((w.setCell ⟨p, 7, none⟩ (.string (B.bs s))).setCell ⟨p, 9, none⟩ (.slice none 0 0)).setCell ⟨p, 8, none⟩ (.int .i64 0)) (row p 173 { x0 with s := B.bs s, list := ⟨none, 0, 0⟩, emitted := 0 }.cells * (row pb 105 o.pcells * F)) := ((HS.out.set 7 _).set 9 _).set 8 _
  refine wp_loop (fun a wr => ∃ (k e : Nat) (b : Bool) (ts1 ts2 : List Tok) (vals : List Value) (x : PSt), IFrame (.pointer (some ⟨p, 0, none⟩)) (.string (B.bs s)) (.slice none 0 0) (.bool b) (.int .i64 k) a ∧ Scan o s k e ts2 ∧ ts1 ++ ts2 = ts ∧ vals.length ≤ 2 * e ∧ x.list.len = vals.length ∧ x.s = B.bs s ∧ x.emitted = (e : Int) ∧ Keeps x x0 ∧ (b = true → BtOk x.bt) ∧
      Sat wr (row p 173 x.cells * (arr 188 1 x.list.v x.list.len vals * (ToksAt vals ts1 * (row pb 105 o.pcells * F)))))
    (fun a _ => s.length - (intOf (a.tmps.getD 8 undef)).toNat) ⟨0, 0, false, [], ts, [], { x0 with s := B.bs s, list := ⟨none, 0, 0⟩, emitted := 0 }, ⟨rfl, rfl, rfl, rfl, rfl, rfl, rfl⟩, hS, rfl, Nat.le_refl _, rfl, rfl, rfl, ⟨rfl, rfl, rfl, rfl, rfl, rfl, rfl, rfl, rfl⟩, (fun h => by cases h), ?_⟩ ?_
  · show Sat _ (row p 173 _ * (arr 188 1 (.slice none 0 0) 0 [] * (ToksAt [] [] * _)))
    rw [arr_nil, emp_star, toksAt_nil, emp_star]
    exact h0
  rintro a wr ⟨k, e, b, ts1, ts2, vals, x, ha, hsc, hts, hvl, hxl, hxs, hxe, hkp, hbt, h⟩
  clear h0 f7 f8 f9 fz hlp
  obtain ⟨u, rfl⟩ := ha.open
  clear ha
  obtain ⟨f0, f1, f2, f3, f4, f5, f6, f7, f8, f9, f10, f11, fz, hlp⟩ := PSt.facts h
  have f0' : wr.cell? ⟨p, 0, none⟩ = some (.pointer (some ⟨pb, 0, none⟩)) := by rw [f0, hkp.1, hx0]
  have HK := Lib.hid hkp
  have HBT := Lib.hid hbt
  have HXL := Lib.hid hxl
  have HXS := Lib.hid hxs
  have HXE := Lib.hid hxe
  have HTS := Lib.hid hts
  have hpb : ∀ j v, o.pcells[j]? = some v → wr.cell? ⟨pb, j, none⟩ = some v := fun j v hj => (h.cast (show _ = row pb 105 o.pcells * (row p 173 x.cells * (arr 188 1 x.list.v x.list.len vals * (ToksAt vals ts1 * F))) from by ac_rfl)).cell j hj
  have p7 := hpb 7 (.bool o.dots) rfl
  have p8 := hpb 8 (.bool o.dashes) rfl
  have p9 := hpb 9 (.bool o.quotes) rfl
  have p1 := hpb 1 (.bool o.del) rfl
  have p6 := hpb 6 (.bool o.emoji) rfl
  have H := Lib.hid h
  clear f0 f1 f2 f3 f4 f5 f6 f7 f8 f9 f10 f11 fz hkp hbt hxl hxs hxe hts hpb h
  cases hsc with
  | stop e he =>
    have hem := emit_w p s.length e s x vals ts1 (row pb 105 o.pcells * F) wr HXS.out HXE.out he (Nat.le_refl _) (by omega) (by omega) HXL.out H.out
    have HEM := Lib.hid hem
    clear hem nf nn p7 p8 p9 p1 p6 f0'
    go_wp2_with fail
    refine HEM.out.mono ?_
    rintro e2 w2 ⟨rfl, L, vals', q1, q2, s2⟩
    have htt : ts1 ++ flush ((s.take s.length).drop e) = ts := by rw [List.take_of_length_le (Nat.le_refl _)]; exact HTS.out
    rw [htt] at s2
    have hlen := toksAt_len (s2.cast (show _ = ToksAt vals' ts * (row p 173 { x with emitted := (s.length : Int), list := L }.cells * (arr 188 1 L.v L.len vals' * (row pb 105 o.pcells * F))) from by ac_rfl))
    rcases s2.swap.arr_cases with ⟨_, _, hnil, _⟩ | ⟨g, cap, junk, hLv, hxx, hnc, hcm, hcs, s3⟩
    · exfalso
      rw [hnil] at hlen
      exact hne (List.eq_nil_of_length_eq_zero hlen.symm)
    obtain ⟨La, Lm, Lc⟩ := L
    unfold SV.v at hLv
    injection hLv with e1 e2 e3
    clear e2
    subst e1
    subst e3
    replace q1 : Lm = vals'.length := q1
    subst q1
    have hE := fun w hs => emph_w (some ⟨p, 0, none⟩) g Lc vals' junk ts (row p 173 { x with emitted := (s.length : Int), list := ⟨some ⟨g, 0, none⟩, vals'.length, Lc⟩ }.cells * (row pb 105 o.pcells * F)) w (by rw [hcs, Nat.mul_one]) (by omega) hs
    have s4 := s3.cast (show _ = row g 188 (vals' ++ junk) * (ToksAt vals' ts * (row p 173 { x with emitted := (s.length : Int), list := ⟨some ⟨g, 0, none⟩, vals'.length, Lc⟩ }.cells * (row pb 105 o.pcells * F))) from by ac_rfl)
    have HE := Lib.hid hE
    have hM2 := fun w hs => mergePlain_w P hM (some ⟨p, 0, none⟩) g Lc vals' junk ts (row p 173 { x with emitted := (s.length : Int), list := ⟨some ⟨g, 0, none⟩, vals'.length, Lc⟩ }.cells * (row pb 105 o.pcells * F)) w (by rw [hcs, Nat.mul_one]) (by omega) hR hs
    have HM2 := Lib.hid hM2
    have c9 : w2.cell? ⟨p, 9, none⟩ = some (.slice (some ⟨g, 0, none⟩) vals'.length Lc) := (s4.cast (show _ = row p 173 { x with emitted := (s.length : Int), list := ⟨some ⟨g, 0, none⟩, vals'.length, Lc⟩ }.cells * (row g 188 (vals' ++ junk) * (ToksAt vals' ts * (row pb 105 o.pcells * F))) from by ac_rfl)).cell 9 rfl
    have hsame : ({ x with emitted := (s.length : Int), list := ⟨some ⟨g, 0, none⟩, vals'.length, Lc⟩ } : PSt).cells.set 9 (.slice (some ⟨g, 0, none⟩) vals'.length Lc) = ({ x with emitted := (s.length : Int), list := ⟨some ⟨g, 0, none⟩, vals'.length, Lc⟩ } : PSt).cells := rfl
    have S4 := Lib.hid s4
    have HSAME := Lib.hid hsame
    clear hE hM2 s4 s3 s2 hsame HEM htt hlen hcs hM hR hxx
    have c9d : w2.drew.cell? ⟨p, 9, none⟩ = some (.slice (some ⟨g, 0, none⟩) vals'.length Lc) := c9
    go_wp2_with fail
    rename_i hk
    have REST : ∀ (B : Act) (w3 : World), B.defers = [] → B.tmps.size = 335 → B.eval (.tmp 0) = .pointer (some ⟨p, 0, none⟩) → Sat w3 (row g 188 (vals' ++ junk) * (ToksAt vals' ts * (row p 173 { x with emitted := (s.length : Int), list := ⟨some ⟨g, 0, none⟩, vals'.length, Lc⟩ }.cells * (row pb 105 o.pcells * F)))) → _ := fun B w3 b1 b2 b3 s5 => hk B (w3.setCell ⟨p, 9, none⟩ (.slice (some ⟨g, 0, none⟩) vals'.length Lc)) (by
      have b4 := slot_of (A := B) (k := 0) (by omega) b3
      obtain ⟨u2, rfl⟩ := JFrame.open (v0 := .pointer (some ⟨p, 0, none⟩)) ⟨b1, b2, b4⟩
      clear b1 b2 b3 b4 hk c9 c9d
      have s6 := s5.third.set 9 (.slice (some ⟨g, 0, none⟩) vals'.length Lc)
      rw [HSAME.out] at s6
      have k9 : (w3.setCell ⟨p, 9, none⟩ (.slice (some ⟨g, 0, none⟩) vals'.length Lc)).cell? ⟨p, 9, none⟩ = some (.slice (some ⟨g, 0, none⟩) vals'.length Lc) := s6.cell 9 rfl
      have s7 := s6.cast (show _ = row g 188 (vals' ++ junk) * (ToksAt vals' ts * (row p 173 { x with emitted := (s.length : Int), list := ⟨some ⟨g, 0, none⟩, vals'.length, Lc⟩ }.cells * (row pb 105 o.pcells * F))) from by ac_rfl)
      have S7 := Lib.hid s7
      clear s5 s6 s7 HE S4
      generalize w3.setCell ⟨p, 9, none⟩ (.slice (some ⟨g, 0, none⟩) vals'.length Lc) = w4 at k9 S7 ⊢
      go_wp2_with fail
      refine (HM2.out w4 S7.out).mono ?_
      rintro e5 w5 ⟨k, vs', junk', rfl, r1, r2, r3, s8⟩
      have m9 : w5.cell? ⟨p, 9, none⟩ = some (.slice (some ⟨g, 0, none⟩) vals'.length Lc) := s8.third.cell 9 rfl
      have mf := fun i => s8.third.frozen i
      have s9 : Sat (w5.setCell ⟨p, 9, none⟩ (.slice (some ⟨g, 0, none⟩) k Lc)) (row p 173 { x with emitted := (s.length : Int), list := ⟨some ⟨g, 0, none⟩, k, Lc⟩ }.cells * (row g 188 (vs' ++ junk') * (ToksAt vs' (mergeT ts) * (row pb 105 o.pcells * F)))) := s8.third.set 9 (.slice (some ⟨g, 0, none⟩) k Lc)
      have R1 := Lib.hid r1
      have R3 := Lib.hid r3
      have n9 : (w5.setCell ⟨p, 9, none⟩ (.slice (some ⟨g, 0, none⟩) k Lc)).cell? ⟨p, 9, none⟩ = some (.slice (some ⟨g, 0, none⟩) k Lc) := s9.cell 9 rfl
      have nf9 := fun i => s9.frozen i
      have S9 := Lib.hid s9
      clear r1 r3 s8 s9 S7 k9 HM2
      have hpar : ({ x with emitted := (s.length : Int), list := ⟨some ⟨g, 0, none⟩, k, Lc⟩ } : PSt).parser = some ⟨pb, 0, none⟩ := by
        show x.parser = _
        rw [HK.out.1, hx0]
      have hna := hA p pb g k Lc _ vs' junk' F _ hpar R1.out (by have := R1.out; omega) hcm R3.out (S9.out.cast (by ac_rfl))
      have HNA := Lib.hid hna
      clear hna hpar
      go_wp2_with fail
      refine HNA.out.mono ?_
      rintro e6 w6 ⟨⟨La, Ln, Lk⟩, rfl, s6⟩
      have q9 := s6.cell 9 rfl
      have qf := fun i => s6.frozen i
      have s10 := s6.set 9 (.slice La Ln Lk)
      have n9' : (w6.setCell ⟨p, 9, none⟩ (.slice La Ln Lk)).cell? ⟨p, 9, none⟩ = some (.slice La Ln Lk) := s10.cell 9 rfl
      have S10 := Lib.hid s10
      clear s6 s10 HNA
      unfold SV.v
      go_wp2
      go_ret
      exact ⟨{ x with emitted := (s.length : Int), list := ⟨La, Ln, Lk⟩ }, ⟨La, Ln, Lk⟩, rfl, HK.out, S10.out⟩)
    refine wp_region_any (by kernel_rfl) ?_
    change wpAny _ _ _ _ _ _ _ (World.drew _)
    refine abs_frame (C := fun A => wpAny _ _ _ _ _ _ A _) _ ?_
    intro A hAd hA hA0
    replace hA : A.tmps.size = 335 := hA
    replace hA0 : A.eval (.tmp 0) = .pointer (some ⟨p, 0, none⟩) := hA0
    replace hAd : A.defers = [] := hAd
    refine take_at 0 299 (v := (.pointer (some ⟨p, 0, none⟩))) rfl rfl (by kernel_rfl) (by kernel_rfl) (by kernel_rfl) (fun _ _ _ h => h) rfl (fun w => run_gen (fun ρ => ρ (.tmp 0) = (.pointer (some ⟨p, 0, none⟩))) _ (fun ρ hρ => by go_simp) (by repeat (first | with_reducible exact hA0 | (with_reducible refine ev_same ?_; (repeat rw [sz_put]); rw [hA]; decide) | with_reducible refine (ev_ne (by decide)).trans ?_))) ?_
    refine take_at 1 300 (v := (.pointer (some ⟨p, 0, none⟩))) rfl rfl (by kernel_rfl) (by kernel_rfl) (by kernel_rfl) (fun _ _ _ h => h) rfl (fun w => run_gen (fun ρ => ρ (.tmp 0) = (.pointer (some ⟨p, 0, none⟩))) _ (fun ρ hρ => by go_simp) (by repeat (first | with_reducible exact hA0 | (with_reducible refine ev_same ?_; (repeat rw [sz_put]); rw [hA]; decide) | with_reducible refine (ev_ne (by decide)).trans ?_))) ?_
    refine take_at 2 301 (v := (.pointer (some ⟨p, 0, none⟩))) rfl rfl (by kernel_rfl) (by kernel_rfl) (by kernel_rfl) (fun _ _ _ h => h) rfl (fun w => run_gen (fun ρ => ρ (.tmp 0) = (.pointer (some ⟨p, 0, none⟩))) _ (fun ρ hρ => by go_simp) (by repeat (first | with_reducible exact hA0 | (with_reducible refine ev_same ?_; (repeat rw [sz_put]); rw [hA]; decide) | with_reducible refine (ev_ne (by decide)).trans ?_))) ?_
    refine take_at 3 302 (v := (.pointer (some ⟨p, 0, none⟩))) rfl rfl (by kernel_rfl) (by kernel_rfl) (by kernel_rfl) (fun _ _ _ h => h) rfl (fun w => run_gen (fun ρ => ρ (.tmp 301) = (.pointer (some ⟨p, 0, none⟩))) _ (fun ρ hρ => by go_simp) (by repeat (first | with_reducible exact hA0 | (with_reducible refine ev_same ?_; (repeat rw [sz_put]); rw [hA]; decide) | with_reducible refine (ev_ne (by decide)).trans ?_))) ?_
    refine take_at 4 303 (v := (.pointer (some ⟨p, 9, none⟩))) rfl rfl (by kernel_rfl) (by kernel_rfl) (by kernel_rfl) (fun _ _ _ h => h) rfl (fun w => run_gen (fun ρ => ρ (.tmp 302) = (.pointer (some ⟨p, 0, none⟩))) _ (fun ρ hρ => by go_simp) (by repeat (first | with_reducible exact hA0 | (with_reducible refine ev_same ?_; (repeat rw [sz_put]); rw [hA]; decide) | with_reducible refine (ev_ne (by decide)).trans ?_))) ?_
    refine take_at 7 306 (v := (.pointer (some ⟨p, 0, none⟩))) rfl rfl (by kernel_rfl) (by kernel_rfl) (by kernel_rfl) (fun _ _ _ h => h) rfl (fun w => run_gen (fun ρ => ρ (.tmp 0) = (.pointer (some ⟨p, 0, none⟩))) _ (fun ρ hρ => by go_simp) (by repeat (first | with_reducible exact hA0 | (with_reducible refine ev_same ?_; (repeat rw [sz_put]); rw [hA]; decide) | with_reducible refine (ev_ne (by decide)).trans ?_))) ?_
    refine take_at 8 307 (v := (.pointer (some ⟨p, 0, none⟩))) rfl rfl (by kernel_rfl) (by kernel_rfl) (by kernel_rfl) (fun _ _ _ h => h) rfl (fun w => run_gen (fun ρ => ρ (.tmp 306) = (.pointer (some ⟨p, 0, none⟩))) _ (fun ρ hρ => by go_simp) (by repeat (first | with_reducible exact hA0 | (with_reducible refine ev_same ?_; (repeat rw [sz_put]); rw [hA]; decide) | with_reducible refine (ev_ne (by decide)).trans ?_))) ?_
    refine take_at 9 308 (v := (.pointer (some ⟨p, 9, none⟩))) rfl rfl (by kernel_rfl) (by kernel_rfl) (by kernel_rfl) (fun _ _ _ h => h) rfl (fun w => run_gen (fun ρ => ρ (.tmp 307) = (.pointer (some ⟨p, 0, none⟩))) _ (fun ρ hρ => by go_simp) (by repeat (first | with_reducible exact hA0 | (with_reducible refine ev_same ?_; (repeat rw [sz_put]); rw [hA]; decide) | with_reducible refine (ev_ne (by decide)).trans ?_))) ?_
    refine wpAny_ready (rs := [5, 10]) (by kernel_rfl) (by simp) ?_
    refine allReady_value 5 (d := some 304) (op := .load 119 (.tmp 303)) (ty := 119) (w' := w2.drew) (n := .value (.slice (some ⟨g, 0, none⟩) vals'.length Lc)) (by unfold looksAs; kernel_rfl) (.inl ⟨_, rfl, rfl⟩) (fun o h1 _ => run_load9 c9d o h1 _ (by repeat (first | with_reducible exact hA0 | (with_reducible refine ev_same ?_; (repeat rw [sz_put]); rw [hA]; decide) | with_reducible refine (ev_ne (by decide)).trans ?_))) ?_ ?_
    rotate_left
    refine allReady_value 10 (d := some 309) (op := .load 119 (.tmp 308)) (ty := 119) (w' := w2.drew) (n := .value (.slice (some ⟨g, 0, none⟩) vals'.length Lc)) (by unfold looksAs; kernel_rfl) (.inl ⟨_, rfl, rfl⟩) (fun o h1 _ => run_load9 c9d o h1 _ (by repeat (first | with_reducible exact hA0 | (with_reducible refine ev_same ?_; (repeat rw [sz_put]); rw [hA]; decide) | with_reducible refine (ev_ne (by decide)).trans ?_))) ?_ AllReady.nil
    rotate_left
    · skip
      refine take_at 6 305 (v := (.slice (some ⟨g, 0, none⟩) 0 Lc)) rfl rfl (by kernel_rfl) (by kernel_rfl) (by kernel_rfl) (fun _ _ _ h => h) rfl (fun w => run_slice0 (k := 304) (n := vals'.length) _ rfl _ (by repeat (first | with_reducible exact hA0 | (with_reducible refine ev_same ?_; (repeat rw [sz_put]); rw [hA]; decide) | with_reducible refine (ev_ne (by decide)).trans ?_)) rfl) ?_
      refine wpAny_ready (rs := [10]) (by kernel_rfl) (by simp) ?_
      refine allReady_value 10 (d := some 309) (op := .load 119 (.tmp 308)) (ty := 119) (w' := w2.drew) (n := .value (.slice (some ⟨g, 0, none⟩) vals'.length Lc)) (by unfold looksAs; kernel_rfl) (.inl ⟨_, rfl, rfl⟩) (fun o h1 _ => run_load9 c9d o h1 _ (by repeat (first | with_reducible exact hA0 | (with_reducible refine ev_same ?_; (repeat rw [sz_put]); rw [hA]; decide) | with_reducible refine (ev_ne (by decide)).trans ?_))) ?_ AllReady.nil
      refine wpAny_ready (rs := [11]) (by kernel_rfl) (by simp) ?_
      refine allReady_enter 11 310 (op := .call { callee := .value (.func 125), args := #[.tmp 300, .tmp 305, .tmp 309], argTypes := #[193, 119, 119] }) (ty := 119) (f := 125) (args := #[.pointer (some ⟨p, 0, none⟩), (.slice (some ⟨g, 0, none⟩) 0 Lc), (.slice (some ⟨g, 0, none⟩) vals'.length Lc)]) (w' := w2.drew) (by unfold looksAs; kernel_rfl) (fun o h1 _ => run_emph o h1 _ (by repeat (first | with_reducible exact hA0 | (with_reducible refine ev_same ?_; (repeat rw [sz_put]); rw [hA]; decide) | with_reducible refine (ev_ne (by decide)).trans ?_)) (by repeat (first | with_reducible exact hA0 | (with_reducible refine ev_same ?_; (repeat rw [sz_put]); rw [hA]; decide) | with_reducible refine (ev_ne (by decide)).trans ?_)) (by repeat (first | with_reducible exact hA0 | (with_reducible refine ev_same ?_; (repeat rw [sz_put]); rw [hA]; decide) | with_reducible refine (ev_ne (by decide)).trans ?_)) rfl) ?_ AllReady.nil
      refine (HE.out w2.drew S4.out.drew).mono ?_
      rintro e3 w3 ⟨rfl, s5⟩
      refine ⟨_, rfl, ?_⟩
      have k9 : w3.cell? ⟨p, 9, none⟩ = some (.slice (some ⟨g, 0, none⟩) vals'.length Lc) := s5.third.cell 9 rfl
      have kf := fun i => s5.third.frozen i
      refine take_at 12 311 (v := (.pointer (some ⟨p, 0, none⟩))) rfl rfl (by kernel_rfl) (by kernel_rfl) (by kernel_rfl) (fun _ _ _ h => h) rfl (fun w => run_gen (fun ρ => ρ (.tmp 299) = (.pointer (some ⟨p, 0, none⟩))) _ (fun ρ hρ => by go_simp) (by repeat (first | with_reducible exact hA0 | (with_reducible refine ev_same ?_; (repeat rw [sz_put]); rw [hA]; decide) | with_reducible refine (ev_ne (by decide)).trans ?_))) ?_
      refine take_at 13 312 (v := (.pointer (some ⟨p, 9, none⟩))) rfl rfl (by kernel_rfl) (by kernel_rfl) (by kernel_rfl) (fun _ _ _ h => h) rfl (fun w => run_gen (fun ρ => ρ (.tmp 311) = (.pointer (some ⟨p, 0, none⟩))) _ (fun ρ hρ => by go_simp) (by repeat (first | with_reducible exact hA0 | (with_reducible refine ev_same ?_; (repeat rw [sz_put]); rw [hA]; decide) | with_reducible refine (ev_ne (by decide)).trans ?_))) ?_
      refine wpAny_ready (rs := [14]) (by kernel_rfl) (by simp) ?_
      refine allReady_value 14 (d := none) (op := .store 119 (.tmp 312) (.tmp 310)) (ty := 0) (w' := w3.setCell ⟨p, 9, none⟩ (.slice (some ⟨g, 0, none⟩) vals'.length Lc)) (n := .skip) (by unfold looksAs; kernel_rfl) (.inr ⟨rfl, rfl, rfl⟩) (fun o h1 _ => run_store9 k9 (kf 9) o h1 _ (by repeat (first | with_reducible exact hA0 | (with_reducible refine ev_same ?_; (repeat rw [sz_put]); rw [hA]; decide) | with_reducible refine (ev_ne (by decide)).trans ?_)) (by repeat (first | with_reducible exact hA0 | (with_reducible refine ev_same ?_; (repeat rw [sz_put]); rw [hA]; decide) | with_reducible refine (ev_ne (by decide)).trans ?_))) ?_ AllReady.nil
      refine wpAny_done (by kernel_rfl) ?_ _
      refine REST _ _ ?_ ?_ ?_ s5
      · (repeat rw [df_put]); exact hAd
      · (repeat rw [sz_put]); exact hA
      · exact (by repeat (first | with_reducible exact hA0 | (with_reducible refine ev_same ?_; (repeat rw [sz_put]); rw [hA]; decide) | with_reducible refine (ev_ne (by decide)).trans ?_))
    · skip
      refine wpAny_ready (rs := [5]) (by kernel_rfl) (by simp) ?_
      refine allReady_value 5 (d := some 304) (op := .load 119 (.tmp 303)) (ty := 119) (w' := w2.drew) (n := .value (.slice (some ⟨g, 0, none⟩) vals'.length Lc)) (by unfold looksAs; kernel_rfl) (.inl ⟨_, rfl, rfl⟩) (fun o h1 _ => run_load9 c9d o h1 _ (by repeat (first | with_reducible exact hA0 | (with_reducible refine ev_same ?_; (repeat rw [sz_put]); rw [hA]; decide) | with_reducible refine (ev_ne (by decide)).trans ?_))) ?_ AllReady.nil
      refine take_at 6 305 (v := (.slice (some ⟨g, 0, none⟩) 0 Lc)) rfl rfl (by kernel_rfl) (by kernel_rfl) (by kernel_rfl) (fun _ _ _ h => h) rfl (fun w => run_slice0 (k := 304) (n := vals'.length) _ rfl _ (by repeat (first | with_reducible exact hA0 | (with_reducible refine ev_same ?_; (repeat rw [sz_put]); rw [hA]; decide) | with_reducible refine (ev_ne (by decide)).trans ?_)) rfl) ?_
      refine wpAny_ready (rs := [11]) (by kernel_rfl) (by simp) ?_
      refine allReady_enter 11 310 (op := .call { callee := .value (.func 125), args := #[.tmp 300, .tmp 305, .tmp 309], argTypes := #[193, 119, 119] }) (ty := 119) (f := 125) (args := #[.pointer (some ⟨p, 0, none⟩), (.slice (some ⟨g, 0, none⟩) 0 Lc), (.slice (some ⟨g, 0, none⟩) vals'.length Lc)]) (w' := w2.drew) (by unfold looksAs; kernel_rfl) (fun o h1 _ => run_emph o h1 _ (by repeat (first | with_reducible exact hA0 | (with_reducible refine ev_same ?_; (repeat rw [sz_put]); rw [hA]; decide) | with_reducible refine (ev_ne (by decide)).trans ?_)) (by repeat (first | with_reducible exact hA0 | (with_reducible refine ev_same ?_; (repeat rw [sz_put]); rw [hA]; decide) | with_reducible refine (ev_ne (by decide)).trans ?_)) (by repeat (first | with_reducible exact hA0 | (with_reducible refine ev_same ?_; (repeat rw [sz_put]); rw [hA]; decide) | with_reducible refine (ev_ne (by decide)).trans ?_)) rfl) ?_ AllReady.nil
      refine (HE.out w2.drew S4.out.drew).mono ?_
      rintro e3 w3 ⟨rfl, s5⟩
      refine ⟨_, rfl, ?_⟩
      have k9 : w3.cell? ⟨p, 9, none⟩ = some (.slice (some ⟨g, 0, none⟩) vals'.length Lc) := s5.third.cell 9 rfl
      have kf := fun i => s5.third.frozen i
      refine take_at 12 311 (v := (.pointer (some ⟨p, 0, none⟩))) rfl rfl (by kernel_rfl) (by kernel_rfl) (by kernel_rfl) (fun _ _ _ h => h) rfl (fun w => run_gen (fun ρ => ρ (.tmp 299) = (.pointer (some ⟨p, 0, none⟩))) _ (fun ρ hρ => by go_simp) (by repeat (first | with_reducible exact hA0 | (with_reducible refine ev_same ?_; (repeat rw [sz_put]); rw [hA]; decide) | with_reducible refine (ev_ne (by decide)).trans ?_))) ?_
      refine take_at 13 312 (v := (.pointer (some ⟨p, 9, none⟩))) rfl rfl (by kernel_rfl) (by kernel_rfl) (by kernel_rfl) (fun _ _ _ h => h) rfl (fun w => run_gen (fun ρ => ρ (.tmp 311) = (.pointer (some ⟨p, 0, none⟩))) _ (fun ρ hρ => by go_simp) (by repeat (first | with_reducible exact hA0 | (with_reducible refine ev_same ?_; (repeat rw [sz_put]); rw [hA]; decide) | with_reducible refine (ev_ne (by decide)).trans ?_))) ?_
      refine wpAny_ready (rs := [14]) (by kernel_rfl) (by simp) ?_
      refine allReady_value 14 (d := none) (op := .store 119 (.tmp 312) (.tmp 310)) (ty := 0) (w' := w3.setCell ⟨p, 9, none⟩ (.slice (some ⟨g, 0, none⟩) vals'.length Lc)) (n := .skip) (by unfold looksAs; kernel_rfl) (.inr ⟨rfl, rfl, rfl⟩) (fun o h1 _ => run_store9 k9 (kf 9) o h1 _ (by repeat (first | with_reducible exact hA0 | (with_reducible refine ev_same ?_; (repeat rw [sz_put]); rw [hA]; decide) | with_reducible refine (ev_ne (by decide)).trans ?_)) (by repeat (first | with_reducible exact hA0 | (with_reducible refine ev_same ?_; (repeat rw [sz_put]); rw [hA]; decide) | with_reducible refine (ev_ne (by decide)).trans ?_))) ?_ AllReady.nil
      refine wpAny_done (by kernel_rfl) ?_ _
      refine REST _ _ ?_ ?_ ?_ s5
      · (repeat rw [df_put]); exact hAd
      · (repeat rw [sz_put]); exact hA
      · exact (by repeat (first | with_reducible exact hA0 | (with_reducible refine ev_same ?_; (repeat rw [sz_put]); rw [hA]; decide) | with_reducible refine (ev_ne (by decide)).trans ?_))
  | quiet hi he hq hsc =>
    cases hq with
    | dash hd h0 h1 =>
      obtain ⟨hi', hc⟩ := List.getElem?_eq_some_iff.1 h0
      have hix : ∀ h, (B.bs s)[k]'h = 45 := fun _ => hc
      have HSC := Lib.hid hsc
      have HPE := Lib.hid (fun w => parseDash_no (some ⟨p, 0, none⟩) s k (by omega) hi' h1 w)
      rw [hd] at p8
      clear hsc h0 h1 hc hd nn
      go_wp2_with fail
      refine (HPE.out wr).mono ?_
      rintro e1 w1 ⟨rfl, rfl⟩
      go_wp2
      refine ⟨⟨k + 1, e, b, ts1, ts2, vals, x, ⟨rfl, rfl, rfl, rfl, rfl, rfl, rfl⟩, HSC.out, HTS.out, hvl, HXL.out, HXS.out, HXE.out, HK.out, HBT.out, H.out⟩, ?_⟩
      show s.length - ((k : Int) + 1).toNat < s.length - (k : Int).toNat
      omega
    | still c h0 hld =>
      obtain ⟨hi', hc⟩ := List.getElem?_eq_some_iff.1 h0
      have hix : ∀ h, (B.bs s)[k]'h = c := fun _ => hc
      obtain ⟨⟨n1, n2, n3, n4, n5, n6, n7, n8, n9⟩, hopt⟩ := loud_false hld
      have HSC := Lib.hid hsc
      clear hsc hld h0 hc
      rcases hopt with ⟨rfl, q⟩ | ⟨rfl, q⟩ | ⟨rfl, q⟩ | ⟨rfl, q⟩ | ⟨rfl, q⟩ | ⟨rfl, q⟩ | ⟨m1, m2, m3, m4, m5, m6⟩
      · rw [q] at p7
        clear q n1 n2 n3 n4 n5 n6 n7 n8 n9
        go_wp2
        refine ⟨⟨k + 1, e, b, ts1, ts2, vals, x, ⟨rfl, rfl, rfl, rfl, rfl, rfl, rfl⟩, HSC.out, HTS.out, hvl, HXL.out, HXS.out, HXE.out, HK.out, HBT.out, H.out⟩, ?_⟩
        show s.length - ((k : Int) + 1).toNat < s.length - (k : Int).toNat
        omega
      · rw [q] at p8
        clear q n1 n2 n3 n4 n5 n6 n7 n8 n9
        go_wp2
        refine ⟨⟨k + 1, e, b, ts1, ts2, vals, x, ⟨rfl, rfl, rfl, rfl, rfl, rfl, rfl⟩, HSC.out, HTS.out, hvl, HXL.out, HXS.out, HXE.out, HK.out, HBT.out, H.out⟩, ?_⟩
        show s.length - ((k : Int) + 1).toNat < s.length - (k : Int).toNat
        omega
      · rw [q] at p9
        clear q n1 n2 n3 n4 n5 n6 n7 n8 n9
        go_wp2
        refine ⟨⟨k + 1, e, b, ts1, ts2, vals, x, ⟨rfl, rfl, rfl, rfl, rfl, rfl, rfl⟩, HSC.out, HTS.out, hvl, HXL.out, HXS.out, HXE.out, HK.out, HBT.out, H.out⟩, ?_⟩
        show s.length - ((k : Int) + 1).toNat < s.length - (k : Int).toNat
        omega
      · rw [q] at p9
        clear q n1 n2 n3 n4 n5 n6 n7 n8 n9
        go_wp2
        refine ⟨⟨k + 1, e, b, ts1, ts2, vals, x, ⟨rfl, rfl, rfl, rfl, rfl, rfl, rfl⟩, HSC.out, HTS.out, hvl, HXL.out, HXS.out, HXE.out, HK.out, HBT.out, H.out⟩, ?_⟩
        show s.length - ((k : Int) + 1).toNat < s.length - (k : Int).toNat
        omega
      · rw [q] at p1
        clear q n1 n2 n3 n4 n5 n6 n7 n8 n9
        go_wp2
        refine ⟨⟨k + 1, e, b, ts1, ts2, vals, x, ⟨rfl, rfl, rfl, rfl, rfl, rfl, rfl⟩, HSC.out, HTS.out, hvl, HXL.out, HXS.out, HXE.out, HK.out, HBT.out, H.out⟩, ?_⟩
        show s.length - ((k : Int) + 1).toNat < s.length - (k : Int).toNat
        omega
      · rw [q] at p6
        clear q n1 n2 n3 n4 n5 n6 n7 n8 n9
        go_wp2
        refine ⟨⟨k + 1, e, b, ts1, ts2, vals, x, ⟨rfl, rfl, rfl, rfl, rfl, rfl, rfl⟩, HSC.out, HTS.out, hvl, HXL.out, HXS.out, HXE.out, HK.out, HBT.out, H.out⟩, ?_⟩
        show s.length - ((k : Int) + 1).toNat < s.length - (k : Int).toNat
        omega
      · have e1 : ((c.toNat : Int) == 92) = false := u8_ne (b := 92) n1
        have e2 : ((c.toNat : Int) == 96) = false := u8_ne (b := 96) n2
        have e3 : ((c.toNat : Int) == 60) = false := u8_ne (b := 60) n3
        have e4 : ((c.toNat : Int) == 91) = false := u8_ne (b := 91) n4
        have e5 : ((c.toNat : Int) == 33) = false := u8_ne (b := 33) n5
        have e6 : ((c.toNat : Int) == 95) = false := u8_ne (b := 95) n6
        have e7 : ((c.toNat : Int) == 42) = false := u8_ne (b := 42) n7
        have e8 : ((c.toNat : Int) == 10) = false := u8_ne (b := 10) n8
        have e9 : ((c.toNat : Int) == 38) = false := u8_ne (b := 38) n9
        have g1 : ((c.toNat : Int) == 46) = false := u8_ne (b := 46) m1
        have g2 : ((c.toNat : Int) == 45) = false := u8_ne (b := 45) m2
        have g3 : ((c.toNat : Int) == 34) = false := u8_ne (b := 34) m3
        have g4 : ((c.toNat : Int) == 39) = false := u8_ne (b := 39) m4
        have g5 : ((c.toNat : Int) == 126) = false := u8_ne (b := 126) m5
        have g6 : ((c.toNat : Int) == 58) = false := u8_ne (b := 58) m6
        clear n1 n2 n3 n4 n5 n6 n7 n8 n9 m1 m2 m3 m4 m5 m6
        by_cases h93 : c = 93
        · subst h93
          go_wp2
          refine ⟨⟨k + 1, e, b, ts1, ts2, vals, x, ⟨rfl, rfl, rfl, rfl, rfl, rfl, rfl⟩, HSC.out, HTS.out, hvl, HXL.out, HXS.out, HXE.out, HK.out, HBT.out, H.out⟩, ?_⟩
          show s.length - ((k : Int) + 1).toNat < s.length - (k : Int).toNat
          omega
        · have g93 : ((c.toNat : Int) == 93) = false := u8_ne (b := 93) h93
          go_wp2
          refine ⟨⟨k + 1, e, b, ts1, ts2, vals, x, ⟨rfl, rfl, rfl, rfl, rfl, rfl, rfl⟩, HSC.out, HTS.out, hvl, HXL.out, HXS.out, HXE.out, HK.out, HBT.out, H.out⟩, ?_⟩
          show s.length - ((k : Int) + 1).toNat < s.length - (k : Int).toNat
          omega
  | tok hi he hj hjl ht hsc =>
    cases ht with
    | esc c h0 h1 hp =>
      obtain ⟨hi', hc⟩ := List.getElem?_eq_some_iff.1 h0
      have hix : ∀ h, (B.bs s)[k]'h = 92 := fun _ => hc
      have HSC := Lib.hid hsc
      have hpe := fun w G hs => parseEscape_w (some ⟨p, 0, none⟩) s k c (by omega) h1 hp w G hs
      have HPE := Lib.hid hpe
      clear hsc h0 h1 hc hp hpe nn
      go_wp2_with fail
      refine (HPE.out wr _ H.out).mono ?_
      rintro e1 w1 ⟨v, rfl, s1⟩
      have hv := tokAt_is s1
      obtain ⟨T, d, hT, rfl⟩ := id hv
      have no := hv.noOpen
      have hem := emit_w p k e s x vals ts1 (TokAt (.iface T (.pointer (some ⟨d, 0, none⟩))) (.esc [c]) * (row pb 105 o.pcells * F)) w1 HXS.out HXE.out he (by omega) (by omega) (by omega) HXL.out (s1.cast (by
        generalize TokAt (.iface T (.pointer (some ⟨d, 0, none⟩))) (.esc [c]) = Y
        ac_rfl))
      have HEM := Lib.hid hem
      clear hem s1 hv hT f0' p7 p8 p9 p1 p6
      go_wp2_with fail
      refine HEM.out.mono ?_
      rintro e2 w2 ⟨rfl, L, vals', q1, q2, s2⟩
      obtain ⟨i0, hi0, hz0, hz1, hz2⟩ := info_parts info_Inline
      have c9 : w2.cell? ⟨p, 9, none⟩ = some (.slice L.a L.len L.cap) := s2.cell 9 rfl
      have hlen := toksAt_len (s2.cast (show _ = ToksAt vals' (ts1 ++ flush ((s.take k).drop e)) * (row p 173 { x with emitted := (k : Int), list := L }.cells * (arr 188 1 L.v L.len vals' * (TokAt (.iface T (.pointer (some ⟨d, 0, none⟩))) (.esc [c]) * (row pb 105 o.pcells * F)))) from by
        generalize TokAt (.iface T (.pointer (some ⟨d, 0, none⟩))) (.esc [c]) = Y
        ac_rfl))
      have hB := (s2.new (d := w2.heap.size) [.iface T (.pointer (some ⟨d, 0, none⟩))] 188 rfl).cast (show _ = arr 188 1 L.v L.len vals' * (row w2.heap.size 188 [.iface T (.pointer (some ⟨d, 0, none⟩))] * (row p 173 { x with emitted := (k : Int), list := L }.cells * (ToksAt vals' (ts1 ++ flush ((s.take k).drop e)) * (TokAt (.iface T (.pointer (some ⟨d, 0, none⟩))) (.esc [c]) * (row pb 105 o.pcells * F))))) from by
        generalize TokAt (.iface T (.pointer (some ⟨d, 0, none⟩))) (.esc [c]) = Y
        ac_rfl)
      have HB := Lib.hid hB
      have HQ := Lib.hid q1
      have HLEN := Lib.hid hlen
      have hL2 : L.len ≤ 1000000000 := by omega
      clear hB s2 q1 hlen HEM
      go_wp2_with (at_builtin; refine wpList_append_sl rfl (.tmp 147) (.tmp 149) 119 rfl 188 i0 .nilIface 1 16 Tryz.underlying119 hi0 hz0 hz1 hz2 rfl L.v L.len vals' rfl HB.out ⟨w2.heap.size, 0, none⟩ 1 1 [.iface T (.pointer (some ⟨d, 0, none⟩))] rfl rfl (news_one (HB.out.swap.cell 0 rfl)) (by intro u hu; simp at hu; rcases hu with rfl; rfl) (by unfold maxLen; omega) (by omega) (by decide) ?_)
      intro g3 c3 w3 s3 z3
      clear z3
      have c9' : w3.cell? ⟨p, 9, none⟩ = some (.slice L.a L.len L.cap) := s3.third.cell 9 rfl
      have cf' := fun i => s3.third.frozen i
      have s4 : Sat (w3.setCell ⟨p, 9, none⟩ (.slice (some ⟨g3, 0, none⟩) (L.len + 1) c3)) (row p 173 { x with emitted := (k : Int), list := ⟨some ⟨g3, 0, none⟩, L.len + 1, c3⟩ }.cells * _) := s3.third.set 9 (.slice (some ⟨g3, 0, none⟩) (L.len + 1) c3)
      have HSK := Lib.hid (skip_w p (k + 2 : Nat) _ _ _ s4)
      have S4 := Lib.hid s4
      clear s4 s3
      go_wp2_with fail
      refine HSK.out.mono ?_
      rintro e5 w5 ⟨rfl, s5⟩
      go_wp2
      refine ⟨⟨k + 2, k + 2, b, ts1 ++ flush ((s.take k).drop e) ++ [.esc [c]], _, vals' ++ [.iface T (.pointer (some ⟨d, 0, none⟩))], { x with emitted := ((k + 2 : Nat) : Int), list := ⟨some ⟨g3, 0, none⟩, L.len + 1, c3⟩ }, ⟨rfl, rfl, rfl, rfl, rfl, rfl, rfl⟩, HSC.out, ?_, ?_, ?_, HXS.out, rfl, HK.out, HBT.out, ?_⟩, ?_⟩
      · rw [← HTS.out]; simp
      · simp; omega
      · simp [HQ.out]
      · rw [toksAt_append _ _ _ _ HLEN.out, toksAt_single]
        have s6 := (s5.cast (show _ = row w2.heap.size 188 [.iface T (.pointer (some ⟨d, 0, none⟩))] * (row p 173 { x with emitted := ((k + 2 : Nat) : Int), list := ⟨some ⟨g3, 0, none⟩, L.len + 1, c3⟩ }.cells * (arr 188 1 (.slice (some ⟨g3, 0, none⟩) (L.len + 1) c3) (L.len + 1) (vals' ++ [.iface T (.pointer (some ⟨d, 0, none⟩))]) * (ToksAt vals' (ts1 ++ flush ((s.take k).drop e)) * (TokAt (.iface T (.pointer (some ⟨d, 0, none⟩))) (.esc [c]) * (row pb 105 o.pcells * F))))) from by
          generalize TokAt (.iface T (.pointer (some ⟨d, 0, none⟩))) (.esc [c]) = Y
          ac_rfl)).drop1
        exact s6.cast (by
          generalize TokAt (.iface T (.pointer (some ⟨d, 0, none⟩))) (.esc [c]) = Y
          show _ = row p 173 { x with emitted := ((k + 2 : Nat) : Int), list := ⟨some ⟨g3, 0, none⟩, L.len + 1, c3⟩ }.cells * (arr 188 1 (.slice (some ⟨g3, 0, none⟩) (L.len + 1) c3) (L.len + 1) (vals' ++ [.iface T (.pointer (some ⟨d, 0, none⟩))]) * (ToksAt vals' (ts1 ++ flush ((s.take k).drop e)) * Y * (row pb 105 o.pcells * F)))
          ac_rfl)
      · show s.length - ((k + 2 : Nat) : Int).toNat < s.length - (k : Int).toNat
        omega

    | code n e' u h0 h1 h2 hc hu hnl hb =>
      have hi' : s[k]? = some 96 := tickRun_at (s := s) (i := k) (j := 0) (by omega)
      obtain ⟨hil, hcq⟩ := List.getElem?_eq_some_iff.1 hi'
      have hix : ∀ h, (B.bs s)[k]'h = 96 := fun _ => hcq
      have HSC := Lib.hid hsc
      have hpe := fun w G x2 hb2 hs => parseCode_w p s k n e' u x2 G w (by omega) h0 h1 h2 hc hu hnl hb hb2 hs
      have HPE := Lib.hid hpe
      have hlen81 : x.bt.length = 81 := HK.out.2.2.2.2.2.2.2.2.trans hb0
      clear hsc h0 h1 h2 hc hu hnl hb hcq hi' hpe nn p7 p8 p9 p1 p6 f0'
      cases b with
      | false =>
        have HRS := Lib.hid (reset_w p x _ wr hlen81 H.out)
        clear hlen81
        go_wp2_with fail
        refine HRS.out.mono ?_
        rintro e0 w0 ⟨rfl, s0⟩
        clear HRS
        go_wp2_with fail
        refine (HPE.out w0 _ { x with bt := btZero } btZero_ok s0).mono ?_
        clear s0
        rintro e1 w1 ⟨v, bt, hbt2, rfl, s1⟩
        obtain ⟨x2, hx2⟩ : ∃ x2 : PSt, x2 = { x with bt := bt } := ⟨_, rfl⟩
        have HX2S := Lib.hid (show x2.s = B.bs s by rw [hx2]; exact HXS.out)
        have HX2E := Lib.hid (show x2.emitted = (e : Int) by rw [hx2]; exact HXE.out)
        have HX2L := Lib.hid (show x2.list.len = vals.length by rw [hx2]; exact HXL.out)
        have HBT2 := Lib.hid (show BtOk x2.bt by rw [hx2]; exact hbt2)
        have HK2 := Lib.hid (show Keeps x2 x0 by
          obtain ⟨k1, k2, k3, k4, k5, k6, k7, k8, k9⟩ := HK.out
          rw [hx2]
          exact ⟨k1, k2, k3, k4, k5, k6, k7, k8, by show bt.length = _; rw [hbt2.1, hb0]⟩)
        replace s1 : Sat w1 (TokAt v (.code u) * (row p 173 x2.cells * (arr 188 1 x2.list.v x2.list.len vals * (ToksAt vals ts1 * (row pb 105 o.pcells * F))))) := by rw [hx2]; exact s1
        clear hx2 hbt2 HPE
        have hv := tokAt_is s1
        obtain ⟨T, d, hT, rfl⟩ := id hv
        have no := hv.noOpen
        have hem := emit_w p k e s x2 vals ts1 (TokAt (.iface T (.pointer (some ⟨d, 0, none⟩))) (.code u) * (row pb 105 o.pcells * F)) w1 HX2S.out HX2E.out he (by omega) (by omega) (by omega) HX2L.out (s1.cast (by
          generalize TokAt (.iface T (.pointer (some ⟨d, 0, none⟩))) (.code u) = Y
          ac_rfl))
        have HEM := Lib.hid hem
        clear hem s1 hv hT
        go_wp2_with fail
        refine HEM.out.mono ?_
        rintro e2 w2 ⟨rfl, L, vals', q1, q2, s2⟩
        obtain ⟨i0, hi0, hz0, hz1, hz2⟩ := info_parts info_Inline
        have c9 : w2.cell? ⟨p, 9, none⟩ = some (.slice L.a L.len L.cap) := s2.cell 9 rfl
        have hlen := toksAt_len (s2.cast (show _ = ToksAt vals' (ts1 ++ flush ((s.take k).drop e)) * (row p 173 { x2 with emitted := (k : Int), list := L }.cells * (arr 188 1 L.v L.len vals' * (TokAt (.iface T (.pointer (some ⟨d, 0, none⟩))) (.code u) * (row pb 105 o.pcells * F)))) from by
          generalize TokAt (.iface T (.pointer (some ⟨d, 0, none⟩))) (.code u) = Y
          ac_rfl))
        have hB := (s2.new (d := w2.heap.size) [.iface T (.pointer (some ⟨d, 0, none⟩))] 188 rfl).cast (show _ = arr 188 1 L.v L.len vals' * (row w2.heap.size 188 [.iface T (.pointer (some ⟨d, 0, none⟩))] * (row p 173 { x2 with emitted := (k : Int), list := L }.cells * (ToksAt vals' (ts1 ++ flush ((s.take k).drop e)) * (TokAt (.iface T (.pointer (some ⟨d, 0, none⟩))) (.code u) * (row pb 105 o.pcells * F))))) from by
          generalize TokAt (.iface T (.pointer (some ⟨d, 0, none⟩))) (.code u) = Y
          ac_rfl)
        have HB := Lib.hid hB
        have HQ := Lib.hid q1
        have HLEN := Lib.hid hlen
        have hL2 : L.len ≤ 1000000000 := by omega
        clear hB s2 q1 hlen HEM
        go_wp2_with (at_builtin; refine wpList_append_sl rfl (.tmp 147) (.tmp 149) 119 rfl 188 i0 .nilIface 1 16 Tryz.underlying119 hi0 hz0 hz1 hz2 rfl L.v L.len vals' rfl HB.out ⟨w2.heap.size, 0, none⟩ 1 1 [.iface T (.pointer (some ⟨d, 0, none⟩))] rfl rfl (news_one (HB.out.swap.cell 0 rfl)) (by intro u hu; simp at hu; rcases hu with rfl; rfl) (by unfold maxLen; omega) (by omega) (by decide) ?_)
        intro g3 c3 w3 s3 z3
        clear z3
        have c9' : w3.cell? ⟨p, 9, none⟩ = some (.slice L.a L.len L.cap) := s3.third.cell 9 rfl
        have cf' := fun i => s3.third.frozen i
        have s4 : Sat (w3.setCell ⟨p, 9, none⟩ (.slice (some ⟨g3, 0, none⟩) (L.len + 1) c3)) (row p 173 { x2 with emitted := (k : Int), list := ⟨some ⟨g3, 0, none⟩, L.len + 1, c3⟩ }.cells * _) := s3.third.set 9 (.slice (some ⟨g3, 0, none⟩) (L.len + 1) c3)
        have HSK := Lib.hid (skip_w p (e' + n : Nat) _ _ _ s4)
        have S4 := Lib.hid s4
        clear s4 s3
        go_wp2_with fail
        refine HSK.out.mono ?_
        rintro e5 w5 ⟨rfl, s5⟩
        go_wp2
        refine ⟨⟨e' + n, e' + n, true, ts1 ++ flush ((s.take k).drop e) ++ [.code u], _, vals' ++ [.iface T (.pointer (some ⟨d, 0, none⟩))], { x2 with emitted := ((e' + n : Nat) : Int), list := ⟨some ⟨g3, 0, none⟩, L.len + 1, c3⟩ }, ⟨rfl, rfl, rfl, rfl, rfl, rfl, rfl⟩, HSC.out, ?_, ?_, ?_, HX2S.out, rfl, HK2.out, (fun _ => HBT2.out), ?_⟩, ?_⟩
        · rw [← HTS.out]; simp
        · simp; omega
        · simp [HQ.out]
        · rw [toksAt_append _ _ _ _ HLEN.out, toksAt_single]
          have s6 := (s5.cast (show _ = row w2.heap.size 188 [.iface T (.pointer (some ⟨d, 0, none⟩))] * (row p 173 { x2 with emitted := ((e' + n : Nat) : Int), list := ⟨some ⟨g3, 0, none⟩, L.len + 1, c3⟩ }.cells * (arr 188 1 (.slice (some ⟨g3, 0, none⟩) (L.len + 1) c3) (L.len + 1) (vals' ++ [.iface T (.pointer (some ⟨d, 0, none⟩))]) * (ToksAt vals' (ts1 ++ flush ((s.take k).drop e)) * (TokAt (.iface T (.pointer (some ⟨d, 0, none⟩))) (.code u) * (row pb 105 o.pcells * F))))) from by
            generalize TokAt (.iface T (.pointer (some ⟨d, 0, none⟩))) (.code u) = Y
            ac_rfl)).drop1
          exact s6.cast (by
            generalize TokAt (.iface T (.pointer (some ⟨d, 0, none⟩))) (.code u) = Y
            show _ = row p 173 { x2 with emitted := ((e' + n : Nat) : Int), list := ⟨some ⟨g3, 0, none⟩, L.len + 1, c3⟩ }.cells * (arr 188 1 (.slice (some ⟨g3, 0, none⟩) (L.len + 1) c3) (L.len + 1) (vals' ++ [.iface T (.pointer (some ⟨d, 0, none⟩))]) * (ToksAt vals' (ts1 ++ flush ((s.take k).drop e)) * Y * (row pb 105 o.pcells * F)))
            ac_rfl)
        · show s.length - ((e' + n : Nat) : Int).toNat < s.length - (k : Int).toNat
          omega
      | true =>
        clear hlen81
        go_wp2_with fail
        refine (HPE.out wr _ x (HBT.out (by first | rfl | trivial)) H.out).mono ?_
        rintro e1 w1 ⟨v, bt, hbt2, rfl, s1⟩
        obtain ⟨x2, hx2⟩ : ∃ x2 : PSt, x2 = { x with bt := bt } := ⟨_, rfl⟩
        have HX2S := Lib.hid (show x2.s = B.bs s by rw [hx2]; exact HXS.out)
        have HX2E := Lib.hid (show x2.emitted = (e : Int) by rw [hx2]; exact HXE.out)
        have HX2L := Lib.hid (show x2.list.len = vals.length by rw [hx2]; exact HXL.out)
        have HBT2 := Lib.hid (show BtOk x2.bt by rw [hx2]; exact hbt2)
        have HK2 := Lib.hid (show Keeps x2 x0 by
          obtain ⟨k1, k2, k3, k4, k5, k6, k7, k8, k9⟩ := HK.out
          rw [hx2]
          exact ⟨k1, k2, k3, k4, k5, k6, k7, k8, by show bt.length = _; rw [hbt2.1, hb0]⟩)
        replace s1 : Sat w1 (TokAt v (.code u) * (row p 173 x2.cells * (arr 188 1 x2.list.v x2.list.len vals * (ToksAt vals ts1 * (row pb 105 o.pcells * F))))) := by rw [hx2]; exact s1
        clear hx2 hbt2 HPE
        have hv := tokAt_is s1
        obtain ⟨T, d, hT, rfl⟩ := id hv
        have no := hv.noOpen
        have hem := emit_w p k e s x2 vals ts1 (TokAt (.iface T (.pointer (some ⟨d, 0, none⟩))) (.code u) * (row pb 105 o.pcells * F)) w1 HX2S.out HX2E.out he (by omega) (by omega) (by omega) HX2L.out (s1.cast (by
          generalize TokAt (.iface T (.pointer (some ⟨d, 0, none⟩))) (.code u) = Y
          ac_rfl))
        have HEM := Lib.hid hem
        clear hem s1 hv hT
        go_wp2_with fail
        refine HEM.out.mono ?_
        rintro e2 w2 ⟨rfl, L, vals', q1, q2, s2⟩
        obtain ⟨i0, hi0, hz0, hz1, hz2⟩ := info_parts info_Inline
        have c9 : w2.cell? ⟨p, 9, none⟩ = some (.slice L.a L.len L.cap) := s2.cell 9 rfl
        have hlen := toksAt_len (s2.cast (show _ = ToksAt vals' (ts1 ++ flush ((s.take k).drop e)) * (row p 173 { x2 with emitted := (k : Int), list := L }.cells * (arr 188 1 L.v L.len vals' * (TokAt (.iface T (.pointer (some ⟨d, 0, none⟩))) (.code u) * (row pb 105 o.pcells * F)))) from by
          generalize TokAt (.iface T (.pointer (some ⟨d, 0, none⟩))) (.code u) = Y
          ac_rfl))
        have hB := (s2.new (d := w2.heap.size) [.iface T (.pointer (some ⟨d, 0, none⟩))] 188 rfl).cast (show _ = arr 188 1 L.v L.len vals' * (row w2.heap.size 188 [.iface T (.pointer (some ⟨d, 0, none⟩))] * (row p 173 { x2 with emitted := (k : Int), list := L }.cells * (ToksAt vals' (ts1 ++ flush ((s.take k).drop e)) * (TokAt (.iface T (.pointer (some ⟨d, 0, none⟩))) (.code u) * (row pb 105 o.pcells * F))))) from by
          generalize TokAt (.iface T (.pointer (some ⟨d, 0, none⟩))) (.code u) = Y
          ac_rfl)
        have HB := Lib.hid hB
        have HQ := Lib.hid q1
        have HLEN := Lib.hid hlen
        have hL2 : L.len ≤ 1000000000 := by omega
        clear hB s2 q1 hlen HEM
        go_wp2_with (at_builtin; refine wpList_append_sl rfl (.tmp 147) (.tmp 149) 119 rfl 188 i0 .nilIface 1 16 Tryz.underlying119 hi0 hz0 hz1 hz2 rfl L.v L.len vals' rfl HB.out ⟨w2.heap.size, 0, none⟩ 1 1 [.iface T (.pointer (some ⟨d, 0, none⟩))] rfl rfl (news_one (HB.out.swap.cell 0 rfl)) (by intro u hu; simp at hu; rcases hu with rfl; rfl) (by unfold maxLen; omega) (by omega) (by decide) ?_)
        intro g3 c3 w3 s3 z3
        clear z3
        have c9' : w3.cell? ⟨p, 9, none⟩ = some (.slice L.a L.len L.cap) := s3.third.cell 9 rfl
        have cf' := fun i => s3.third.frozen i
        have s4 : Sat (w3.setCell ⟨p, 9, none⟩ (.slice (some ⟨g3, 0, none⟩) (L.len + 1) c3)) (row p 173 { x2 with emitted := (k : Int), list := ⟨some ⟨g3, 0, none⟩, L.len + 1, c3⟩ }.cells * _) := s3.third.set 9 (.slice (some ⟨g3, 0, none⟩) (L.len + 1) c3)
        have HSK := Lib.hid (skip_w p (e' + n : Nat) _ _ _ s4)
        have S4 := Lib.hid s4
        clear s4 s3
        go_wp2_with fail
        refine HSK.out.mono ?_
        rintro e5 w5 ⟨rfl, s5⟩
        go_wp2
        refine ⟨⟨e' + n, e' + n, true, ts1 ++ flush ((s.take k).drop e) ++ [.code u], _, vals' ++ [.iface T (.pointer (some ⟨d, 0, none⟩))], { x2 with emitted := ((e' + n : Nat) : Int), list := ⟨some ⟨g3, 0, none⟩, L.len + 1, c3⟩ }, ⟨rfl, rfl, rfl, rfl, rfl, rfl, rfl⟩, HSC.out, ?_, ?_, ?_, HX2S.out, rfl, HK2.out, (fun _ => HBT2.out), ?_⟩, ?_⟩
        · rw [← HTS.out]; simp
        · simp; omega
        · simp [HQ.out]
        · rw [toksAt_append _ _ _ _ HLEN.out, toksAt_single]
          have s6 := (s5.cast (show _ = row w2.heap.size 188 [.iface T (.pointer (some ⟨d, 0, none⟩))] * (row p 173 { x2 with emitted := ((e' + n : Nat) : Int), list := ⟨some ⟨g3, 0, none⟩, L.len + 1, c3⟩ }.cells * (arr 188 1 (.slice (some ⟨g3, 0, none⟩) (L.len + 1) c3) (L.len + 1) (vals' ++ [.iface T (.pointer (some ⟨d, 0, none⟩))]) * (ToksAt vals' (ts1 ++ flush ((s.take k).drop e)) * (TokAt (.iface T (.pointer (some ⟨d, 0, none⟩))) (.code u) * (row pb 105 o.pcells * F))))) from by
            generalize TokAt (.iface T (.pointer (some ⟨d, 0, none⟩))) (.code u) = Y
            ac_rfl)).drop1
          exact s6.cast (by
            generalize TokAt (.iface T (.pointer (some ⟨d, 0, none⟩))) (.code u) = Y
            show _ = row p 173 { x2 with emitted := ((e' + n : Nat) : Int), list := ⟨some ⟨g3, 0, none⟩, L.len + 1, c3⟩ }.cells * (arr 188 1 (.slice (some ⟨g3, 0, none⟩) (L.len + 1) c3) (L.len + 1) (vals' ++ [.iface T (.pointer (some ⟨d, 0, none⟩))]) * (ToksAt vals' (ts1 ++ flush ((s.take k).drop e)) * Y * (row pb 105 o.pcells * F)))
            ac_rfl)
        · show s.length - ((e' + n : Nat) : Int).toNat < s.length - (k : Int).toNat
          omega
    | dash n hd hn h0 h1 =>
      obtain ⟨hi', hc⟩ := List.getElem?_eq_some_iff.1 (show s[k]? = some 45 from by have := h0 0 (by omega); rwa [Nat.add_zero] at this)
      have hix : ∀ h, (B.bs s)[k]'h = 45 := fun _ => hc
      have HSC := Lib.hid hsc
      have hpe := fun w G hs => parseDash_w (some ⟨p, 0, none⟩) s k n (by omega) hn h0 h1 w G hs
      have HPE := Lib.hid hpe
      rw [hd] at p8
      clear hsc h0 h1 hc hpe nn hd hn
      go_wp2_with fail
      refine (HPE.out wr _ H.out).mono ?_
      rintro e1 w1 ⟨v, rfl, s1⟩
      have hv := tokAt_is s1
      obtain ⟨T, d, hT, rfl⟩ := id hv
      have no := hv.noOpen
      have hem := emit_w p k e s x vals ts1 (TokAt (.iface T (.pointer (some ⟨d, 0, none⟩))) (.plain (dashTok n)) * (row pb 105 o.pcells * F)) w1 HXS.out HXE.out he (by omega) (by omega) (by omega) HXL.out (s1.cast (by
        generalize TokAt (.iface T (.pointer (some ⟨d, 0, none⟩))) (.plain (dashTok n)) = Y
        ac_rfl))
      have HEM := Lib.hid hem
      clear hem s1 hv hT f0' p7 p8 p9 p1 p6
      go_wp2_with fail
      refine HEM.out.mono ?_
      rintro e2 w2 ⟨rfl, L, vals', q1, q2, s2⟩
      obtain ⟨i0, hi0, hz0, hz1, hz2⟩ := info_parts info_Inline
      have c9 : w2.cell? ⟨p, 9, none⟩ = some (.slice L.a L.len L.cap) := s2.cell 9 rfl
      have hlen := toksAt_len (s2.cast (show _ = ToksAt vals' (ts1 ++ flush ((s.take k).drop e)) * (row p 173 { x with emitted := (k : Int), list := L }.cells * (arr 188 1 L.v L.len vals' * (TokAt (.iface T (.pointer (some ⟨d, 0, none⟩))) (.plain (dashTok n)) * (row pb 105 o.pcells * F)))) from by
        generalize TokAt (.iface T (.pointer (some ⟨d, 0, none⟩))) (.plain (dashTok n)) = Y
        ac_rfl))
      have hB := (s2.new (d := w2.heap.size) [.iface T (.pointer (some ⟨d, 0, none⟩))] 188 rfl).cast (show _ = arr 188 1 L.v L.len vals' * (row w2.heap.size 188 [.iface T (.pointer (some ⟨d, 0, none⟩))] * (row p 173 { x with emitted := (k : Int), list := L }.cells * (ToksAt vals' (ts1 ++ flush ((s.take k).drop e)) * (TokAt (.iface T (.pointer (some ⟨d, 0, none⟩))) (.plain (dashTok n)) * (row pb 105 o.pcells * F))))) from by
        generalize TokAt (.iface T (.pointer (some ⟨d, 0, none⟩))) (.plain (dashTok n)) = Y
        ac_rfl)
      have HB := Lib.hid hB
      have HQ := Lib.hid q1
      have HLEN := Lib.hid hlen
      have hL2 : L.len ≤ 1000000000 := by omega
      clear hB s2 q1 hlen HEM
      go_wp2_with (at_builtin; refine wpList_append_sl rfl (.tmp 147) (.tmp 149) 119 rfl 188 i0 .nilIface 1 16 Tryz.underlying119 hi0 hz0 hz1 hz2 rfl L.v L.len vals' rfl HB.out ⟨w2.heap.size, 0, none⟩ 1 1 [.iface T (.pointer (some ⟨d, 0, none⟩))] rfl rfl (news_one (HB.out.swap.cell 0 rfl)) (by intro u hu; simp at hu; rcases hu with rfl; rfl) (by unfold maxLen; omega) (by omega) (by decide) ?_)
      intro g3 c3 w3 s3 z3
      clear z3
      have c9' : w3.cell? ⟨p, 9, none⟩ = some (.slice L.a L.len L.cap) := s3.third.cell 9 rfl
      have cf' := fun i => s3.third.frozen i
      have s4 : Sat (w3.setCell ⟨p, 9, none⟩ (.slice (some ⟨g3, 0, none⟩) (L.len + 1) c3)) (row p 173 { x with emitted := (k : Int), list := ⟨some ⟨g3, 0, none⟩, L.len + 1, c3⟩ }.cells * _) := s3.third.set 9 (.slice (some ⟨g3, 0, none⟩) (L.len + 1) c3)
      have HSK := Lib.hid (skip_w p (k + n : Nat) _ _ _ s4)
      have S4 := Lib.hid s4
      clear s4 s3
      go_wp2_with fail
      refine HSK.out.mono ?_
      rintro e5 w5 ⟨rfl, s5⟩
      go_wp2
      refine ⟨⟨k + n, k + n, b, ts1 ++ flush ((s.take k).drop e) ++ [.plain (dashTok n)], _, vals' ++ [.iface T (.pointer (some ⟨d, 0, none⟩))], { x with emitted := ((k + n : Nat) : Int), list := ⟨some ⟨g3, 0, none⟩, L.len + 1, c3⟩ }, ⟨rfl, rfl, rfl, rfl, rfl, rfl, rfl⟩, HSC.out, ?_, ?_, ?_, HXS.out, rfl, HK.out, HBT.out, ?_⟩, ?_⟩
      · rw [← HTS.out]; simp
      · simp; omega
      · simp [HQ.out]
      · rw [toksAt_append _ _ _ _ HLEN.out, toksAt_single]
        have s6 := (s5.cast (show _ = row w2.heap.size 188 [.iface T (.pointer (some ⟨d, 0, none⟩))] * (row p 173 { x with emitted := ((k + n : Nat) : Int), list := ⟨some ⟨g3, 0, none⟩, L.len + 1, c3⟩ }.cells * (arr 188 1 (.slice (some ⟨g3, 0, none⟩) (L.len + 1) c3) (L.len + 1) (vals' ++ [.iface T (.pointer (some ⟨d, 0, none⟩))]) * (ToksAt vals' (ts1 ++ flush ((s.take k).drop e)) * (TokAt (.iface T (.pointer (some ⟨d, 0, none⟩))) (.plain (dashTok n)) * (row pb 105 o.pcells * F))))) from by
          generalize TokAt (.iface T (.pointer (some ⟨d, 0, none⟩))) (.plain (dashTok n)) = Y
          ac_rfl)).drop1
        exact s6.cast (by
          generalize TokAt (.iface T (.pointer (some ⟨d, 0, none⟩))) (.plain (dashTok n)) = Y
          show _ = row p 173 { x with emitted := ((k + n : Nat) : Int), list := ⟨some ⟨g3, 0, none⟩, L.len + 1, c3⟩ }.cells * (arr 188 1 (.slice (some ⟨g3, 0, none⟩) (L.len + 1) c3) (L.len + 1) (vals' ++ [.iface T (.pointer (some ⟨d, 0, none⟩))]) * (ToksAt vals' (ts1 ++ flush ((s.take k).drop e)) * Y * (row pb 105 o.pcells * F)))
          ac_rfl)
      · show s.length - ((k + n : Nat) : Int).toNat < s.length - (k : Int).toNat
        omega
    | ent v0 j u hr hu =>
      cases hr with
      | dec ds r hdrop hd h1 h7 hv =>
        obtain ⟨hi', hc⟩ := List.getElem?_eq_some_iff.1 (show s[k]? = some 38 from by have := drop_at hdrop 0; rwa [Nat.add_zero] at this)
        have hix : ∀ h, (B.bs s)[k]'h = 38 := fun _ => hc
        have HSC := Lib.hid hsc
        have hpe := fun w G hs => parseEntDec_w (some ⟨p, 0, none⟩) s ds r k v0 (by omega) hdrop h1 h7 hd hv u hu w G hs
        have HPE := Lib.hid hpe
        clear hsc hdrop hc hpe nn hu hv
        go_wp2_with fail
        refine (HPE.out wr _ H.out).mono ?_
        rintro e1 w1 ⟨v, rfl, s1⟩
        have hv := tokAt_is s1
        obtain ⟨T, d, hT, rfl⟩ := id hv
        have no := hv.noOpen
        have hem := emit_w p k e s x vals ts1 (TokAt (.iface T (.pointer (some ⟨d, 0, none⟩))) (.plain u) * (row pb 105 o.pcells * F)) w1 HXS.out HXE.out he (by omega) (by omega) (by omega) HXL.out (s1.cast (by
          generalize TokAt (.iface T (.pointer (some ⟨d, 0, none⟩))) (.plain u) = Y
          ac_rfl))
        have HEM := Lib.hid hem
        clear hem s1 hv hT f0' p7 p8 p9 p1 p6
        go_wp2_with fail
        refine HEM.out.mono ?_
        rintro e2 w2 ⟨rfl, L, vals', q1, q2, s2⟩
        obtain ⟨i0, hi0, hz0, hz1, hz2⟩ := info_parts info_Inline
        have c9 : w2.cell? ⟨p, 9, none⟩ = some (.slice L.a L.len L.cap) := s2.cell 9 rfl
        have hlen := toksAt_len (s2.cast (show _ = ToksAt vals' (ts1 ++ flush ((s.take k).drop e)) * (row p 173 { x with emitted := (k : Int), list := L }.cells * (arr 188 1 L.v L.len vals' * (TokAt (.iface T (.pointer (some ⟨d, 0, none⟩))) (.plain u) * (row pb 105 o.pcells * F)))) from by
          generalize TokAt (.iface T (.pointer (some ⟨d, 0, none⟩))) (.plain u) = Y
          ac_rfl))
        have hB := (s2.new (d := w2.heap.size) [.iface T (.pointer (some ⟨d, 0, none⟩))] 188 rfl).cast (show _ = arr 188 1 L.v L.len vals' * (row w2.heap.size 188 [.iface T (.pointer (some ⟨d, 0, none⟩))] * (row p 173 { x with emitted := (k : Int), list := L }.cells * (ToksAt vals' (ts1 ++ flush ((s.take k).drop e)) * (TokAt (.iface T (.pointer (some ⟨d, 0, none⟩))) (.plain u) * (row pb 105 o.pcells * F))))) from by
          generalize TokAt (.iface T (.pointer (some ⟨d, 0, none⟩))) (.plain u) = Y
          ac_rfl)
        have HB := Lib.hid hB
        have HQ := Lib.hid q1
        have HLEN := Lib.hid hlen
        have hL2 : L.len ≤ 1000000000 := by omega
        clear hB s2 q1 hlen HEM
        go_wp2_with (at_builtin; refine wpList_append_sl rfl (.tmp 147) (.tmp 149) 119 rfl 188 i0 .nilIface 1 16 Tryz.underlying119 hi0 hz0 hz1 hz2 rfl L.v L.len vals' rfl HB.out ⟨w2.heap.size, 0, none⟩ 1 1 [.iface T (.pointer (some ⟨d, 0, none⟩))] rfl rfl (news_one (HB.out.swap.cell 0 rfl)) (by intro u hu; simp at hu; rcases hu with rfl; rfl) (by unfold maxLen; omega) (by omega) (by decide) ?_)
        intro g3 c3 w3 s3 z3
        clear z3
        have c9' : w3.cell? ⟨p, 9, none⟩ = some (.slice L.a L.len L.cap) := s3.third.cell 9 rfl
        have cf' := fun i => s3.third.frozen i
        have s4 : Sat (w3.setCell ⟨p, 9, none⟩ (.slice (some ⟨g3, 0, none⟩) (L.len + 1) c3)) (row p 173 { x with emitted := (k : Int), list := ⟨some ⟨g3, 0, none⟩, L.len + 1, c3⟩ }.cells * _) := s3.third.set 9 (.slice (some ⟨g3, 0, none⟩) (L.len + 1) c3)
        have HSK := Lib.hid (skip_w p (k + ds.length + 3 : Nat) _ _ _ s4)
        have S4 := Lib.hid s4
        clear s4 s3
        go_wp2_with fail
        refine HSK.out.mono ?_
        rintro e5 w5 ⟨rfl, s5⟩
        go_wp2
        refine ⟨⟨k + ds.length + 3, k + ds.length + 3, b, ts1 ++ flush ((s.take k).drop e) ++ [.plain u], _, vals' ++ [.iface T (.pointer (some ⟨d, 0, none⟩))], { x with emitted := ((k + ds.length + 3 : Nat) : Int), list := ⟨some ⟨g3, 0, none⟩, L.len + 1, c3⟩ }, ⟨rfl, rfl, rfl, rfl, rfl, rfl, rfl⟩, HSC.out, ?_, ?_, ?_, HXS.out, rfl, HK.out, HBT.out, ?_⟩, ?_⟩
        · rw [← HTS.out]; simp
        · simp; omega
        · simp [HQ.out]
        · rw [toksAt_append _ _ _ _ HLEN.out, toksAt_single]
          have s6 := (s5.cast (show _ = row w2.heap.size 188 [.iface T (.pointer (some ⟨d, 0, none⟩))] * (row p 173 { x with emitted := ((k + ds.length + 3 : Nat) : Int), list := ⟨some ⟨g3, 0, none⟩, L.len + 1, c3⟩ }.cells * (arr 188 1 (.slice (some ⟨g3, 0, none⟩) (L.len + 1) c3) (L.len + 1) (vals' ++ [.iface T (.pointer (some ⟨d, 0, none⟩))]) * (ToksAt vals' (ts1 ++ flush ((s.take k).drop e)) * (TokAt (.iface T (.pointer (some ⟨d, 0, none⟩))) (.plain u) * (row pb 105 o.pcells * F))))) from by
            generalize TokAt (.iface T (.pointer (some ⟨d, 0, none⟩))) (.plain u) = Y
            ac_rfl)).drop1
          exact s6.cast (by
            generalize TokAt (.iface T (.pointer (some ⟨d, 0, none⟩))) (.plain u) = Y
            show _ = row p 173 { x with emitted := ((k + ds.length + 3 : Nat) : Int), list := ⟨some ⟨g3, 0, none⟩, L.len + 1, c3⟩ }.cells * (arr 188 1 (.slice (some ⟨g3, 0, none⟩) (L.len + 1) c3) (L.len + 1) (vals' ++ [.iface T (.pointer (some ⟨d, 0, none⟩))]) * (ToksAt vals' (ts1 ++ flush ((s.take k).drop e)) * Y * (row pb 105 o.pcells * F)))
            ac_rfl)
        · show s.length - ((k + ds.length + 3 : Nat) : Int).toNat < s.length - (k : Int).toNat
          omega
      | hex ds r hdrop h1 h6 hv =>
        obtain ⟨hi', hc⟩ := List.getElem?_eq_some_iff.1 (show s[k]? = some 38 from by have := drop_at hdrop 0; rwa [Nat.add_zero] at this)
        have hix : ∀ h, (B.bs s)[k]'h = 38 := fun _ => hc
        have HSC := Lib.hid hsc
        have hpe := fun w G hs => parseEntHex_w (some ⟨p, 0, none⟩) s ds r k v0 (by omega) hdrop h1 h6 hv u hu w G hs
        have HPE := Lib.hid hpe
        clear hsc hdrop hc hpe nn hu hv
        go_wp2_with fail
        refine (HPE.out wr _ H.out).mono ?_
        rintro e1 w1 ⟨v, rfl, s1⟩
        have hv := tokAt_is s1
        obtain ⟨T, d, hT, rfl⟩ := id hv
        have no := hv.noOpen
        have hem := emit_w p k e s x vals ts1 (TokAt (.iface T (.pointer (some ⟨d, 0, none⟩))) (.plain u) * (row pb 105 o.pcells * F)) w1 HXS.out HXE.out he (by omega) (by omega) (by omega) HXL.out (s1.cast (by
          generalize TokAt (.iface T (.pointer (some ⟨d, 0, none⟩))) (.plain u) = Y
          ac_rfl))
        have HEM := Lib.hid hem
        clear hem s1 hv hT f0' p7 p8 p9 p1 p6
        go_wp2_with fail
        refine HEM.out.mono ?_
        rintro e2 w2 ⟨rfl, L, vals', q1, q2, s2⟩
        obtain ⟨i0, hi0, hz0, hz1, hz2⟩ := info_parts info_Inline
        have c9 : w2.cell? ⟨p, 9, none⟩ = some (.slice L.a L.len L.cap) := s2.cell 9 rfl
        have hlen := toksAt_len (s2.cast (show _ = ToksAt vals' (ts1 ++ flush ((s.take k).drop e)) * (row p 173 { x with emitted := (k : Int), list := L }.cells * (arr 188 1 L.v L.len vals' * (TokAt (.iface T (.pointer (some ⟨d, 0, none⟩))) (.plain u) * (row pb 105 o.pcells * F)))) from by
          generalize TokAt (.iface T (.pointer (some ⟨d, 0, none⟩))) (.plain u) = Y
          ac_rfl))
        have hB := (s2.new (d := w2.heap.size) [.iface T (.pointer (some ⟨d, 0, none⟩))] 188 rfl).cast (show _ = arr 188 1 L.v L.len vals' * (row w2.heap.size 188 [.iface T (.pointer (some ⟨d, 0, none⟩))] * (row p 173 { x with emitted := (k : Int), list := L }.cells * (ToksAt vals' (ts1 ++ flush ((s.take k).drop e)) * (TokAt (.iface T (.pointer (some ⟨d, 0, none⟩))) (.plain u) * (row pb 105 o.pcells * F))))) from by
          generalize TokAt (.iface T (.pointer (some ⟨d, 0, none⟩))) (.plain u) = Y
          ac_rfl)
        have HB := Lib.hid hB
        have HQ := Lib.hid q1
        have HLEN := Lib.hid hlen
        have hL2 : L.len ≤ 1000000000 := by omega
        clear hB s2 q1 hlen HEM
        go_wp2_with (at_builtin; refine wpList_append_sl rfl (.tmp 147) (.tmp 149) 119 rfl 188 i0 .nilIface 1 16 Tryz.underlying119 hi0 hz0 hz1 hz2 rfl L.v L.len vals' rfl HB.out ⟨w2.heap.size, 0, none⟩ 1 1 [.iface T (.pointer (some ⟨d, 0, none⟩))] rfl rfl (news_one (HB.out.swap.cell 0 rfl)) (by intro u hu; simp at hu; rcases hu with rfl; rfl) (by unfold maxLen; omega) (by omega) (by decide) ?_)
        intro g3 c3 w3 s3 z3
        clear z3
        have c9' : w3.cell? ⟨p, 9, none⟩ = some (.slice L.a L.len L.cap) := s3.third.cell 9 rfl
        have cf' := fun i => s3.third.frozen i
        have s4 : Sat (w3.setCell ⟨p, 9, none⟩ (.slice (some ⟨g3, 0, none⟩) (L.len + 1) c3)) (row p 173 { x with emitted := (k : Int), list := ⟨some ⟨g3, 0, none⟩, L.len + 1, c3⟩ }.cells * _) := s3.third.set 9 (.slice (some ⟨g3, 0, none⟩) (L.len + 1) c3)
        have HSK := Lib.hid (skip_w p (k + ds.length + 4 : Nat) _ _ _ s4)
        have S4 := Lib.hid s4
        clear s4 s3
        go_wp2_with fail
        refine HSK.out.mono ?_
        rintro e5 w5 ⟨rfl, s5⟩
        go_wp2
        refine ⟨⟨k + ds.length + 4, k + ds.length + 4, b, ts1 ++ flush ((s.take k).drop e) ++ [.plain u], _, vals' ++ [.iface T (.pointer (some ⟨d, 0, none⟩))], { x with emitted := ((k + ds.length + 4 : Nat) : Int), list := ⟨some ⟨g3, 0, none⟩, L.len + 1, c3⟩ }, ⟨rfl, rfl, rfl, rfl, rfl, rfl, rfl⟩, HSC.out, ?_, ?_, ?_, HXS.out, rfl, HK.out, HBT.out, ?_⟩, ?_⟩
        · rw [← HTS.out]; simp
        · simp; omega
        · simp [HQ.out]
        · rw [toksAt_append _ _ _ _ HLEN.out, toksAt_single]
          have s6 := (s5.cast (show _ = row w2.heap.size 188 [.iface T (.pointer (some ⟨d, 0, none⟩))] * (row p 173 { x with emitted := ((k + ds.length + 4 : Nat) : Int), list := ⟨some ⟨g3, 0, none⟩, L.len + 1, c3⟩ }.cells * (arr 188 1 (.slice (some ⟨g3, 0, none⟩) (L.len + 1) c3) (L.len + 1) (vals' ++ [.iface T (.pointer (some ⟨d, 0, none⟩))]) * (ToksAt vals' (ts1 ++ flush ((s.take k).drop e)) * (TokAt (.iface T (.pointer (some ⟨d, 0, none⟩))) (.plain u) * (row pb 105 o.pcells * F))))) from by
            generalize TokAt (.iface T (.pointer (some ⟨d, 0, none⟩))) (.plain u) = Y
            ac_rfl)).drop1
          exact s6.cast (by
            generalize TokAt (.iface T (.pointer (some ⟨d, 0, none⟩))) (.plain u) = Y
            show _ = row p 173 { x with emitted := ((k + ds.length + 4 : Nat) : Int), list := ⟨some ⟨g3, 0, none⟩, L.len + 1, c3⟩ }.cells * (arr 188 1 (.slice (some ⟨g3, 0, none⟩) (L.len + 1) c3) (L.len + 1) (vals' ++ [.iface T (.pointer (some ⟨d, 0, none⟩))]) * (ToksAt vals' (ts1 ++ flush ((s.take k).drop e)) * Y * (row pb 105 o.pcells * F)))
            ac_rfl)
        · show s.length - ((k + ds.length + 4 : Nat) : Int).toNat < s.length - (k : Int).toNat
          omega

end Go.Proofs.YtbfmmikllelfeaaGreatDoor
