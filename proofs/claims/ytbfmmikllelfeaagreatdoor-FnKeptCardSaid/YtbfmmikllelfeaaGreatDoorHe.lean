/- startHTML where a tag begins the line. -/
import Derived.Test.YtbfmmikllelfeaaGreatDoorHd
import Derived.Test.YtbfmmikllelfeaaGreatDoorSb
import Derived.Test.YtbfmmikllelfeaaGreatDoorLe
namespace Go.Proofs.YtbfmmikllelfeaaGreatDoor
open Go.RowKit Sl

/-- A frame of 368 temporaries, of which 0, 1, 6, 9, 10 are known. -/
def HFrame (v0 v1 v6 v9 v10 : Value) (a : Act) : Prop := a.defers = [] ∧ a.tmps.size = 368 ∧ a.tmps[0]? = some v0 ∧ a.tmps[1]? = some v1 ∧ a.tmps[6]? = some v6 ∧ a.tmps[9]? = some v9 ∧ a.tmps[10]? = some v10

set_option maxRecDepth 100000 in
theorem HFrame.open {v0 v1 v6 v9 v10 : Value} {a : Act} (h : HFrame v0 v1 v6 v9 v10 a) : ∃ u : Nat → Value, a = ⟨#[v0, v1, u 2, u 3, u 4, u 5, v6, u 7, u 8, v9, v10, u 11, u 12, u 13, u 14, u 15, u 16, u 17, u 18, u 19, u 20, u 21, u 22, u 23, u 24, u 25, u 26, u 27, u 28, u 29, u 30, u 31, u 32, u 33, u 34, u 35, u 36, u 37, u 38, u 39, u 40, u 41, u 42, u 43, u 44, u 45, u 46, u 47, u 48, u 49, u 50, u 51, u 52, u 53, u 54, u 55, u 56, u 57, u 58, u 59, u 60, u 61, u 62, u 63, u 64, u 65, u 66, u 67, u 68, u 69, u 70, u 71, u 72, u 73, u 74, u 75, u 76, u 77, u 78, u 79, u 80, u 81, u 82, u 83, u 84, u 85, u 86, u 87, u 88, u 89, u 90, u 91, u 92, u 93, u 94, u 95, u 96, u 97, u 98, u 99, u 100, u 101, u 102, u 103, u 104, u 105, u 106, u 107, u 108, u 109, u 110, u 111, u 112, u 113, u 114, u 115, u 116, u 117, u 118, u 119, u 120, u 121, u 122, u 123, u 124, u 125, u 126, u 127, u 128, u 129, u 130, u 131, u 132, u 133, u 134, u 135, u 136, u 137, u 138, u 139, u 140, u 141, u 142, u 143, u 144, u 145, u 146, u 147, u 148, u 149, u 150, u 151, u 152, u 153, u 154, u 155, u 156, u 157, u 158, u 159, u 160, u 161, u 162, u 163, u 164, u 165, u 166, u 167, u 168, u 169, u 170, u 171, u 172, u 173, u 174, u 175, u 176, u 177, u 178, u 179, u 180, u 181, u 182, u 183, u 184, u 185, u 186, u 187, u 188, u 189, u 190, u 191, u 192, u 193, u 194, u 195, u 196, u 197, u 198, u 199, u 200, u 201, u 202, u 203, u 204, u 205, u 206, u 207, u 208, u 209, u 210, u 211, u 212, u 213, u 214, u 215, u 216, u 217, u 218, u 219, u 220, u 221, u 222, u 223, u 224, u 225, u 226, u 227, u 228, u 229, u 230, u 231, u 232, u 233, u 234, u 235, u 236, u 237, u 238, u 239, u 240, u 241, u 242, u 243, u 244, u 245, u 246, u 247, u 248, u 249, u 250, u 251, u 252, u 253, u 254, u 255, u 256, u 257, u 258, u 259, u 260, u 261, u 262, u 263, u 264, u 265, u 266, u 267, u 268, u 269, u 270, u 271, u 272, u 273, u 274, u 275, u 276, u 277, u 278, u 279, u 280, u 281, u 282, u 283, u 284, u 285, u 286, u 287, u 288, u 289, u 290, u 291, u 292, u 293, u 294, u 295, u 296, u 297, u 298, u 299, u 300, u 301, u 302, u 303, u 304, u 305, u 306, u 307, u 308, u 309, u 310, u 311, u 312, u 313, u 314, u 315, u 316, u 317, u 318, u 319, u 320, u 321, u 322, u 323, u 324, u 325, u 326, u 327, u 328, u 329, u 330, u 331, u 332, u 333, u 334, u 335, u 336, u 337, u 338, u 339, u 340, u 341, u 342, u 343, u 344, u 345, u 346, u 347, u 348, u 349, u 350, u 351, u 352, u 353, u 354, u 355, u 356, u 357, u 358, u 359, u 360, u 361, u 362, u 363, u 364, u 365, u 366, u 367], []⟩ := by
  obtain ⟨t, d⟩ := a
  obtain ⟨h1, h2, k0, k1, k6, k9, k10⟩ := h
  obtain ⟨l⟩ := t
  have hl : l.length = 368 := h2
  have e := list_range l
  rw [hl] at e
  simp only at h1
  subst h1
  have e0 : l[0]?.getD undef = v0 := by
    have : l[0]? = some v0 := by simpa using k0
    rw [this]; rfl
  have e1 : l[1]?.getD undef = v1 := by
    have : l[1]? = some v1 := by simpa using k1
    rw [this]; rfl
  have e6 : l[6]?.getD undef = v6 := by
    have : l[6]? = some v6 := by simpa using k6
    rw [this]; rfl
  have e9 : l[9]?.getD undef = v9 := by
    have : l[9]? = some v9 := by simpa using k9
    rw [this]; rfl
  have e10 : l[10]?.getD undef = v10 := by
    have : l[10]? = some v10 := by simpa using k10
    rw [this]; rfl
  refine ⟨fun i => l[i]?.getD undef, ?_⟩
  rw [← e0, ← e1, ← e6, ← e9, ← e10]
  have e' : (⟨⟨l⟩, []⟩ : Act) = ⟨((List.range 368).map fun i => l[i]?.getD undef).toArray, []⟩ := by rw [← e]
  exact e'

/-- A frame of 368 temporaries, of which 0, 1, 6, 9, 10, 12, 13, 14, 184, 185, 186 are known. -/
def GFrame (v0 v1 v6 v9 v10 v12 v13 v14 v184 v185 v186 : Value) (a : Act) : Prop := a.defers = [] ∧ a.tmps.size = 368 ∧ a.tmps[0]? = some v0 ∧ a.tmps[1]? = some v1 ∧ a.tmps[6]? = some v6 ∧ a.tmps[9]? = some v9 ∧ a.tmps[10]? = some v10 ∧ a.tmps[12]? = some v12 ∧ a.tmps[13]? = some v13 ∧ a.tmps[14]? = some v14 ∧ a.tmps[184]? = some v184 ∧ a.tmps[185]? = some v185 ∧ a.tmps[186]? = some v186

set_option maxRecDepth 100000 in
theorem GFrame.open {v0 v1 v6 v9 v10 v12 v13 v14 v184 v185 v186 : Value} {a : Act} (h : GFrame v0 v1 v6 v9 v10 v12 v13 v14 v184 v185 v186 a) : ∃ u : Nat → Value, a = ⟨#[v0, v1, u 2, u 3, u 4, u 5, v6, u 7, u 8, v9, v10, u 11, v12, v13, v14, u 15, u 16, u 17, u 18, u 19, u 20, u 21, u 22, u 23, u 24, u 25, u 26, u 27, u 28, u 29, u 30, u 31, u 32, u 33, u 34, u 35, u 36, u 37, u 38, u 39, u 40, u 41, u 42, u 43, u 44, u 45, u 46, u 47, u 48, u 49, u 50, u 51, u 52, u 53, u 54, u 55, u 56, u 57, u 58, u 59, u 60, u 61, u 62, u 63, u 64, u 65, u 66, u 67, u 68, u 69, u 70, u 71, u 72, u 73, u 74, u 75, u 76, u 77, u 78, u 79, u 80, u 81, u 82, u 83, u 84, u 85, u 86, u 87, u 88, u 89, u 90, u 91, u 92, u 93, u 94, u 95, u 96, u 97, u 98, u 99, u 100, u 101, u 102, u 103, u 104, u 105, u 106, u 107, u 108, u 109, u 110, u 111, u 112, u 113, u 114, u 115, u 116, u 117, u 118, u 119, u 120, u 121, u 122, u 123, u 124, u 125, u 126, u 127, u 128, u 129, u 130, u 131, u 132, u 133, u 134, u 135, u 136, u 137, u 138, u 139, u 140, u 141, u 142, u 143, u 144, u 145, u 146, u 147, u 148, u 149, u 150, u 151, u 152, u 153, u 154, u 155, u 156, u 157, u 158, u 159, u 160, u 161, u 162, u 163, u 164, u 165, u 166, u 167, u 168, u 169, u 170, u 171, u 172, u 173, u 174, u 175, u 176, u 177, u 178, u 179, u 180, u 181, u 182, u 183, v184, v185, v186, u 187, u 188, u 189, u 190, u 191, u 192, u 193, u 194, u 195, u 196, u 197, u 198, u 199, u 200, u 201, u 202, u 203, u 204, u 205, u 206, u 207, u 208, u 209, u 210, u 211, u 212, u 213, u 214, u 215, u 216, u 217, u 218, u 219, u 220, u 221, u 222, u 223, u 224, u 225, u 226, u 227, u 228, u 229, u 230, u 231, u 232, u 233, u 234, u 235, u 236, u 237, u 238, u 239, u 240, u 241, u 242, u 243, u 244, u 245, u 246, u 247, u 248, u 249, u 250, u 251, u 252, u 253, u 254, u 255, u 256, u 257, u 258, u 259, u 260, u 261, u 262, u 263, u 264, u 265, u 266, u 267, u 268, u 269, u 270, u 271, u 272, u 273, u 274, u 275, u 276, u 277, u 278, u 279, u 280, u 281, u 282, u 283, u 284, u 285, u 286, u 287, u 288, u 289, u 290, u 291, u 292, u 293, u 294, u 295, u 296, u 297, u 298, u 299, u 300, u 301, u 302, u 303, u 304, u 305, u 306, u 307, u 308, u 309, u 310, u 311, u 312, u 313, u 314, u 315, u 316, u 317, u 318, u 319, u 320, u 321, u 322, u 323, u 324, u 325, u 326, u 327, u 328, u 329, u 330, u 331, u 332, u 333, u 334, u 335, u 336, u 337, u 338, u 339, u 340, u 341, u 342, u 343, u 344, u 345, u 346, u 347, u 348, u 349, u 350, u 351, u 352, u 353, u 354, u 355, u 356, u 357, u 358, u 359, u 360, u 361, u 362, u 363, u 364, u 365, u 366, u 367], []⟩ := by
  obtain ⟨t, d⟩ := a
  obtain ⟨h1, h2, k0, k1, k6, k9, k10, k12, k13, k14, k184, k185, k186⟩ := h
  obtain ⟨l⟩ := t
  have hl : l.length = 368 := h2
  have e := list_range l
  rw [hl] at e
  simp only at h1
  subst h1
  have e0 : l[0]?.getD undef = v0 := by
    have : l[0]? = some v0 := by simpa using k0
    rw [this]; rfl
  have e1 : l[1]?.getD undef = v1 := by
    have : l[1]? = some v1 := by simpa using k1
    rw [this]; rfl
  have e6 : l[6]?.getD undef = v6 := by
    have : l[6]? = some v6 := by simpa using k6
    rw [this]; rfl
  have e9 : l[9]?.getD undef = v9 := by
    have : l[9]? = some v9 := by simpa using k9
    rw [this]; rfl
  have e10 : l[10]?.getD undef = v10 := by
    have : l[10]? = some v10 := by simpa using k10
    rw [this]; rfl
  have e12 : l[12]?.getD undef = v12 := by
    have : l[12]? = some v12 := by simpa using k12
    rw [this]; rfl
  have e13 : l[13]?.getD undef = v13 := by
    have : l[13]? = some v13 := by simpa using k13
    rw [this]; rfl
  have e14 : l[14]?.getD undef = v14 := by
    have : l[14]? = some v14 := by simpa using k14
    rw [this]; rfl
  have e184 : l[184]?.getD undef = v184 := by
    have : l[184]? = some v184 := by simpa using k184
    rw [this]; rfl
  have e185 : l[185]?.getD undef = v185 := by
    have : l[185]? = some v185 := by simpa using k185
    rw [this]; rfl
  have e186 : l[186]?.getD undef = v186 := by
    have : l[186]? = some v186 := by simpa using k186
    rw [this]; rfl
  refine ⟨fun i => l[i]?.getD undef, ?_⟩
  rw [← e0, ← e1, ← e6, ← e9, ← e10, ← e12, ← e13, ← e14, ← e184, ← e185, ← e186]
  have e' : (⟨⟨l⟩, []⟩ : Act) = ⟨((List.range 368).map fun i => l[i]?.getD undef).toArray, []⟩ := by rw [← e]
  exact e'

theorem arr_made2 (w : World) (n : Nat) (t : TypeId) (z : Value) (P : HP) (hn : n ≤ maxLen) (h : Sat w P) : Sat (w.alloc (.cells (madeCells #[z] n) t)) (arr t 1 (.slice (some ⟨w.heap.size, 0, none⟩) 0 n) 0 [] * P) := by
  refine arr_mk (junk := (madeCells #[z] n).toList) rfl (Nat.zero_le _) hn (by simp [size_madeCells]) ?_
  have := h.alloc (.cells (madeCells #[z] n) t)
  refine this.cast ?_
  unfold row
  congr 3

/-- Bytes, as a row's cells. -/
def u8v (l : List UInt8) : List Value := l.map fun c => .int .u8 c.toNat

/-- The names of tags that begin a block of the sixth kind. -/
def tagNames : List (List UInt8) := [[97, 100, 100, 114, 101, 115, 115], [97, 114, 116, 105, 99, 108, 101], [97, 115, 105, 100, 101], [98, 97, 115, 101], [98, 97, 115, 101, 102, 111, 110, 116], [98, 108, 111, 99, 107, 113, 117, 111, 116, 101], [98, 111, 100, 121], [99, 97, 112, 116, 105, 111, 110], [99, 101, 110, 116, 101, 114], [99, 111, 108], [99, 111, 108, 103, 114, 111, 117, 112], [100, 100], [100, 101, 116, 97, 105, 108, 115], [100, 105, 97, 108, 111, 103], [100, 105, 114], [100, 105, 118], [100, 108], [100, 116], [102, 105, 101, 108, 100, 115, 101, 116], [102, 105, 103, 99, 97, 112, 116, 105, 111, 110], [102, 105, 103, 117, 114, 101], [102, 111, 111, 116, 101, 114], [102, 111, 114, 109], [102, 114, 97, 109, 101], [102, 114, 97, 109, 101, 115, 101, 116], [104, 49], [104, 50], [104, 51], [104, 52], [104, 53], [104, 54], [104, 101, 97, 100], [104, 101, 97, 100, 101, 114], [104, 114], [104, 116, 109, 108], [105, 102, 114, 97, 109, 101], [108, 101, 103, 101, 110, 100], [108, 105], [108, 105, 110, 107], [109, 97, 105, 110], [109, 101, 110, 117], [109, 101, 110, 117, 105, 116, 101, 109], [110, 97, 118], [110, 111, 102, 114, 97, 109, 101, 115], [111, 108], [111, 112, 116, 103, 114, 111, 117, 112], [111, 112, 116, 105, 111, 110], [112], [112, 97, 114, 97, 109], [115, 101, 99, 116, 105, 111, 110], [115, 111, 117, 114, 99, 101], [115, 117, 109, 109, 97, 114, 121], [116, 97, 98, 108, 101], [116, 98, 111, 100, 121], [116, 100], [116, 102, 111, 111, 116], [116, 104], [116, 104, 101, 97, 100], [116, 105, 116, 108, 101], [116, 114], [116, 114, 97, 99, 107], [117, 108]]

theorem tagVals_one : ∀ v ∈ strVals tagNames, v.cells = #[v] := by
  intro v hv
  obtain ⟨s, _, rfl⟩ := List.mem_map.1 hv
  rfl

set_option maxRecDepth 100000 in
set_option maxHeartbeats 400000 in
theorem htmlTags_w (w : World) : Calls Tryz.prog 244 #[] w fun e w' => e = .returned (.slice (some ⟨w.heap.size, 0, none⟩) 62 62) ∧ w' = w.alloc (.cells (strVals tagNames).toArray 9) := by
  go_enter Tryz.func244, Tryz.ntmps244
  go_upto_region 1 with fail
  refine wp_region_list ?_
  refine wpList_buildStrs rfl _ 62 _ rfl (strVals tagNames) tagVals_one (by kernel_rfl) (by kernel_rfl) (by decide) (by decide) (by kernel_rfl) ?_
  refine wpList_plain rfl fun K2 hK2 => ?_
  show K2 (Act.put _ _ _) _
  refine hK2 _ _ ?_
  rename_i hk
  refine hk _ _ ?_

  go_wp2
  go_ret
  exact ⟨rfl, rfl⟩

theorem tagNames_ne : ∀ n ∈ tagNames, n ≠ [] := by
  have : tagNames.all (fun n => !n.isEmpty) = true := by decide
  intro n hn h
  have := List.all_eq_true.1 this n hn
  rw [h] at this
  cases this

/-- A line that begins with a tag: its name, the letter behind it. -/
structure TagT (t nm r : List UInt8) (c : UInt8) : Prop where
  eq : t = 60 :: (nm ++ c :: r)
  ne : nm ≠ []
  len : nm.length ≤ 10
  low : ∀ x ∈ nm, 97 ≤ x.toNat ∧ x.toNat ≤ 122
  end_ : c = 62 ∨ c = 32 ∨ c = 45

theorem TagT.no {t nm r : List UInt8} {c : UInt8} (h : TagT t nm r c) (a : UInt8) (s : List UInt8) (ha : a.toNat < 97) : (60 :: a :: s).isPrefixOf t = false := by
  rw [h.eq]
  cases hn : nm with
  | nil => exact absurd hn h.ne
  | cons b q =>
    have hb := (h.low b (by rw [hn]; simp)).1
    show (List.isPrefixOf (60 :: a :: s) (60 :: b :: (q ++ c :: r))) = false
    have : (a == b) = false := by
      rw [beq_eq_false_iff_ne]
      rintro rfl
      omega
    simp [List.isPrefixOf, this]

theorem TagT.at {t nm r : List UInt8} {c : UInt8} (h : TagT t nm r c) : (∀ k (hk : k < nm.length), t[1 + k]? = some nm[k]) ∧ t[1 + nm.length]? = some c ∧ nm.length + 2 ≤ t.length := by
  rw [h.eq]
  refine ⟨fun k hk => ?_, ?_, ?_⟩
  · rw [Nat.add_comm, List.getElem?_cons_succ, List.getElem?_append_left hk]
    simp [hk]
  · rw [Nat.add_comm, List.getElem?_cons_succ, List.getElem?_append_right (Nat.le_refl _), Nat.sub_self, List.getElem?_cons_zero]
  · simp

set_option maxRecDepth 100000 in
set_option maxHeartbeats 8000000 in
theorem startDiv_w (pb p b : Nat) (oc : List Value) (v v' : DV) (R R' : HP) (x : Ln) (t nm r : List UInt8) (c : UInt8) (F : HP) (w : World) (hx : x.OK) (hh : Heads x 60) (ht : x.rest = t) (htl : t.length ≤ 100000000) (htag : TagT t nm r c) (hc : c = 32) (hin : nm ∈ tagNames)
    (htr : Trims pb oc p v R (Dsp pb oc v' p * R')) (hd : v'.dep + 1 = v'.obs.length) (hdep : v'.dep = v.dep) (hn : v'.obs.length < 1000000000)
    (hs : Sat w (row b 181 x.cells * (Dsp pb oc v p * (R * F)))) :
    Calls Tryz.prog 204 #[.pointer (some ⟨p, 0, none⟩), .pointer (some ⟨b, 0, none⟩)] w fun e' w' => e' = .returned (.bool true) ∧ ∃ lx : LX, HK.blank.fits lx ∧
      Sat w' (Dsp pb oc { v' with obs := v'.obs ++ (Leaf.html v'.n v'.n HK.blank [t]).obs lx } p * ((Leaf.html v'.n v'.n HK.blank [t]).own lx * (R' * (row b 181 x.cells * F)))) := by
  obtain ⟨i0, hi9, hz0, hz1, hz2⟩ := info_parts info_string
  obtain ⟨j0, jj9, jz0, jz1, jz2⟩ := info_parts info_byte
  have h2 := hs.new (d := w.heap.size) x.cells 181 (by simp)
  obtain ⟨c0, c1, c2, c3, c4, cf⟩ := line_cells hs
  have hbl := hs.row_lt
  have hi : (x.trimSpace 0 3 false).getD x = x := hh.indent
  have hpk := hh.peek
  have hst : x.str = t := by rw [hh.str, ht]
  have hno := fun (a : UInt8) (s : List UInt8) (ha : a.toNat < 97) => htag.no a s ha
  obtain ⟨ta1, ta2, ta3⟩ := htag.at
  have hget : ∀ k c, t[k]? = some c → ∀ hh, (B.bs t)[k]'hh = c := fun k c hk hh => (List.getElem?_eq_some_iff.1 hk).2
  have hlow := htag.low
  have hnl := htag.len
  have hend := htag.end_
  have hnpos : 0 < nm.length := List.length_pos_iff.2 htag.ne
  have hmk : ∀ w, (Instr.makeSlice 44 (.int .i64 0) (.int .i64 16)).run Tryz.prog w = .ok (.slice (some ⟨w.heap.size, 0, none⟩) 0 16) (w.alloc (.cells (madeCells #[.int .u8 0] 16) 5)) := fun w => by
    have := run_make (P := Tryz.prog) w 44 5 j0 _ Tryz.underlying44 jj9 jz0 .i64 .i64 0 16 (by omega) (by omega) (by rw [jz2]; omega) (by omega)
    rw [jz1] at this
    simpa [Value.cells] using this
  have HI := Lib.hid hi
  have HP := Lib.hid hpk
  have HST := Lib.hid hst
  have H2 := Lib.hid h2
  have HTR := Lib.hid htr
  have HDD := Lib.hid (And.intro hd (And.intro hdep hn))
  have HTA1 := Lib.hid ta1
  have HTA2 := Lib.hid ta2
  have HGET := Lib.hid hget
  have HLOW := Lib.hid hlow
  have HEND := Lib.hid hend
  have hz : (B.bs t).size = t.length := rfl
  clear h2 hs hi hpk hst htr hd hdep hn ht hh ta1 ta2 hget hlow hend htag
  subst hc
  go_enter Tryz.func204, Tryz.ntmps204
  go_wp2
  go_step3
  go_wp2_with fail
  refine (trimSpace_w _ x 0 3 false _ _ hx (by decide) H2.out).mono ?_
  rintro e' w1 ⟨rfl, s1⟩
  rw [HI.out] at s1
  go_wp2_with fail
  refine (peek_w _ x _ _ hx s1).mono ?_
  rintro e' w2 ⟨rfl, m, hm2⟩
  rw [HP.out]
  have s2 : Sat w2 (row w.heap.size 181 x.cells * (row b 181 x.cells * (Dsp pb oc v p * (R * F)))) := by rw [hm2]; exact s1.drewN m
  clear s1 hm2 H2
  have S2 := Lib.hid s2
  clear s2
  go_wp2_with fail
  refine (string_w _ x _ _ hx S2.out).mono ?_
  rintro e' w3 ⟨rfl, m3, hm3⟩
  rw [HST.out]
  have s3 : Sat w3 (row w.heap.size 181 x.cells * (row b 181 x.cells * (Dsp pb oc v p * (R * F)))) := by rw [hm3]; exact S2.out.drewN m3
  clear hm3 S2
  have S4 := Lib.hid ((s3.drop1.new (d := w3.heap.size) [.string ⟨#[]⟩] 9 rfl).drop1)
  have cb0 := ((s3.drop1.new (d := w3.heap.size) [.string ⟨#[]⟩] 9 rfl)).cell 0 rfl
  clear s3
  go_wp2_with fail
  refine (hp_w t [60, 33, 45, 45] _ _ (by omega) (by decide) (hno 33 [45, 45] (by decide))).mono ?_
  rintro e' w5 ⟨rfl, rfl⟩
  go_wp2_with fail
  refine (hp_w t [60, 63] _ _ (by omega) (by decide) (hno 63 [] (by decide))).mono ?_
  rintro e' w5 ⟨rfl, rfl⟩
  go_wp2_with fail
  refine (hp_w t [60, 33, 91, 67, 68, 65, 84, 65, 91] _ _ (by omega) (by decide) (hno 33 [91, 67, 68, 65, 84, 65, 91] (by decide))).mono ?_
  rintro e' w5 ⟨rfl, rfl⟩
  go_wp2_with fail
  refine (hp_w t [60, 33] _ _ (by omega) (by decide) (hno 33 [] (by decide))).mono ?_
  rintro e' w5 ⟨rfl, rfl⟩
  have s4 := S4.out
  generalize w3.alloc (.cells #[.string ⟨#[]⟩] 9) = w4 at s4 cb0 ⊢
  generalize w3.heap.size = cb at cb0 ⊢
  clear S4
  have t1 := HTA1.out 0 hnpos
  generalize ha0 : nm[0]'hnpos = a0 at t1
  have hx1 := HGET.out _ _ t1
  have hlo1 := HLOW.out a0 (by rw [← ha0]; exact List.getElem_mem _)
  simp only [Nat.add_zero] at hx1
  have HA0 := Lib.hid ha0
  clear t1 ha0
  go_wp2_with fail
  have s5 := arr_made2 w4 16 5 (.int .u8 0) _ (by decide) s4
  clear s4 cb0 hx1
  refine wp_loop (fun a wr => ∃ (k g cap : Nat), k ≤ nm.length ∧ HFrame (.pointer (some ⟨p, 0, none⟩)) (.pointer (some ⟨b, 0, none⟩)) (.string (B.bs t)) (.int .i64 (1 + k : Nat)) (.slice (some ⟨g, 0, none⟩) k cap) a ∧
      Sat wr (arr 5 1 (.slice (some ⟨g, 0, none⟩) k cap) k (u8v (nm.take k)) * (row b 181 x.cells * (Dsp pb oc v p * (R * F)))))
    (fun a _ => 20 - (intOf (a.tmps.getD 9 undef)).toNat) ⟨0, _, 16, Nat.zero_le _, ⟨rfl, rfl, rfl, rfl, rfl, rfl, rfl⟩, s5⟩ ?_
  clear s5
  rintro a wr ⟨k, g, cap, hk, ha, h⟩
  obtain ⟨u, rfl⟩ := ha.open
  clear ha
  by_cases hlt : k < nm.length
  · have t1 := HTA1.out k hlt
    generalize hak : nm[k]'hlt = ak at t1
    have hxk := HGET.out _ _ t1
    have hlok := HLOW.out ak (by rw [← hak]; exact List.getElem_mem _)
    have htk : u8v (nm.take (k + 1)) = u8v (nm.take k) ++ [.int .u8 ak.toNat] := by unfold u8v; rw [List.take_succ_eq_append_getElem hlt, List.map_append, hak]; rfl
    have HTK := Lib.hid htk
    have hB := (h.new (d := wr.heap.size) [.int .u8 ak.toNat] 5 rfl).cast (show _ = arr 5 1 (.slice (some ⟨g, 0, none⟩) k cap) k (u8v (nm.take k)) * (row wr.heap.size 5 [.int .u8 ak.toNat] * (row b 181 x.cells * (Dsp pb oc v p * (R * F)))) from by ac_rfl)
    have HB := Lib.hid hB
    clear hB h t1 hak htk
    have hk1 : 1 + k < t.length := by omega
    have hk16 : k < 16 := by omega
    go_wp2_with (at_builtin; refine wpList_append_sl rfl (.tmp 146) (.tmp 148) 44 rfl 5 j0 (.int .u8 0) 1 1 Tryz.underlying44 jj9 jz0 jz1 jz2 rfl (.slice (some ⟨g, 0, none⟩) k cap) k _ (by rfl) HB.out ⟨wr.heap.size, 0, none⟩ 1 1 [.int .u8 ak.toNat] (by rfl) rfl ?c1 ?c2 ?c3 ?c4 (by decide) ?_)
    case c2 => rfl
    case c3 => unfold maxLen; omega
    case c4 => omega
    intro g2 cap2 w2 hs2 _
    have S2 := Lib.hid hs2.drop2
    clear hs2 HB
    go_wp2
    refine ⟨⟨k + 1, g2, cap2, by omega, ⟨rfl, rfl, rfl, rfl, rfl, by show some (Value.int .i64 _) = _; congr 2, rfl⟩, ?_⟩, ?_⟩
    · rw [HTK.out]
      exact S2.out
    · show 20 - ((1 + k : Nat) + 1 : Int).toNat < 20 - ((1 + k : Nat) : Int).toNat
      omega
  · obtain rfl : k = nm.length := by omega
    have hxk := HGET.out _ _ HTA2.out
    have hk1 : 1 + nm.length < t.length := by omega
    have hk16 : nm.length < 16 := by omega
    rw [List.take_length] at h
    have H := Lib.hid h
    clear h
    have hb0 : wr.cell? ⟨g, 0, none⟩ = some (.int .u8 a0.toNat) := by
      obtain ⟨junk, _, _, _, _, hr⟩ := H.out.arr_row
      refine hr.cell 0 ?_
      unfold u8v
      rw [List.getElem?_append_left (by simp; omega), List.getElem?_map, List.getElem?_eq_getElem hnpos, HA0.out]
      rfl
    go_wp2_with fail
    refine (htmlTags_w wr).mono ?_
    rintro e' w6 ⟨rfl, rfl⟩
    have s6 := H.out.new (d := wr.heap.size) (strVals tagNames) 9 rfl
    try rw [hxk]
    clear H hb0 hxk
    generalize wr.alloc (.cells (strVals tagNames).toArray 9) = w6 at s6 ⊢
    generalize wr.heap.size = T at s6 ⊢
    go_wp2_with fail
    refine wp_loop (fun a wq => ∃ k : Nat, k ≤ 62 ∧ GFrame (.pointer (some ⟨p, 0, none⟩)) (.pointer (some ⟨b, 0, none⟩)) (.string (B.bs t)) (.int .i64 (1 + nm.length : Nat)) (.slice (some ⟨g, 0, none⟩) nm.length cap) (.int .u8 32) (.int .u8 a0.toNat) (.bool false) (.slice (some ⟨T, 0, none⟩) 62 62) (.int .i64 62) (.int .i64 (k : Nat)) a ∧
        (∀ j, j < k → tagNames[j]? ≠ some nm) ∧ w6 = wq)
      (fun a _ => 62 - (intOf (a.tmps.getD 186 undef)).toNat) ⟨0, Nat.zero_le _, ⟨rfl, rfl, rfl, rfl, rfl, rfl, rfl, rfl, rfl, rfl, rfl, rfl, rfl⟩, fun j hj => by omega, rfl⟩ ?_
    rintro a wq ⟨k, hk, ha, hprev, rfl⟩
    obtain ⟨u, rfl⟩ := ha.open
    clear ha
    have hTl := s6.row_lt
    by_cases hlt : k < 62
    · have hkt : tagNames[k]? = some (tagNames[k]'hlt) := List.getElem?_eq_getElem hlt
      have hnn := tagNames_ne _ (List.getElem_mem hlt)
      have hcell : w6.cell? ⟨T, k, none⟩ = some (.string (B.bs (tagNames[k]'hlt))) := s6.cell k (by unfold strVals; rw [List.getElem?_map, hkt]; rfl)
      generalize tagNames[k]'hlt = name at hkt hnn hcell
      have hns : (B.bs name).size = name.length := rfl
      have hcv : ∀ w, w6 = w → (convert 44 9 (.slice (some ⟨g, 0, none⟩) nm.length cap)).run Tryz.prog w = .ok (.string (B.bs nm)) w := fun w hw => by
        subst hw
        exact conv_bytesR rfl (Sl.Sat.bytesR (s6.swap)).1
      have hcv0 := hcv w6 rfl
      obtain ⟨a1, q1, hname⟩ : ∃ a1 q1, name = a1 :: q1 := by
        cases name with
        | nil => exact absurd rfl hnn
        | cons a q => exact ⟨a, q, rfl⟩
      have hi1 : ∀ hh, (B.bs name)[0]'hh = a1 := fun hh => by
        have : name[0]? = some a1 := by rw [hname]; rfl
        exact (List.getElem?_eq_some_iff.1 this).2
      have hnp : 0 < name.length := by rw [hname]; simp
      have hnm0 : nm[0]? = some a0 := by rw [List.getElem?_eq_getElem hnpos, HA0.out]
      by_cases heq : name = nm
      · have ha1 : a1 = a0 := by
          rw [← heq, hname] at hnm0
          simpa using hnm0
        subst heq
        subst ha1
        have S6 := Lib.hid s6
        clear s6 hcv hname hnm0 hprev hkt
        go_wp2_with fail
        have s7 := S6.out.drop1.drop1
        have hsz : w6.heap.size = w6.heap.size := rfl
        generalize hQ : w6.heap.size = q at hsz ⊢
        have s8 := (s7.new (d := q) [.bool true, .slice none 0 0, .nilFunc] 358 hQ.symm).cast (show _ = Dsp pb oc v p * (R * (row q 358 [.bool true, .slice none 0 0, .nilFunc] * (row b 181 x.cells * F))) from by ac_rfl)
        have HAB := Lib.hid (addBlock_t pb p oc v v' R R' 356 (some ⟨q, 0, none⟩) _ _ HTR.out HDD.out.1 HDD.out.2.1 HDD.out.2.2 s8)
        clear s7 s8 S6
        refine HAB.out.mono ?_
        rintro e' w8 ⟨rfl, s9⟩
        clear HAB
        have s8 := s9.cast (show _ = row q 358 [.bool true, .slice none 0 0, .nilFunc] * (row b 181 x.cells * (Dsp pb oc { v' with obs := v'.obs ++ [⟨.iface 356 (.pointer (some ⟨q, 0, none⟩)), ⟨none, 0, 0⟩, [], v'.n, v'.n⟩] } p * (R' * F))) from by ac_rfl)
        have t0 : w8.cell? ⟨q, 1, none⟩ = some (.slice none 0 0) := s8.cell 1 rfl
        have tf := fun i => s8.frozen i
        have tl := s8.row_lt
        obtain ⟨z0, z1, z2, z3, z4, zf⟩ := line_cells s8.swap
        have zl := s8.swap.row_lt
        clear s9 HTR HDD hQ hsz
        have hA : ∀ m, Sat ((w8.drewN m).alloc (.cells #[.string (B.bs t)] 9)) (arr 9 1 (.slice none 0 0) 0 [] * (row w8.heap.size 9 [.string (B.bs t)] * (row q 358 [.bool true, .slice none 0 0, .nilFunc] * _))) := fun m => by
          rw [arr_nil, emp_star]
          exact (s8.drewN m).new (d := w8.heap.size) [.string (B.bs t)] 9 (by simp)
        have hK : ∀ m o, ((w8.drewN m).alloc o).cell? ⟨q, 1, none⟩ = some (.slice none 0 0) := fun m o => by
          rw [World.cell?_alloc_lt _ _ _ (by simpa using tl)]; exact t0
        go_wp2_with fail
        go_region_law (first
          | (go_simp; go_at_call 190; (first | refine (string_w _ x w8.drew _ hx s8.swap.drew).mono ?_ | refine (string_w _ x _ _ hx (s8.swap.drewN _)).mono ?_); rw [HST.out]; rintro e7 w7 ⟨rfl, m7, rfl⟩)
          | (refine step_append_sl (by rfl) (.tmp 225) (.tmp 228) 31 (by rfl) 9 i0 (.string ⟨#[]⟩) 1 16 Tryz.underlying31 hi9 hz0 hz1 hz2 rfl (.slice none 0 0) 0 [] (by rfl) (hA _) ⟨w8.heap.size, 0, none⟩ 1 1 [.string (B.bs t)] (by rfl) rfl (cells_new _ _ _) (by intro u hu; simp at hu; rcases hu with rfl; rfl) (by unfold maxLen; omega) (by decide) (by decide) ?_; intro g7 c7 w7 s9 z9; have k7 : w7.cell? ⟨q, 1, none⟩ = some (.slice none 0 0) := s9.third.cell 1 rfl; have kf := fun i => s9.third.frozen i))
        all_goals
          have s10 := s9.third.set 1 (.slice (some ⟨g7, 0, none⟩) 1 c7)
          have s11 := s10.cast (show _ = row w8.heap.size 9 [.string (B.bs t)] * (row q 358 [.bool true, .slice (some ⟨g7, 0, none⟩) 1 c7, .nilFunc] * (row b 181 x.cells * (arr 9 1 (.slice (some ⟨g7, 0, none⟩) 1 c7) 1 [.string (B.bs t)] * (Dsp pb oc { v' with obs := v'.obs ++ [⟨.iface 356 (.pointer (some ⟨q, 0, none⟩)), ⟨none, 0, 0⟩, [], v'.n, v'.n⟩] } p * (R' * F))))) from by
            show row q 358 [.bool true, .slice (some ⟨g7, 0, none⟩) 1 c7, .nilFunc] * (arr 9 1 (.slice (some ⟨g7, 0, none⟩) 1 c7) 1 [.string (B.bs t)] * (row w8.heap.size 9 [.string (B.bs t)] * (row b 181 x.cells * _))) = _
            ac_rfl)
          have S12 := Lib.hid s11.drop1
          clear s9 s10 s11 k7 kf hA hK s8 t0 z0 z1 z2 z3 z4 zf tf
          go_wp2
          rw [Exit.noGoto_ret]
          refine bodyPost_ret (v := .bool true) (by simp [results, Tryz.results204, go_sem]) rfl ⟨rfl, ⟨q, ⟨some ⟨g7, 0, none⟩, 1, c7⟩, 0, .nilFunc⟩, rfl, ?_⟩
          refine S12.out.cast ?_
          show _ = Dsp pb oc { v' with obs := v'.obs ++ [⟨.iface 356 (.pointer (some ⟨q, 0, none⟩)), ⟨none, 0, 0⟩, [], v'.n, v'.n⟩] } p * ((row q 358 [.bool true, .slice (some ⟨g7, 0, none⟩) 1 c7, .nilFunc] * (arr 9 1 (.slice (some ⟨g7, 0, none⟩) 1 c7) 1 [.string (B.bs t)] * emp)) * (R' * (row b 181 x.cells * F)))
          rw [star_emp]
          ac_rfl

      · have hprev' : ∀ j, j < k + 1 → tagNames[j]? ≠ some nm := by
          intro j hj
          by_cases hjk : j = k
          · subst hjk; rw [hkt]; intro e; exact heq (Option.some.inj e)
          · exact hprev j (by omega)
        have HPV := Lib.hid hprev'
        have S6 := Lib.hid s6
        by_cases h1 : a1 = a0
        · have hlist : ¬ (B.bs name).toList = (B.bs nm).toList := by
            rw [Lib.toList_data, Lib.toList_data, B.bs_data, B.bs_data]
            exact heq
          have hbeq : ((B.bs name).toList == (B.bs nm).toList) = false := by simpa using hlist
          subst h1
          by_cases h2 : name.length = nm.length
          · have h2' : ((name.length : Int) == (nm.length : Int)) = true := by rw [h2]; simp
            clear s6 hcv hname hnm0 hprev hkt heq hprev' hlist h2
            go_wp2
            refine ⟨⟨k + 1, by omega, ⟨rfl, rfl, rfl, rfl, rfl, rfl, rfl, rfl, rfl, rfl, rfl, rfl, rfl⟩, HPV.out, (by first | trivial | rfl)⟩, ?_⟩
            show 62 - ((k : Int) + 1).toNat < 62 - (k : Int).toNat
            omega
          · have h2' : ((name.length : Int) == (nm.length : Int)) = false := by simp; omega
            clear s6 hcv hname hnm0 hprev hkt heq hprev' hlist h2
            go_wp2
            refine ⟨⟨k + 1, by omega, ⟨rfl, rfl, rfl, rfl, rfl, rfl, rfl, rfl, rfl, rfl, rfl, rfl, rfl⟩, HPV.out, (by first | trivial | rfl)⟩, ?_⟩
            show 62 - ((k : Int) + 1).toNat < 62 - (k : Int).toNat
            omega
        · have h1' : ((a1.toNat : Int) == (a0.toNat : Int)) = false := u8_ne h1
          clear s6 hcv hname hnm0 hprev hkt heq hprev' h1
          go_wp2
          refine ⟨⟨k + 1, by omega, ⟨rfl, rfl, rfl, rfl, rfl, rfl, rfl, rfl, rfl, rfl, rfl, rfl, rfl⟩, HPV.out, (by first | trivial | rfl)⟩, ?_⟩
          show 62 - ((k : Int) + 1).toNat < 62 - (k : Int).toNat
          omega
    · exfalso
      obtain ⟨j, hj⟩ := List.getElem?_of_mem hin
      have hjl := (List.getElem?_eq_some_iff.1 hj).1
      have h62 : tagNames.length = 62 := by decide
      exact hprev j (by omega) hj


end Go.Proofs.YtbfmmikllelfeaaGreatDoor
