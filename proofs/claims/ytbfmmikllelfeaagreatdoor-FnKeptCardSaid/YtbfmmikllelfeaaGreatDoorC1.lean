/- Code spans: zzReplaceAll where nothing is to be replaced, trimSpace. -/
import Derived.Test.YtbfmmikllelfeaaGreatDoorSb
import Derived.Test.YtbfmmikllelfeaaGreatDoorSl
import Derived.Test.YtbfmmikllelfeaaGreatDoorN2
import Derived.Test.YtbfmmikllelfeaaGreatDoorB
import Derived.Test.YtbfmmikllelfeaaGreatDoorKi
import Derived.Test.YtbfmmikllelfeaaGreatDoorI3
import Derived.Test.YtbfmmikllelfeaaGreatDoorN8
import Derived.Laws.CopyRow
namespace Go.Proofs.YtbfmmikllelfeaaGreatDoor
open Go.RowKit Sl

set_option maxRecDepth 100000 in
set_option maxHeartbeats 1000000 in
theorem trimSpaceF_w (s : List UInt8) (w : World) (hs : s.length ≤ 1000000000000) :
    Calls Tryz.prog 157 #[.string (B.bs s)] w fun e w' => e = .returned (.string (B.bs (B.trimR (B.trimL s)))) ∧ w = w' := by
  go_enter Tryz.func157, Tryz.ntmps157
  go_wp2
  go_loopw [3] (fun i wr => ∃ k : Nat, k ≤ s.length ∧ i = .int .i64 k ∧ B.trimL s = B.trimL (s.drop k) ∧ w = wr) (fun i _ => s.length - (intOf i).toNat)
  case atStart => exact ⟨0, Nat.zero_le _, rfl, rfl, rfl⟩
  case round =>
    obtain ⟨k, hk, rfl, hn, rfl⟩ := hrel
    have HN := Lib.hid hn
    clear hn
    have hz : (B.bs s).size = s.length := rfl
    by_cases hlt : k < s.length ∧ B.isST (s[k]?.getD 0) = true
    · obtain ⟨hlt, hst⟩ := hlt
      generalize hc : s[k] = c
      have hix : ∀ h, (B.bs s)[k]'h = c := fun _ => hc
      have HIX := Lib.hid hix
      have hst2 : B.isST c = true := by rw [← hc]; simpa [hlt] using hst
      have hd : s.drop k = c :: s.drop (k + 1) := by rw [List.drop_eq_getElem_cons hlt, hc]
      have HD := Lib.hid hd
      clear hd hst
      have hcc : c = 32 ∨ c = 9 := by simpa [B.isST] using hst2
      rcases hcc with rfl | rfl
      all_goals
        go_wp2
        go_roundw
        case rel => exact ⟨k + 1, by omega, by go_num, by rw [HN.out, HD.out]; rfl, by first | trivial | rfl⟩
        case measure => simp [intOf]; omega
    · have hT : B.trimL s = s.drop k := by
        rw [HN.out]
        by_cases hlt2 : k < s.length
        · have h2 : B.isST s[k] = false := by
            cases h : B.isST s[k] with
            | false => rfl
            | true => exact absurd ⟨hlt2, by simpa [hlt2] using h⟩ hlt
          rw [List.drop_eq_getElem_cons hlt2, B.trimL, List.dropWhile_cons, h2]; rfl
        · rw [List.drop_eq_nil_of_le (by omega)]; rfl
      have hex : (B.bs s).extract k s.length = B.bs (s.drop k) := by rw [← hz, B.extract_end, B.bs_data]
      have hlen : s.length - k = (s.drop k).length := by simp
      have hzb : (s.drop k).length ≤ 1000000000000 := by simp; omega
      by_cases hlt2 : k < s.length
      · generalize hc : s[k] = c
        have hix : ∀ h, (B.bs s)[k]'h = c := fun _ => hc
        have hcf : B.isST c = false := by
          cases h : B.isST c with
          | false => rfl
          | true => exact absurd ⟨hlt2, by rw [← hc] at h; simpa [hlt2] using h⟩ hlt
        have h32 : ((c.toNat : Int) == 32) = false := u8_ne (b := 32) (by rintro rfl; simp [B.isST] at hcf)
        have h9 : ((c.toNat : Int) == 9) = false := u8_ne (b := 9) (by rintro rfl; simp [B.isST] at hcf)
        clear hlt hcf
        generalize s.drop k = t at hex hlen hzb hT
        have hzt : (B.bs t).size = t.length := rfl
        have HT := Lib.hid hT
        clear hT HN
        go_wp2
        try rw [hex]
        try rw [hlen]
        go_loopw [4] (fun i wr => ∃ j : Nat, j ≤ t.length ∧ i = .int .i64 j ∧ B.trimR t = B.trimR (t.take j) ∧ w = wr) (fun i _ => (intOf i).toNat)
        case atStart => exact ⟨t.length, Nat.le_refl _, rfl, by rw [List.take_of_length_le (Nat.le_refl _)], by first | trivial | rfl⟩
        case round =>
          obtain ⟨j, hj, rfl, hn, rfl⟩ := hrel
          have HN := Lib.hid hn
          clear hn
          cases j with
          | zero =>
            go_wp2
            go_ret
            refine ⟨ret_str ?_, rfl⟩
            rw [HT.out, HN.out]; rfl
          | succ j =>
            generalize hc : t[j] = c
            have hix : ∀ h, (B.bs t)[j]'h = c := fun _ => hc
            by_cases hst : B.isST c = true
            · have hR := B.trimR_step (l := t) (k := j) (by omega) (by rw [hc]; exact hst)
              have hcc : c = 32 ∨ c = 9 := by simpa [B.isST] using hst
              rw [hR] at HN
              rcases hcc with rfl | rfl
              all_goals
                go_wp2
                go_roundw
                case rel => exact ⟨j, by omega, by go_num, HN.out, by first | trivial | rfl⟩
                case measure => simp [intOf]
            · have hR := B.trimR_stop (l := t) (k := j) (by omega) (by rw [hc]; simpa using hst)
              have hcf : B.isST c = false := by simpa using hst
              have h32 : ((c.toNat : Int) == 32) = false := u8_ne (b := 32) (by rintro rfl; simp [B.isST] at hcf)
              have h9 : ((c.toNat : Int) == 9) = false := u8_ne (b := 9) (by rintro rfl; simp [B.isST] at hcf)
              go_wp2
              go_ret
              refine ⟨ret_str ?_, rfl⟩
              rw [HT.out, HN.out, hR, B.extract_zero, B.bs_data]
      · obtain rfl : k = s.length := by omega
        have HT := Lib.hid (show B.trimL s = [] from by rw [hT]; simp)
        clear hlt hT HN
        go_wp2
        go_loopw [4] (fun i wr => i = .int .i64 0 ∧ w = wr) (fun _ _ => 0)
        case atStart => first | exact ⟨rfl, rfl⟩ | exact ⟨rfl, trivial⟩
        case round =>
          obtain ⟨rfl, rfl⟩ := hrel
          go_wp2
          go_ret
          refine ⟨ret_str ?_, rfl⟩
          rw [HT.out]; rfl


theorem idx_none_nl {s : List UInt8} (h : (10 : UInt8) ∉ s) : B.idx s [10] = -1 := B.idx_none h

set_option maxRecDepth 100000 in
set_option maxHeartbeats 1000000 in
theorem replaceAll_none (s : List UInt8) (new : ByteArray) (w : World) (F : HP) (hne : s ≠ []) (hs : s.length ≤ 1000000000) (h10 : (10 : UInt8) ∉ s) (h : Sat w F) :
    Calls Tryz.prog 87 #[.string (B.bs s), .string ⟨#[10]⟩, .string new] w fun e w' => e = .returned (.string (B.bs s)) ∧ Sat w' F := by
  have hz : (B.bs s).size = s.length := rfl
  have hsl : 0 < (B.bs s).size := by rw [hz]; exact List.length_pos_iff.2 hne
  obtain ⟨i0, hi, hz0, hz1, hz2⟩ := info_parts info_byte
  have hZ := fun w => zzIndex_nl s w (by rw [hz]; omega)
  rw [idx_none_nl h10] at hZ
  have HZ := Lib.hid hZ
  have HB := Lib.hid (show Sat w (arr 5 1 (.slice none 0 0) 0 [] * F) from by rw [arr_nil, emp_star]; exact h)
  clear hZ h h10
  go_enter Tryz.func87, Tryz.ntmps87
  go_wp2
  refine wp_loop_once ?_
  go_wp2_with fail
  refine (HZ.out w).mono ?_
  rintro e w1 ⟨rfl, rfl⟩
  go_wp2_with (at_builtin; refine wpList_append_str rfl (.tmp 14) (.tmp 15) 44 9 rfl 5 i0 Tryz.underlying44 Tryz.underlying9 hi hz0 hz1 hz2 (.slice none 0 0) 0 [] (by rfl) HB.out (B.bs s) (by rfl) hsl (by rw [hz]; omega) ?_)
  intro g2 cap2 w2 hs1
  rw [strCells_map] at hs1
  obtain ⟨hb, hg⟩ := hs1.bytesR
  have hcv := conv_bytesR (c := cap2) rfl hb
  have H := Lib.hid hs1
  generalize hA : s = A at *
  clear hs1
  go_wp2
  go_ret
  exact ⟨by rw [hA]; rfl, H.out.drop1⟩

end Go.Proofs.YtbfmmikllelfeaaGreatDoor

/- Code spans: parseCodeSpan where the span ends. -/
namespace Go.Proofs.YtbfmmikllelfeaaGreatDoor
open Go.RowKit Sl

/-- The runs of backquotes seen, as long as no search has failed. -/
def BtOk (bt : List Value) : Prop := bt.length = 81 ∧ bt[80]? = some (.bool false) ∧ ∀ j, j < 80 → ∃ z : Int, bt[j]? = some (.int .i64 z)

theorem BtOk.set {bt : List Value} (h : BtOk bt) (j : Nat) (hj : j < 80) (z : Int) : BtOk (bt.set j (.int .i64 z)) := by
  obtain ⟨h1, h2, h3⟩ := h
  refine ⟨by rw [List.length_set]; exact h1, by rw [List.getElem?_set_ne (by omega)]; exact h2, fun k hk => ?_⟩
  by_cases hjk : j = k
  · subst hjk
    exact ⟨z, by rw [List.getElem?_set_self (by omega)]⟩
  · rw [List.getElem?_set_ne hjk]
    exact h3 k hk

theorem PSt.bt_at (x : PSt) (j : Nat) : x.cells[12 + j]? = x.bt[j]? := by
  unfold PSt.cells
  rw [List.getElem?_append_right (by simp)]
  congr 1
  simp

theorem PSt.bt_set (x : PSt) (j : Nat) (v : Value) : x.cells.set (12 + j) v = { x with bt := x.bt.set j v }.cells := by
  unfold PSt.cells
  rw [List.set_append_right _ _ (by simp)]
  simp

/-- A frame of 160 temporaries, of which 0, 1, 2, 3, 12, 13, 14 are known. -/
def CFrame (v0 v1 v2 v3 v12 v13 v14 : Value) (a : Act) : Prop := a.defers = [] ∧ a.tmps.size = 160 ∧ a.tmps[0]? = some v0 ∧ a.tmps[1]? = some v1 ∧ a.tmps[2]? = some v2 ∧ a.tmps[3]? = some v3 ∧ a.tmps[12]? = some v12 ∧ a.tmps[13]? = some v13 ∧ a.tmps[14]? = some v14

set_option maxRecDepth 100000 in
theorem CFrame.open {v0 v1 v2 v3 v12 v13 v14 : Value} {a : Act} (h : CFrame v0 v1 v2 v3 v12 v13 v14 a) : ∃ u : Nat → Value, a = ⟨#[v0, v1, v2, v3, u 4, u 5, u 6, u 7, u 8, u 9, u 10, u 11, v12, v13, v14, u 15, u 16, u 17, u 18, u 19, u 20, u 21, u 22, u 23, u 24, u 25, u 26, u 27, u 28, u 29, u 30, u 31, u 32, u 33, u 34, u 35, u 36, u 37, u 38, u 39, u 40, u 41, u 42, u 43, u 44, u 45, u 46, u 47, u 48, u 49, u 50, u 51, u 52, u 53, u 54, u 55, u 56, u 57, u 58, u 59, u 60, u 61, u 62, u 63, u 64, u 65, u 66, u 67, u 68, u 69, u 70, u 71, u 72, u 73, u 74, u 75, u 76, u 77, u 78, u 79, u 80, u 81, u 82, u 83, u 84, u 85, u 86, u 87, u 88, u 89, u 90, u 91, u 92, u 93, u 94, u 95, u 96, u 97, u 98, u 99, u 100, u 101, u 102, u 103, u 104, u 105, u 106, u 107, u 108, u 109, u 110, u 111, u 112, u 113, u 114, u 115, u 116, u 117, u 118, u 119, u 120, u 121, u 122, u 123, u 124, u 125, u 126, u 127, u 128, u 129, u 130, u 131, u 132, u 133, u 134, u 135, u 136, u 137, u 138, u 139, u 140, u 141, u 142, u 143, u 144, u 145, u 146, u 147, u 148, u 149, u 150, u 151, u 152, u 153, u 154, u 155, u 156, u 157, u 158, u 159], []⟩ := by
  obtain ⟨t, d⟩ := a
  obtain ⟨h1, h2, k0, k1, k2, k3, k12, k13, k14⟩ := h
  obtain ⟨l⟩ := t
  have hl : l.length = 160 := h2
  have e := list_range l
  rw [hl] at e
  simp only at h1
  subst h1
  have e0 : l[0]?.getD undef = v0 := by
    have : l[0]? = some v0 := by simpa using k0
    rw [this]; rfl
  have e1 : l[1]?.getD undef = v1 := by
    have : l[1]? = some v1 := by simpa using k1
    rw [this]; rfl
  have e2 : l[2]?.getD undef = v2 := by
    have : l[2]? = some v2 := by simpa using k2
    rw [this]; rfl
  have e3 : l[3]?.getD undef = v3 := by
    have : l[3]? = some v3 := by simpa using k3
    rw [this]; rfl
  have e12 : l[12]?.getD undef = v12 := by
    have : l[12]? = some v12 := by simpa using k12
    rw [this]; rfl
  have e13 : l[13]?.getD undef = v13 := by
    have : l[13]? = some v13 := by simpa using k13
    rw [this]; rfl
  have e14 : l[14]?.getD undef = v14 := by
    have : l[14]? = some v14 := by simpa using k14
    rw [this]; rfl
  refine ⟨fun i => l[i]?.getD undef, ?_⟩
  rw [← e0, ← e1, ← e2, ← e3, ← e12, ← e13, ← e14]
  have e' : (⟨⟨l⟩, []⟩ : Act) = ⟨((List.range 160).map fun i => l[i]?.getD undef).toArray, []⟩ := by rw [← e]
  exact e'

set_option maxRecDepth 100000 in
set_option maxHeartbeats 4000000 in
theorem parseCode_w (p : Nat) (s : List UInt8) (i n e : Nat) (u : List UInt8) (x : PSt) (F : HP) (w : World) (hsl : s.length ≤ 1000000000) (h0 : tickRun s i = n) (h1 : 1 ≤ n) (h2 : n ≤ 80) (hc : CodeTo s n e (i + n))
    (hu : (s.take e).drop (i + n) = 32 :: (u ++ [32])) (hnl : (10 : UInt8) ∉ u) (hb : ∃ c ∈ u, c ≠ 32 ∧ c ≠ 9) (hbt : BtOk x.bt) (hs : Sat w (row p 173 x.cells * F)) :
    Calls Tryz.prog 111 #[.pointer (some ⟨p, 12, none⟩), .pointer (some ⟨p, 0, none⟩), .string (B.bs s), .int .i64 i] w fun e' w' => ∃ (v : Value) (bt : List Value), BtOk bt ∧ e' = .returned (.tuple #[v, .int .i64 i, .int .i64 (e + n : Nat), .bool true]) ∧
      Sat w' (TokAt v (.code u) * (row p 173 { x with bt := bt }.cells * F)) := by
  have hz : (B.bs s).size = s.length := rfl
  obtain ⟨hile, helen, hrun⟩ := hc.le h1
  have hcnt : ∀ k, k < n → ∀ h, (B.bs s)[i + k]'h = 96 := fun k hk h => by
    have := tickRun_at (s := s) (i := i) (j := k) (by omega)
    obtain ⟨_, hq⟩ := List.getElem?_eq_some_iff.1 this
    exact hq
  have hend : i + n < s.length → ∃ c, c ≠ 96 ∧ ∀ h, (B.bs s)[i + n]'h = c := fun hl => by
    refine ⟨s[i + n], ?_, fun _ => rfl⟩
    intro hq
    have := tickRun_end (s := s) (i := i)
    rw [h0, List.getElem?_eq_getElem hl, hq] at this
    exact this rfl
  have HC := Lib.hid hc
  have HN := Lib.hid hcnt
  have HE := Lib.hid hend
  have HU := Lib.hid hu
  have HNL := Lib.hid hnl
  have HB := Lib.hid hb
  have HBT := Lib.hid hbt
  have HS := Lib.hid hs
  clear hc hcnt hend hu hnl hb hbt hs h0 hrun
  go_enter Tryz.func111, Tryz.ntmps111
  go_wp2
  go_step3
  go_wp2
  go_loopw [13] (fun v wr => ∃ k : Nat, 1 ≤ k ∧ k ≤ n ∧ v = .int .i64 k ∧ w = wr) (fun v _ => n - (intOf v).toNat)
  case atStart => exact ⟨1, Nat.le_refl _, h1, rfl, rfl⟩
  case round =>
    obtain ⟨k, hk1, hk, rfl, rfl⟩ := hrel
    by_cases hlt : k < n
    · have hix := HN.out k hlt
      go_wp2
      go_roundw
      case rel => exact ⟨k + 1, by omega, by omega, by go_num, by first | trivial | rfl⟩
      case measure => simp [intOf]; omega
    · obtain rfl : k = n := by omega
      clear HN
      have s1 := HS.out
      obtain ⟨b1, b2, b3⟩ := HBT.out
      have c92 : w.cell? ⟨p, 92, none⟩ = some (.bool false) := s1.cell 92 ((x.bt_at 80).trans b2)
      clear s1
      have hex : ∃ c : UInt8, (i + k < s.length → ∀ h, (B.bs s)[i + k]'h = c) ∧ (((c.toNat : Int) == 96) = false) := by
        by_cases hl : i + k < s.length
        · obtain ⟨c, hc, hix⟩ := HE.out hl
          exact ⟨c, fun _ => hix, u8_ne (b := 96) hc⟩
        · exact ⟨0, fun h => absurd h hl, by decide⟩
      obtain ⟨c, hix, hcc⟩ := hex
      have hl : i + k < s.length := by omega
      have hix := hix hl
      go_wp2
      have HCC := Lib.hid hcc
      clear hix hcc c92 b1 b2 b3
      refine wp_loop (fun a wr => ∃ (k2 : Nat) (bt : List Value), BtOk bt ∧ CFrame (.pointer (some ⟨p, 12, none⟩)) (.pointer (some ⟨p, 0, none⟩)) (.string (B.bs s)) (.int .i64 i) (.int .i64 i) (.int .i64 k) (.int .i64 k2) a ∧ CodeTo s k e k2 ∧ Sat wr (row p 173 { x with bt := bt }.cells * F))
        (fun a _ => s.length - (intOf (a.tmps.getD 14 undef)).toNat) ⟨i + k, x.bt, HBT.out, ⟨rfl, rfl, rfl, rfl, rfl, rfl, rfl, rfl, rfl⟩, HC.out, HS.out⟩ ?_
      rintro a wr ⟨k2, bt, hbt, ha, hct, h⟩
      clear HC HS HBT HE HCC
      obtain ⟨t, rfl⟩ := ha.open
      clear ha
      have hle := hct.le h1
      have hlt2 : k2 < s.length := by omega
      cases hct with
      | skip hk hc' ht =>
        obtain ⟨hl2, hq⟩ := List.getElem?_eq_some_iff.1 hk
        rename_i c'
        have hix : ∀ h, (B.bs s)[k2]'h = c' := fun _ => hq
        have hcc : ((c'.toNat : Int) == 96) = false := u8_ne (b := 96) hc'
        have hcc2 : ((c'.toNat : Int) != 96) = true := by rw [bne, hcc]; rfl
        have HBT := Lib.hid hbt
        have HT := Lib.hid ht
        clear hk hq hbt ht
        go_wp2
        refine ⟨⟨k2 + 1, bt, HBT.out, ⟨rfl, rfl, rfl, rfl, rfl, rfl, rfl, rfl, rfl⟩, HT.out, h⟩, ?_⟩
        show s.length - ((k2 : Int) + 1).toNat < s.length - (k2 : Int).toNat
        omega
      | hit ht =>
        have hix0 : ∀ h, (B.bs s)[e]'h = 96 := fun _ => (List.getElem?_eq_some_iff.1 (tickRun_at (s := s) (i := e) (j := 0) (by omega))).2
        have hq1 : ∀ j, j < tickRun s e → ∀ h, (B.bs s)[e + j]'h = 96 := fun j hj _ => (List.getElem?_eq_some_iff.1 (tickRun_at (s := s) (i := e) hj)).2
        have hq2 : e + tickRun s e < s.length → ∃ c : UInt8, (∀ h, (B.bs s)[e + tickRun s e]'h = c) ∧ ((c.toNat : Int) == 96) = false := fun hl => by
          refine ⟨s[e + tickRun s e], fun _ => rfl, u8_ne (b := 96) ?_⟩
          intro hq
          have := tickRun_end (s := s) (i := e)
          rw [List.getElem?_eq_getElem hl, hq] at this
          exact this rfl
        rw [ht] at hq1 hq2
        obtain ⟨m, rfl⟩ : ∃ j, k = j + 1 := ⟨k - 1, by omega⟩
        have hcut : (B.bs s).extract (i + (m + 1)) e = B.bs (32 :: (u ++ [32])) := by rw [B.extract_bs, B.bs_data, ← HU.out, List.drop_take]
        have hsub : (B.bs (32 :: (u ++ [32]))).extract 1 (u.length + 1) = B.bs u := by
          rw [B.extract_bs, B.bs_data]
          simp
        have hTz : (B.bs (32 :: (u ++ [32]))).size = u.length + 2 := by rw [B.bs_size]; simp
        have hul : u.length + 2 ≤ s.length := by
          have := congrArg List.length HU.out
          simp at this
          omega
        have hT0 : ∀ h, (B.bs (32 :: (u ++ [32])))[0]'h = 32 := fun _ => rfl
        have hT1 : ∀ h, (B.bs (32 :: (u ++ [32])))[u.length + 1]'h = 32 := fun _ => by
          have h9 : (32 :: (u ++ [32]))[u.length + 1]? = some 32 := by simp
          exact (List.getElem?_eq_some_iff.1 h9).2
        have hrep := fun w F hs => replaceAll_none (32 :: (u ++ [32])) ⟨#[32]⟩ w F (by simp) (by simp; omega) (by have := HNL.out; simp [this]) hs
        have htrim := fun w => trimSpaceF_w (32 :: (u ++ [32])) w (by simp; omega)
        have hne : (B.bs (B.trimR (B.trimL (32 :: (u ++ [32]))))).toList.isEmpty = false := by
          obtain ⟨c, hc1, hc2⟩ := HB.out
          have := trimR_ink (s := 32 :: (u ++ [32])) ⟨c, by simp [hc1], hc2⟩
          rw [Lib.toList_data, B.bs_data]
          cases hx : B.trimR (B.trimL (32 :: (u ++ [32]))) with
          | nil => exact absurd hx this
          | cons => rfl
        generalize B.trimR (B.trimL (32 :: (u ++ [32]))) = tr at *
        generalize (32 :: (u ++ [32])) = T at *
        have REP := Lib.hid hrep
        have TRIM := Lib.hid htrim
        have HBT := Lib.hid hbt
        have H1 := Lib.hid hq1
        have H2 := Lib.hid hq2
        clear hbt hq1 hq2 ht hrep htrim
        go_wp2
        go_loopw [14] (fun v wx => ∃ j : Nat, j ≤ m + 1 ∧ v = .int .i64 ((e : Int) + (j : Int)) ∧ wr = wx) (fun v _ => s.length - (intOf v).toNat)
        case atStart => exact ⟨0, Nat.zero_le _, by simp, rfl⟩
        case round =>
          obtain ⟨j, hj, rfl, rfl⟩ := hrel
          by_cases hjm : j < m + 1
          · have hix := H1.out j hjm
            clear hix0
            go_wp2
            go_roundw
            case rel => exact ⟨j + 1, by omega, by go_num, by first | trivial | rfl⟩
            case measure => simp [intOf]; omega
          · obtain rfl : j = m + 1 := by omega
            obtain ⟨b1, b2, b3⟩ := HBT.out
            have c92 : wr.cell? ⟨p, 92, none⟩ = some (.bool false) := h.cell 92 ((PSt.bt_at { x with bt := bt } 80).trans b2)
            clear hix0
            by_cases hl2 : e + (m + 1) < s.length
            · obtain ⟨c2, hix, hc2⟩ := H2.out hl2
              by_cases h80 : m + 1 < 80
              · obtain ⟨z, hz2⟩ := b3 m (by omega)
                have cm : wr.cell? ⟨p, 12 + m, none⟩ = some (.int .i64 z) := h.cell (12 + m) ((PSt.bt_at { x with bt := bt } m).trans hz2)
                have kf := fun i => h.frozen i
                have s9 := h.set (12 + m) (.int .i64 e)
                rw [PSt.bt_set] at s9
                have S9 := Lib.hid s9
                clear b1 b2 b3 hz2 s9
                go_wp2_with fail
                refine (REP.out _ _ (S9.out)).mono ?_
                rintro e6 w6 ⟨rfl, s6⟩
                have S6 := Lib.hid s6
                clear s6
                go_wp2_with fail
                refine (TRIM.out w6).mono ?_
                rintro e7 w7 ⟨rfl, rfl⟩
                go_wp2
                rw [Exit.noGoto_ret]
                refine bodyPost_ret (v := .tuple #[.iface 239 (.pointer (some ⟨w6.heap.size, 0, none⟩)), .int .i64 i, .int .i64 ((e : Int) + ((m : Int) + 1)), .bool true]) (by simp [results, Tryz.results111, go_sem]) rfl ⟨_, bt.set m (.int .i64 e), HBT.out.set m (by omega) e, rfl, ?_⟩
                have s8 := S6.out.new (d := w6.heap.size) [.string (B.bs u)] 240 rfl
                exact Sat.ex_mk w6.heap.size (s8.cast (by rw [pur_star rfl]))
              · clear b1 b2 b3
                go_wp2_with fail
                refine (REP.out _ _ (h)).mono ?_
                rintro e6 w6 ⟨rfl, s6⟩
                have S6 := Lib.hid s6
                clear s6
                go_wp2_with fail
                refine (TRIM.out w6).mono ?_
                rintro e7 w7 ⟨rfl, rfl⟩
                go_wp2
                rw [Exit.noGoto_ret]
                refine bodyPost_ret (v := .tuple #[.iface 239 (.pointer (some ⟨w6.heap.size, 0, none⟩)), .int .i64 i, .int .i64 ((e : Int) + ((m : Int) + 1)), .bool true]) (by simp [results, Tryz.results111, go_sem]) rfl ⟨_, bt, HBT.out, rfl, ?_⟩
                have s8 := S6.out.new (d := w6.heap.size) [.string (B.bs u)] 240 rfl
                exact Sat.ex_mk w6.heap.size (s8.cast (by rw [pur_star rfl]))
            · by_cases h80 : m + 1 < 80
              · obtain ⟨z, hz2⟩ := b3 m (by omega)
                have cm : wr.cell? ⟨p, 12 + m, none⟩ = some (.int .i64 z) := h.cell (12 + m) ((PSt.bt_at { x with bt := bt } m).trans hz2)
                have kf := fun i => h.frozen i
                have s9 := h.set (12 + m) (.int .i64 e)
                rw [PSt.bt_set] at s9
                have S9 := Lib.hid s9
                clear b1 b2 b3 hz2 s9
                go_wp2_with fail
                refine (REP.out _ _ (S9.out)).mono ?_
                rintro e6 w6 ⟨rfl, s6⟩
                have S6 := Lib.hid s6
                clear s6
                go_wp2_with fail
                refine (TRIM.out w6).mono ?_
                rintro e7 w7 ⟨rfl, rfl⟩
                go_wp2
                rw [Exit.noGoto_ret]
                refine bodyPost_ret (v := .tuple #[.iface 239 (.pointer (some ⟨w6.heap.size, 0, none⟩)), .int .i64 i, .int .i64 ((e : Int) + ((m : Int) + 1)), .bool true]) (by simp [results, Tryz.results111, go_sem]) rfl ⟨_, bt.set m (.int .i64 e), HBT.out.set m (by omega) e, rfl, ?_⟩
                have s8 := S6.out.new (d := w6.heap.size) [.string (B.bs u)] 240 rfl
                exact Sat.ex_mk w6.heap.size (s8.cast (by rw [pur_star rfl]))
              · clear b1 b2 b3
                go_wp2_with fail
                refine (REP.out _ _ (h)).mono ?_
                rintro e6 w6 ⟨rfl, s6⟩
                have S6 := Lib.hid s6
                clear s6
                go_wp2_with fail
                refine (TRIM.out w6).mono ?_
                rintro e7 w7 ⟨rfl, rfl⟩
                go_wp2
                rw [Exit.noGoto_ret]
                refine bodyPost_ret (v := .tuple #[.iface 239 (.pointer (some ⟨w6.heap.size, 0, none⟩)), .int .i64 i, .int .i64 ((e : Int) + ((m : Int) + 1)), .bool true]) (by simp [results, Tryz.results111, go_sem]) rfl ⟨_, bt, HBT.out, rfl, ?_⟩
                have s8 := S6.out.new (d := w6.heap.size) [.string (B.bs u)] 240 rfl
                exact Sat.ex_mk w6.heap.size (s8.cast (by rw [pur_star rfl]))
      | run hm hn ht =>
        have hix0 : ∀ h, (B.bs s)[k2]'h = 96 := fun _ => (List.getElem?_eq_some_iff.1 (tickRun_at (s := s) (i := k2) (j := 0) hm)).2
        have hq1 : ∀ j, j < tickRun s k2 → ∀ h, (B.bs s)[k2 + j]'h = 96 := fun j hj _ => (List.getElem?_eq_some_iff.1 (tickRun_at (s := s) (i := k2) hj)).2
        have hq2 : k2 + tickRun s k2 < s.length → ∃ c : UInt8, (∀ h, (B.bs s)[k2 + tickRun s k2]'h = c) ∧ ((c.toNat : Int) == 96) = false := fun hl => by
          refine ⟨s[k2 + tickRun s k2], fun _ => rfl, u8_ne (b := 96) ?_⟩
          intro hq
          have := tickRun_end (s := s) (i := k2)
          rw [List.getElem?_eq_getElem hl, hq] at this
          exact this rfl
        have hle3 := tickRun_le (s := s) (i := k2) (by omega)
        have hme := (ht.le h1).1
        generalize tickRun s k2 = m at *
        obtain ⟨m, rfl⟩ : ∃ j, m = j + 1 := ⟨m - 1, by omega⟩
        have HBT := Lib.hid hbt
        have HT := Lib.hid ht
        have H1 := Lib.hid hq1
        have H2 := Lib.hid hq2
        have HN := Lib.hid hn
        clear hbt ht hq1 hq2 hn
        go_wp2
        go_loopw [14] (fun v wx => ∃ j : Nat, j ≤ m + 1 ∧ v = .int .i64 ((k2 : Int) + (j : Int)) ∧ wr = wx) (fun v _ => s.length - (intOf v).toNat)
        case atStart => exact ⟨0, Nat.zero_le _, by simp, rfl⟩
        case round =>
          obtain ⟨j, hj, rfl, rfl⟩ := hrel
          by_cases hjm : j < m + 1
          · have hix := H1.out j hjm
            clear hix0
            go_wp2
            go_roundw
            case rel => exact ⟨j + 1, by omega, by go_num, by first | trivial | rfl⟩
            case measure => simp [intOf]; omega
          · obtain rfl : j = m + 1 := by omega
            obtain ⟨b1, b2, b3⟩ := HBT.out
            have c92 : wr.cell? ⟨p, 92, none⟩ = some (.bool false) := h.cell 92 ((PSt.bt_at { x with bt := bt } 80).trans b2)
            have e1 : (((m : Int) + 1) == (k : Int)) = false := by
              have := HN.out
              simp; omega
            clear hix0
            by_cases hl2 : k2 + (m + 1) < s.length
            · obtain ⟨c2, hix, hc2⟩ := H2.out hl2
              by_cases h80 : m + 1 < 80
              · obtain ⟨z, hz2⟩ := b3 m (by omega)
                have cm : wr.cell? ⟨p, 12 + m, none⟩ = some (.int .i64 z) := h.cell (12 + m) ((PSt.bt_at { x with bt := bt } m).trans hz2)
                have kf := fun i => h.frozen i
                clear b1 b2 b3 hz2
                go_wp2
                refine ⟨⟨k2 + (m + 1), bt.set m (.int .i64 k2), HBT.out.set m (by omega) k2, ⟨rfl, rfl, rfl, rfl, rfl, rfl, rfl, rfl, rfl⟩, HT.out, ?_⟩, ?_⟩
                · have := h.set (12 + m) (.int .i64 k2)
                  rw [PSt.bt_set] at this
                  exact this
                · show s.length - ((k2 : Int) + ((m : Int) + 1)).toNat < s.length - (k2 : Int).toNat
                  omega
              · clear b1 b2 b3
                go_wp2
                refine ⟨⟨k2 + (m + 1), bt, HBT.out, ⟨rfl, rfl, rfl, rfl, rfl, rfl, rfl, rfl, rfl⟩, HT.out, h⟩, ?_⟩
                show s.length - ((k2 : Int) + ((m : Int) + 1)).toNat < s.length - (k2 : Int).toNat
                omega
            · exfalso
              omega

end Go.Proofs.YtbfmmikllelfeaaGreatDoor

/- Code spans: reset. -/
namespace Go.Proofs.YtbfmmikllelfeaaGreatDoor
open Go.RowKit Sl

def btZero : List Value := List.replicate 80 (.int .i64 0) ++ [.bool false]

theorem zeroBt : Tryz.zeroCells171.toList = btZero := by kernel_rfl

theorem btZero_ok : BtOk btZero := by
  refine ⟨rfl, rfl, fun j hj => ⟨0, ?_⟩⟩
  unfold btZero
  rw [List.getElem?_append_left (by rw [List.length_replicate]; exact hj), List.getElem?_replicate, if_pos hj]

set_option maxRecDepth 100000 in
set_option maxHeartbeats 4000000 in
theorem reset_w (p : Nat) (x : PSt) (F : HP) (w : World) (hx : x.bt.length = 81) (hs : Sat w (row p 173 x.cells * F)) :
    Calls Tryz.prog 110 #[.pointer (some ⟨p, 12, none⟩)] w fun e' w' => e' = .returned (.tuple #[]) ∧ Sat w' (row p 173 { x with bt := btZero }.cells * F) := by
  have hlen : x.cells.length = 93 := by
    unfold PSt.cells
    rw [List.length_append, hx]; rfl
  have hbl : btZero.length = 81 := rfl
  have hr := run_storeCells_at (P := Tryz.prog) p 12 173 Tryz.zeroCells171.toList 0 x.cells.toArray w hs.row_heap (by rw [zeroBt, hbl, List.size_toArray, hlen]; decide) (by
    rw [zeroBt]
    intro v hv
    unfold btZero at hv
    rcases List.mem_append.1 hv with hv | hv
    · rw [List.eq_of_mem_replicate hv]; rfl
    · rw [List.mem_singleton.1 hv]; rfl)
  have hs2 : Sat (w.setRow p (x.cells.toArray.toList.take (12 + 0) ++ Tryz.zeroCells171.toList ++ x.cells.toArray.toList.drop (12 + 0 + Tryz.zeroCells171.toList.length)).toArray) (row p 173 { x with bt := btZero }.cells * F) := by
    have hc : (x.cells.toArray.toList.take (12 + 0) ++ Tryz.zeroCells171.toList ++ x.cells.toArray.toList.drop (12 + 0 + Tryz.zeroCells171.toList.length)) = ({ x with bt := btZero } : PSt).cells := by
      rw [zeroBt, hbl, List.drop_eq_nil_of_le (by rw [List.toList_toArray, hlen]; decide), List.append_nil]
      unfold PSt.cells
      rw [List.toList_toArray, List.take_append_of_le_length (by simp)]
      rfl
    rw [hc]
    exact hs.turn rfl (setRow_heap w p _ _ _ _ hs.row_heap) (fun k _ hk => by simp [World.setRow, Array.getElem?_modify, Ne.symm hk])
  generalize w.setRow p _ = w2 at hr hs2
  clear hs
  go_enter Tryz.func110, Tryz.ntmps110
  go_wp2
  go_end0
  exact ⟨rfl, hs2⟩

end Go.Proofs.YtbfmmikllelfeaaGreatDoor
