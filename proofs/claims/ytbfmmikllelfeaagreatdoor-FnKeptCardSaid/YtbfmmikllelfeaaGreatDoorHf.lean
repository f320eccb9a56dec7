/- An open tag at the end of a text. -/
import Derived.Test.YtbfmmikllelfeaaGreatDoorB
import Derived.Test.YtbfmmikllelfeaaGreatDoorN3
import Derived.Test.YtbfmmikllelfeaaGreatDoorSl
namespace Go.Proofs.YtbfmmikllelfeaaGreatDoor
open Go.RowKit Sl

/-- The tag's name, and the tag. -/
def ownName : List UInt8 := [111, 119, 110, 45, 116, 97, 103]
def ownTag : List UInt8 := 60 :: (ownName ++ [62])

set_option maxHeartbeats 400000 in
theorem isLetter_low (c : UInt8) (w : World) (h1 : 97 ≤ c.toNat) (h2 : c.toNat ≤ 122) : Calls Tryz.prog 206 #[.int .u8 c.toNat] w fun e w' => e = .returned (.bool true) ∧ w = w' := by
  have hd : decide ((c.toNat : Int) ≤ 122) = true := by simp; omega
  have hd2 : decide ((c.toNat : Int) ≤ 90) = false := by simp; omega
  go_enter Tryz.func206, Tryz.ntmps206
  go_wp2
  go_ret
  exact ⟨rfl, rfl⟩

set_option maxHeartbeats 400000 in
theorem isLetterDigit_low (c : UInt8) (w : World) (h1 : 97 ≤ c.toNat) (h2 : c.toNat ≤ 122) : Calls Tryz.prog 194 #[.int .u8 c.toNat] w fun e w' => e = .returned (.bool true) ∧ w = w' := by
  go_enter Tryz.func194, Tryz.ntmps194
  go_wp2
  go_ret
  exact ⟨rfl, rfl⟩

set_option maxHeartbeats 400000 in
theorem isLetterDigit_not (c : UInt8) (w : World) (h1 : c = 45 ∨ c = 62) : Calls Tryz.prog 194 #[.int .u8 c.toNat] w fun e w' => e = .returned (.bool false) ∧ w = w' := by
  rcases h1 with rfl | rfl
  all_goals
    go_enter Tryz.func194, Tryz.ntmps194
    go_wp2
    go_ret
    exact ⟨rfl, rfl⟩

set_option maxHeartbeats 400000 in
theorem isLDH_yes (c : UInt8) (w : World) (h : (97 ≤ c.toNat ∧ c.toNat ≤ 122) ∨ c = 45) : Calls Tryz.prog 249 #[.int .u8 c.toNat] w fun e w' => e = .returned (.bool true) ∧ w = w' := by
  rcases h with ⟨h1, h2⟩ | rfl
  · go_enter Tryz.func249, Tryz.ntmps249
    go_wp2_with fail
    refine (isLetterDigit_low c w h1 h2).mono ?_
    rintro e w' ⟨rfl, rfl⟩
    go_wp2
    go_ret
    exact ⟨rfl, rfl⟩
  · go_enter Tryz.func249, Tryz.ntmps249
    go_wp2_with fail
    refine (isLetterDigit_not 45 w (.inl rfl)).mono ?_
    rintro e w' ⟨rfl, rfl⟩
    go_wp2
    go_ret
    exact ⟨rfl, rfl⟩

set_option maxHeartbeats 400000 in
theorem isLDH_end (w : World) : Calls Tryz.prog 249 #[.int .u8 (62 : UInt8).toNat] w fun e w' => e = .returned (.bool false) ∧ w = w' := by
  go_enter Tryz.func249, Tryz.ntmps249
  go_wp2_with fail
  refine (isLetterDigit_not 62 w (.inr rfl)).mono ?_
  rintro e w' ⟨rfl, rfl⟩
  go_wp2
  go_ret
  exact ⟨rfl, rfl⟩

theorem own_at {s : List UInt8} {i : Nat} (h : s.drop i = ownTag) : s.length = i + 9 ∧ (∀ k (hk : k < 9), s[i + k]? = some (ownTag[k]'hk)) ∧ i ≤ s.length := by
  have hl := congrArg List.length h
  rw [List.length_drop] at hl
  have h9 : ownTag.length = 9 := rfl
  refine ⟨by omega, fun k hk => ?_, by omega⟩
  rw [← List.getElem?_drop, h]
  exact List.getElem?_eq_getElem hk

set_option maxRecDepth 100000 in
set_option maxHeartbeats 1000000 in
theorem parseTagName_w (s : List UInt8) (i : Nat) (w : World) (hl : s.length ≤ 1000000000) (h : s.drop i = ownTag) :
    Calls Tryz.prog 250 #[.string (B.bs s), .int .i64 (i + 1 : Nat)] w fun e w' => e = .returned (.tuple #[.string (B.bs ownName), .int .i64 (i + 8 : Nat), .bool true]) ∧ w = w' := by
  obtain ⟨hlen, hat, _⟩ := own_at h
  have hz : (B.bs s).size = s.length := rfl
  have hget : ∀ k c, s[k]? = some c → ∀ hh, (B.bs s)[k]'hh = c := fun k c hk hh => (List.getElem?_eq_some_iff.1 hk).2
  have hx1 := hget _ _ (show s[i + 1]? = some 111 from hat 1 (by decide))
  have hx8 := hget _ _ (show s[i + 8]? = some 62 from hat 8 (by decide))
  have hin : ∀ k, i + 2 ≤ k → k < i + 8 → ∃ c : UInt8, (∀ hh, (B.bs s)[k]'hh = c) ∧ ((97 ≤ c.toNat ∧ c.toNat ≤ 122) ∨ c = 45) := by
    intro k h1 h2
    obtain ⟨j, rfl⟩ : ∃ j, k = i + j := ⟨k - i, by omega⟩
    refine ⟨_, hget _ _ (hat j (by omega)), ?_⟩
    have : j = 2 ∨ j = 3 ∨ j = 4 ∨ j = 5 ∨ j = 6 ∨ j = 7 := by omega
    rcases this with rfl | rfl | rfl | rfl | rfl | rfl
    all_goals first | (left; simp [ownTag, ownName]; done) | (right; simp [ownTag, ownName]; done)
  have hcut : (B.bs s).extract (i + 1) (i + 8) = B.bs ownName := by
    rw [B.extract_bs, B.bs_data, show i + 8 - (i + 1) = 7 by omega, ← List.drop_drop, h]
    rfl
  have HIN := Lib.hid hin
  have HCUT := Lib.hid hcut
  have HX8 := Lib.hid hx8
  clear hget hat hin hcut h hx8
  go_enter Tryz.func250, Tryz.ntmps250
  go_wp2_with fail
  refine (isLetter_low 111 w (by decide) (by decide)).mono ?_
  rintro e w' ⟨rfl, rfl⟩
  clear hx1
  go_wp2
  go_loopw [7] (fun j wr => ∃ k : Nat, i + 2 ≤ k ∧ k ≤ i + 8 ∧ j = .int .i64 (k : Int) ∧ w = wr) (fun j _ => s.length - (intOf j).toNat)
  case atStart => exact ⟨i + 2, Nat.le_refl _, by omega, by go_num, rfl⟩
  case round =>
    obtain ⟨k, hk1, hk2, rfl, rfl⟩ := hrel
    by_cases hlt : k < i + 8
    · obtain ⟨c, hix, hc⟩ := HIN.out k hk1 hlt
      go_wp2_with fail
      refine (isLDH_yes c w hc).mono ?_
      rintro e w' ⟨rfl, rfl⟩
      go_wp2
      go_roundw
      case rel => exact ⟨k + 1, by omega, by omega, by go_num, by first | trivial | rfl⟩
      case measure => simp [intOf]; omega
    · obtain rfl : k = i + 8 := by omega
      have hx8 := HX8.out
      have hc := HCUT.out
      go_wp2_with fail
      refine (isLDH_end w).mono ?_
      rintro e w' ⟨rfl, rfl⟩
      go_wp2
      exact bodyPost_ret (v := .tuple #[.string (B.bs ownName), .int .i64 (i + 8 : Nat), .bool true]) (by simp [results, Tryz.results250, go_sem, hc]) rfl ⟨rfl, rfl⟩

set_option maxRecDepth 100000 in
set_option maxHeartbeats 1000000 in
theorem skipSpace_at (s : List UInt8) (i : Nat) (c : UInt8) (w : World) (_hl : s.length ≤ 1000000000) (hi : s[i]? = some c) (h1 : c ≠ 32) (h2 : c ≠ 9) (h3 : c ≠ 10) :
    Calls Tryz.prog 171 #[.string (B.bs s), .int .i64 i] w fun e w' => e = .returned (.int .i64 i) ∧ w = w' := by
  have hz : (B.bs s).size = s.length := rfl
  obtain ⟨hlt, hc⟩ := List.getElem?_eq_some_iff.1 hi
  have hix : ∀ h, (B.bs s)[i]'h = c := fun _ => hc
  have e1 : ((c.toNat : Int) == 32) = false := u8_ne (b := 32) h1
  have e2 : ((c.toNat : Int) == 9) = false := u8_ne (b := 9) h2
  have e3 : ((c.toNat : Int) == 10) = false := u8_ne (b := 10) h3
  clear hi hc
  go_enter Tryz.func171, Tryz.ntmps171
  go_wp2_with fail
  refine wp_loop_once ?_
  go_wp2_with fail
  go_ret
  exact ⟨rfl, rfl⟩

set_option maxRecDepth 100000 in
set_option maxHeartbeats 1000000 in
theorem skipSpace_end (s : List UInt8) (w : World) (_hl : s.length ≤ 1000000000) :
    Calls Tryz.prog 171 #[.string (B.bs s), .int .i64 s.length] w fun e w' => e = .returned (.int .i64 s.length) ∧ w = w' := by
  have hz : (B.bs s).size = s.length := rfl
  go_enter Tryz.func171, Tryz.ntmps171
  go_wp2_with fail
  refine wp_loop_once ?_
  go_wp2_with fail
  go_ret
  exact ⟨rfl, rfl⟩

set_option maxRecDepth 100000 in
set_option maxHeartbeats 1000000 in
theorem parseAttr_end (p : Value) (s : List UInt8) (i : Nat) (w : World) (hl : s.length ≤ 1000000000) (h : s.drop i = ownTag) :
    Calls Tryz.prog 251 #[p, .string (B.bs s), .int .i64 (i + 8 : Nat)] w fun e w' => e = .returned (.tuple #[.string ⟨#[]⟩, .int .i64 0, .bool false]) ∧ w = w' := by
  obtain ⟨hlen, hat, _⟩ := own_at h
  have hz : (B.bs s).size = s.length := rfl
  have hat8 : s[i + 8]? = some 62 := hat 8 (by decide)
  have han : Calls Tryz.prog 262 #[.string (B.bs s), .int .i64 (i + 8 : Nat)] w fun e w' => e = .returned (.tuple #[.string ⟨#[]⟩, .int .i64 0, .bool false]) ∧ w = w' := by
    go_enter Tryz.func262, Tryz.ntmps262
    go_wp2
    exact bodyPost_ret (v := .tuple #[.string ⟨#[]⟩, .int .i64 0, .bool false]) (by simp [results, Tryz.results262, go_sem]) rfl ⟨rfl, rfl⟩
  have HAN := Lib.hid han
  have HSK := Lib.hid (skipSpace_at s (i + 8) 62 w hl hat8 (by decide) (by decide) (by decide))
  clear hat hat8 han h
  go_enter Tryz.func251, Tryz.ntmps251
  go_wp2_with fail
  refine HSK.out.mono ?_
  rintro e w' ⟨rfl, rfl⟩
  go_wp2_with fail
  refine HAN.out.mono ?_
  rintro e w' ⟨rfl, rfl⟩
  go_wp2
  exact bodyPost_ret (v := .tuple #[.string ⟨#[]⟩, .int .i64 0, .bool false]) (by simp [results, Tryz.results251, go_sem]) rfl ⟨rfl, rfl⟩

set_option maxRecDepth 100000 in
set_option maxHeartbeats 2000000 in
theorem openTag_w (p : Value) (s : List UInt8) (i : Nat) (w : World) (G : HP) (hl : s.length ≤ 1000000000) (h : s.drop i = ownTag) (hs : Sat w G) :
    Calls Tryz.prog 216 #[p, .string (B.bs s), .int .i64 i] w fun e w' => ∃ d : Nat, e = .returned (.tuple #[.iface 252 (.pointer (some ⟨d, 0, none⟩)), .int .i64 s.length, .bool true]) ∧ Sat w' (row d 253 [.string (B.bs ownTag)] * G) := by
  obtain ⟨hlen, hat, _⟩ := own_at h
  have hz : (B.bs s).size = s.length := rfl
  have hget : ∀ k c, s[k]? = some c → ∀ hh, (B.bs s)[k]'hh = c := fun k c hk hh => (List.getElem?_eq_some_iff.1 hk).2
  have hx0 := hget _ _ (show s[i]? = some 60 from hat 0 (by decide))
  have hx8 := hget _ _ (show s[i + 8]? = some 62 from hat 8 (by decide))
  have hcut : (B.bs s).extract i (i + 9) = B.bs ownTag := by
    rw [B.extract_bs, B.bs_data, show i + 9 - i = 9 by omega, h]
    rfl
  have hn1 : ((B.bs ownName).toList == [112, 114, 101]) = false := by rw [Lib.toList_data, B.bs_data]; decide
  have hn2 : ((B.bs ownName).toList == [115, 99, 114, 105, 112, 116]) = false := by rw [Lib.toList_data, B.bs_data]; decide
  have hn3 : ((B.bs ownName).toList == [115, 116, 121, 108, 101]) = false := by rw [Lib.toList_data, B.bs_data]; decide
  have hn4 : ((B.bs ownName).toList == [116, 101, 120, 116, 97, 114, 101, 97]) = false := by rw [Lib.toList_data, B.bs_data]; decide
  have HTN := Lib.hid (parseTagName_w s i w hl h)
  have HPA := Lib.hid (parseAttr_end p s i w hl h)
  have HSK := Lib.hid (skipSpace_at s (i + 8) 62 w hl (hat 8 (by decide)) (by decide) (by decide) (by decide))
  have HS := Lib.hid hs
  have HX8 := Lib.hid hx8
  have HCUT := Lib.hid hcut
  clear hget hat hx8 hcut h hs
  go_enter Tryz.func216, Tryz.ntmps216
  go_wp2_with fail
  refine HTN.out.mono ?_
  rintro e w' ⟨rfl, rfl⟩
  clear hx0
  have hx8 := HX8.out
  have hc := HCUT.out
  go_wp2_with fail
  refine wp_loop_once ?_
  go_wp2_with fail
  refine HPA.out.mono ?_
  rintro e w' ⟨rfl, rfl⟩
  go_wp2_with fail
  refine HSK.out.mono ?_
  rintro e w' ⟨rfl, rfl⟩
  go_wp2
  refine bodyPost_ret (v := .tuple #[.iface 252 (.pointer (some ⟨w.heap.size, 0, none⟩)), .int .i64 s.length, .bool true]) (by simp [results, Tryz.results216, go_sem, hlen]; omega) rfl ⟨w.heap.size, rfl, ?_⟩
  have := HS.out.new (d := w.heap.size) [.string (B.bs ownTag)] 253 rfl
  exact this

end Go.Proofs.YtbfmmikllelfeaaGreatDoor
