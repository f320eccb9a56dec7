/- strings.IndexByte (the kit's contract, laid at this program) and strings.HasPrefix; only, withoutByte: the law's texts. -/
import Derived.Test.YtbfmmikllelfeaaGreatDoorSl
import Derived.Test.YtbfmmikllelfeaaGreatDoorB
import Derived.Shelf.Lays
import Derived.Shelf.Small.Strs
namespace Go.Proofs.YtbfmmikllelfeaaGreatDoor
open Go.RowKit

def Sh.lays137_ren : Go.Shelf.Ren := ⟨fun | 137 => 37 | 217 => 61 | 266 => 83 | n => n, fun | 9 => 9 | 5 => 5 | 3 => 3 | n => n, fun | n => n⟩
theorem Sh.lays137 : Go.Proofs.Lays.n137 Tryz.prog Sh.lays137_ren := {
  mixed := by kernel_rfl
  f137 := Tryz.func37.trans (congrArg some (by kernel_rfl))
  f217 := Tryz.func61.trans (congrArg some (by kernel_rfl))
  f266 := Tryz.func83.trans (congrArg some (by kernel_rfl))
  t3 := Tryz.underlying3
  a3 := Tryz.isAgg3
  z3 := Tryz.sizeOf3
  v3 := Tryz.zeroValue3
  t5 := Tryz.underlying5
  a5 := Tryz.isAgg5
  z5 := Tryz.sizeOf5
  v5 := Tryz.zeroValue5
  t9 := Tryz.underlying9
  a9 := Tryz.isAgg9
  z9 := Tryz.sizeOf9
  v9 := Tryz.zeroValue9 }

theorem indexByte_neg : ∀ (l : List UInt8) (c : UInt8), decide (Lib.indexByte l c < 0) = !l.contains c
  | [], _ => rfl
  | b :: l, c => by
    have ih := indexByte_neg l c
    have hg := Lib.indexByte_ge l c
    unfold Lib.indexByte
    by_cases hb : b = c
    · subst hb
      simp
    · rw [if_neg (by simpa using hb)]
      have h2 : (b :: l).contains c = l.contains c := by simp [Ne.symm hb]
      rw [h2, ← ih]
      by_cases h : Lib.indexByte l c = -1
      · rw [h]; rfl
      · rw [if_neg (by simpa using h)]
        simp only [decide_eq_decide]
        omega

theorem indexByte_w (s : ByteArray) (c : UInt8) (w : World) :
    Calls Tryz.prog 37 #[.string s, .int .u8 c.toNat] w fun e w' => e = .returned (.int .i64 (Lib.indexByte s.data.toList c)) ∧ w = w' := by
  refine (Any.strings_IndexByte Sh.lays137 s c.toNat w).mono ?_
  rintro e w' ⟨rfl, rfl⟩
  exact ⟨by simp, rfl⟩

/-- Whether a text has a beginning. -/
theorem prefix_eq {s p : ByteArray} {x : Bool} (h : ((s.extract 0 p.size).toList == p.toList) = x) (_hl : p.size ≤ s.size) : (p.data.toList.isPrefixOf s.data.toList) = x := by
  rw [Lib.toList_data, Lib.toList_data, B.extract_zero, B.bs_data, B.size_data] at h
  subst h
  cases hb : p.data.toList.isPrefixOf s.data.toList with
  | true =>
    obtain ⟨t, ht⟩ := List.isPrefixOf_iff_prefix.1 hb
    rw [← ht]; simp
  | false =>
    symm
    rw [beq_eq_false_iff_ne]
    intro e
    have : p.data.toList <+: s.data.toList := by rw [← e]; exact List.take_prefix _ _
    rw [List.isPrefixOf_iff_prefix.2 this] at hb
    cases hb

set_option maxHeartbeats 1000000 in
theorem hasPrefix1_w (s p : ByteArray) (w : World) (_hs : s.size ≤ 1000000000000) (_hp : p.size ≤ 1000000000000) :
    Calls Tryz.prog 64 #[.string s, .string p] w fun e w' => e = .returned (.bool (p.data.toList.isPrefixOf s.data.toList)) ∧ w = w' := by
  by_cases hl : p.size ≤ s.size
  · generalize hx : ((s.extract 0 p.size).toList == p.toList) = x
    have hr := prefix_eq hx hl
    rw [hr]
    clear hr
    go_enter Tryz.func64, Tryz.ntmps64
    go_wp2
    go_ret
    exact ⟨rfl, rfl⟩
  · have hr : p.data.toList.isPrefixOf s.data.toList = false := by
      cases hb : p.data.toList.isPrefixOf s.data.toList with
      | false => rfl
      | true =>
        have := (List.isPrefixOf_iff_prefix.1 hb).length_le
        rw [← B.size_data, ← B.size_data] at this
        omega
    rw [hr]
    clear hr
    go_enter Tryz.func64, Tryz.ntmps64
    go_wp2
    go_ret
    exact ⟨rfl, rfl⟩

theorem hasPrefix_w (s p : ByteArray) (w : World) (hs : s.size ≤ 1000000000000) (hp : p.size ≤ 1000000000000) :
    Calls Tryz.prog 39 #[.string s, .string p] w fun e w' => e = .returned (.bool (p.data.toList.isPrefixOf s.data.toList)) ∧ w = w' := by
  have h := hasPrefix1_w s p w hs hp
  generalize p.data.toList.isPrefixOf s.data.toList = q at h ⊢
  have H := Lib.hid h
  clear h
  go_enter Tryz.func39, Tryz.ntmps39
  go_wp2_with fail
  refine H.out.mono ?_
  rintro e w' ⟨rfl, rfl⟩
  go_wp2
  go_ret
  exact ⟨rfl, rfl⟩

set_option maxHeartbeats 1000000 in
/-- The law's 'only': no more than so many letters, all of an alphabet. -/
theorem only_w (s : List UInt8) (al : ByteArray) (most : Nat) (w : World) (hm : most ≤ 1000000000) (hs : s.length ≤ 1000000000000) :
    Calls Tryz.prog 11 #[.string (B.bs s), .string al, .int .i64 most] w fun e w' => e = .returned (.bool (decide (s.length ≤ most) && s.all fun c => al.data.toList.contains c)) ∧ w = w' := by
  have hz : (B.bs s).size = s.length := rfl
  by_cases hl : s.length ≤ most
  · have hd : decide (most < s.length) = false := by simp; omega
    go_enter Tryz.func11, Tryz.ntmps11
    go_wp2_with fail
    go_loopw [14] (fun i wr => ∃ k : Nat, k ≤ s.length ∧ i = .int .i64 k ∧ ((s.take k).all fun c => al.data.toList.contains c) = true ∧ w = wr) (fun i _ => s.length - (intOf i).toNat)
    case atStart => exact ⟨0, Nat.zero_le _, rfl, rfl, rfl⟩
    case round =>
      obtain ⟨k, hk, rfl, hall, rfl⟩ := hrel
      have HALL := Lib.hid hall
      clear hall
      by_cases hlt : k < s.length
      · generalize hc : s[k] = c
        have hix : ∀ h, (B.bs s)[k]'h = c := fun _ => hc
        have hx := indexByte_neg al.data.toList c
        have hw := indexByte_w al c w
        have ht : s.take (k + 1) = s.take k ++ [c] := by rw [List.take_succ_eq_append_getElem hlt, hc]
        have hd2 : s.drop k = c :: s.drop (k + 1) := by rw [List.drop_eq_getElem_cons hlt, hc]
        generalize Lib.indexByte al.data.toList c = z at hx hw
        have HW := Lib.hid hw
        have HT := Lib.hid ht
        have HD := Lib.hid hd2
        clear hw ht hd2
        go_wp2_with fail
        refine HW.out.mono ?_
        rintro e w' ⟨rfl, rfl⟩
        cases hcon : al.data.toList.contains c
        · rw [hcon] at hx
          go_wp2
          go_ret
          refine ⟨ret_bool ?_, rfl⟩
          have h1 : s = s.take k ++ s.drop k := (List.take_append_drop k s).symm
          rw [show decide (s.length ≤ most) = true by simpa using hl, Bool.true_and]
          symm
          rw [h1, HD.out, List.all_append, List.all_cons, hcon, Bool.false_and, Bool.and_false]
        · rw [hcon] at hx
          have hrel2 : ((s.take (k + 1)).all fun c => al.data.toList.contains c) = true := by rw [HT.out, List.all_append, HALL.out, List.all_cons, hcon]; rfl
          have HR2 := Lib.hid hrel2
          clear hrel2
          go_wp2
          go_roundw
          case rel => first | exact ⟨k + 1, by omega, by go_num, HR2.out, by first | trivial | rfl⟩ | ((repeat apply Exists.intro); exact ⟨⟨k + 1, by omega, by go_num, HR2.out, by first | trivial | rfl⟩, rfl⟩)
          case measure => simp [intOf]; omega
      · obtain rfl : k = s.length := by omega
        go_wp2
        go_ret
        refine ⟨ret_bool ?_, rfl⟩
        have := HALL.out
        rw [List.take_of_length_le (Nat.le_refl _)] at this
        rw [this]; simp; omega
  · have hd : decide (most < s.length) = true := by simp; omega
    go_enter Tryz.func11, Tryz.ntmps11
    go_wp2
    go_ret
    refine ⟨ret_bool ?_, rfl⟩
    simp; omega

end Go.Proofs.YtbfmmikllelfeaaGreatDoor
