/- Inlines: numeric references. -/
import Derived.Test.YtcmpcjffmccllaaGreatDoorE0
import Derived.Test.YtcmpcjffmccllaaGreatDoorSa
import Derived.Laws.Runes
namespace Go.Proofs.YtcmpcjffmccllaaGreatDoor
open Go.RowKit Sl

def hexB (c : UInt8) : Bool := decide ((65 ≤ c.toNat ∧ c.toNat ≤ 70) ∨ (97 ≤ c.toNat ∧ c.toNat ≤ 102) ∨ (48 ≤ c.toNat ∧ c.toNat ≤ 57))
def decB (c : UInt8) : Bool := decide (48 ≤ c.toNat) && decide (c.toNat ≤ 57)

set_option maxRecDepth 100000 in
set_option maxHeartbeats 1000000 in
theorem isHexDigit_w (c : UInt8) (w : World) : Calls Tryz.prog 109 #[.int .u8 c.toNat] w fun e w' => e = .returned (.bool (hexB c)) ∧ w = w' := by
  go_enter Tryz.func109, Tryz.ntmps109
  go_wp2
  all_goals
    go_ret
    refine ⟨ret_bool ?_, rfl⟩
    unfold hexB
    rw [Bool.eq_iff_iff]
    simp only [Bool.or_eq_true, decide_eq_true_eq, true_iff, Bool.false_eq_true, false_iff, eq_self]
    omega

set_option maxRecDepth 100000 in
set_option maxHeartbeats 1000000 in
theorem isDigit_w (c : UInt8) (w : World) : Calls Tryz.prog 111 #[.int .u8 c.toNat] w fun e w' => e = .returned (.bool (decB c)) ∧ w = w' := by
  unfold decB
  go_enter Tryz.func111, Tryz.ntmps111
  go_wp2
  all_goals
    go_ret
    refine ⟨ret_bool ?_, rfl⟩
    rw [Bool.eq_iff_iff]
    simp
    omega

/-- What stands at a place of a text's part. -/
theorem drop_at {s : List UInt8} {i : Nat} {x : List UInt8} (h : s.drop i = x) (j : Nat) : s[i + j]? = x[j]? := by
  rw [← h, List.getElem?_drop]

theorem bs_ex (b : ByteArray) : ∃ u, B.bs u = b := ⟨b.data.toList, by cases b; rfl⟩

theorem fix_big {v : Nat} (h : 1114111 < v) : (fixRune v : Int) = 65533 := by unfold fixRune; rw [if_pos (.inr h)]; simp
theorem fix_zero : (fixRune 0 : Int) = 65533 := by unfold fixRune; rw [if_pos (.inl rfl)]; simp
theorem fix_ok {v : Nat} (h0 : v ≠ 0) (h : ¬ 1114111 < v) : (fixRune v : Int) = (v : Int) := by unfold fixRune; rw [if_neg (by omega)]

theorem wrap_i32 {v : Int} (h0 : 0 ≤ v) (h1 : v < 2147483648) : IntKind.i32.wrap v = v := by
  unfold IntKind.wrap
  simp [IntKind.bits, IntKind.signed]
  omega

set_option maxRecDepth 100000 in
set_option maxHeartbeats 2000000 in
theorem parseEntHex_w (p : Option Addr) (s ds r : List UInt8) (i v : Nat) (hsl : s.length ≤ 1000000000) (h : s.drop i = 38 :: 35 :: 120 :: (ds ++ 59 :: r)) (h1 : 1 ≤ ds.length) (h6 : ds.length ≤ 6) (hv : hexVal 0 ds = some v) (u : List UInt8) (hu : ∀ r : Int, (fixRune v : Int) = r → B.bs u = Utf8.encode r) (w : World) (G : HP) (hs : Sat w G) :
    Calls Tryz.prog 76 #[.pointer p, .string (B.bs s), .int .i64 i] w fun e w' => ∃ x, e = .returned (.tuple #[x, .int .i64 i, .int .i64 (i + ds.length + 4 : Nat), .bool true]) ∧ Sat w' (TokAt x (.plain u) * G) := by
  have hz : (B.bs s).size = s.length := rfl
  have hlen := congrArg List.length h
  simp only [List.length_drop, List.length_cons, List.length_append] at hlen
  have hat : ∀ j c, (38 :: 35 :: 120 :: (ds ++ 59 :: r))[j]? = some c → ∀ hh, (B.bs s)[i + j]'hh = c := fun j c hj _ => by
    have := (drop_at h j).trans hj
    exact (List.getElem?_eq_some_iff.1 this).2
  have x1 := hat 1 35 rfl
  have x2 := hat 2 120 rfl
  have hmid : ∀ k, k < ds.length → ∃ c : UInt8, (∀ hh, (B.bs s)[i + 3 + k]'hh = c) ∧ hexB c = true := fun k hk => by
    refine ⟨ds[k], fun hh => ?_, ?_⟩
    · have := hat (3 + k) ds[k] (by rw [show 3 + k = k + 1 + 1 + 1 by omega]; simp only [List.getElem?_cons_succ]; rw [List.getElem?_append_left hk]; simp [hk]) (by rw [← Nat.add_assoc]; exact hh)
      simpa [Nat.add_assoc] using this
    · obtain ⟨_, _, _, hnx⟩ := hexVal_take hv k (by omega)
      obtain ⟨d, hd, _⟩ := hnx hk
      have := (hexDig_lt hd).2
      unfold hexB
      simp; omega
  have hendc : ∀ hh, (B.bs s)[i + 3 + ds.length]'hh = 59 := fun hh => by
    have := hat (3 + ds.length) 59 (by rw [show 3 + ds.length = ds.length + 1 + 1 + 1 by omega]; simp only [List.getElem?_cons_succ]; rw [List.getElem?_append_right (Nat.le_refl _)]; simp) (by rw [← Nat.add_assoc]; exact hh)
    simpa [Nat.add_assoc] using this
  have hcut : (B.bs s).extract (i + 3) (i + 3 + ds.length) = B.bs ds := by
    rw [B.extract_bs, B.bs_data, ← List.drop_drop, h]
    congr 1
    show ((ds ++ 59 :: r)).take _ = ds
    rw [Nat.add_sub_cancel_left, List.take_left]
  have hv6 : v < 16777216 := Nat.lt_of_lt_of_le (hexVal_lt _ ds v rfl hv) (Nat.pow_le_pow_right (by decide) h6)
  have HM := Lib.hid hmid
  have HU := Lib.hid hu
  clear hu
  have HPI := Lib.hid (fun w => parseInt16_w ds v w h1 h6 hv)
  have HS := Lib.hid hs
  have HV := Lib.hid hv6
  have HX := Lib.hid (fun c w => isHexDigit_w c w)
  have hl3 : i + 3 + ds.length < s.length := by omega
  have hw : wrap64 (v : Int) = (v : Int) := wrap64_small (by omega) (by omega)
  clear hmid h hat hlen hv hs hv6
  generalize ds.length = D at *
  go_enter Tryz.func76, Tryz.ntmps76
  go_wp2
  go_loopw [13] (fun a wr => ∃ k : Nat, k ≤ D ∧ a = .int .i64 ((i : Int) + 3 + (k : Int)) ∧ w = wr) (fun a _ => s.length - (intOf a).toNat)
  case atStart => exact ⟨0, Nat.zero_le _, by simp <;> omega, rfl⟩
  case round =>
    obtain ⟨k, hk, rfl, rfl⟩ := hrel
    clear x1 x2
    by_cases hlt : k < D
    · obtain ⟨c, hix, hb⟩ := HM.out k hlt
      have hx := HX.out c w
      rw [hb] at hx
      have HXX := Lib.hid hx
      clear hx hb hendc hcut
      go_wp2_with fail
      refine HXX.out.mono ?_
      rintro e w1 ⟨rfl, rfl⟩
      go_wp2
      go_roundw
      case rel => exact ⟨k + 1, by omega, by go_num, by first | trivial | rfl⟩
      case measure => simp [intOf]; omega
    · obtain rfl : k = D := by omega
      have hx := HX.out 59 w
      rw [show hexB 59 = false by decide] at hx
      have HXX := Lib.hid hx
      clear hx
      go_wp2_with fail
      refine HXX.out.mono ?_
      rintro e w1 ⟨rfl, rfl⟩
      go_wp2_with fail
      refine (HPI.out w).mono ?_
      rintro e w2 ⟨rfl, hb2⟩
      have S2 := Lib.hid (HS.out.ext hb2)
      have hv6 := HV.out
      clear HS hb2 hcut hendc HM
      by_cases hbig : 1114111 < v
      · have g1 : decide ((1114111 : Int) < (v : Int)) = true := by simp; omega
        go_wp2
        refine bodyPost_ret (v := .tuple #[.iface 157 (.pointer (some ⟨w2.heap.size, 0, none⟩)), .int .i64 i, .int .i64 ((i : Int) + 3 + (k : Int) + 1), .bool true]) (by simp [results, Tryz.results76, go_sem]) rfl ⟨_, by rw [show ((i : Int) + 3 + (k : Int) + 1) = ((i + k + 4 : Nat) : Int) by omega], ?_⟩
        have h5 := S2.out.new (d := w2.heap.size) [.string (Utf8.encode 65533)] 138 rfl
        exact Sat.ex_mk w2.heap.size (h5.cast (by rw [pur_star rfl, HU.out _ (fix_big hbig)]))
      · have g1 : decide ((1114111 : Int) < (v : Int)) = false := by simp; omega
        by_cases h0 : v = 0
        · subst h0
          go_wp2
          refine bodyPost_ret (v := .tuple #[.iface 157 (.pointer (some ⟨w2.heap.size, 0, none⟩)), .int .i64 i, .int .i64 ((i : Int) + 3 + (k : Int) + 1), .bool true]) (by simp [results, Tryz.results76, go_sem]) rfl ⟨_, by rw [show ((i : Int) + 3 + (k : Int) + 1) = ((i + k + 4 : Nat) : Int) by omega], ?_⟩
          have h5 := S2.out.new (d := w2.heap.size) [.string (Utf8.encode 65533)] 138 rfl
          exact Sat.ex_mk w2.heap.size (h5.cast (by rw [pur_star rfl, HU.out _ fix_zero]))
        · have g2 : ((v : Int) == 0) = false := by simp; omega
          have g3 : IntKind.i32.wrap (v : Int) = (v : Int) := wrap_i32 (by omega) (by omega)
          have FIX := Lib.hid (fix_ok h0 hbig)
          go_wp2
          refine bodyPost_ret (v := .tuple #[.iface 157 (.pointer (some ⟨w2.heap.size, 0, none⟩)), .int .i64 i, .int .i64 ((i : Int) + 3 + (k : Int) + 1), .bool true]) (by simp [results, Tryz.results76, go_sem]) rfl ⟨_, by rw [show ((i : Int) + 3 + (k : Int) + 1) = ((i + k + 4 : Nat) : Int) by omega], ?_⟩
          have h5 := S2.out.new (d := w2.heap.size) [.string (Utf8.encode (v : Int))] 138 rfl
          exact Sat.ex_mk w2.heap.size (h5.cast (by rw [pur_star rfl, HU.out _ FIX.out]))

set_option maxRecDepth 100000 in
set_option maxHeartbeats 2000000 in
theorem parseEntDec_w (p : Option Addr) (s ds r : List UInt8) (i v : Nat) (hsl : s.length ≤ 1000000000) (h : s.drop i = 38 :: 35 :: (ds ++ 59 :: r)) (h1 : 1 ≤ ds.length) (h6 : ds.length ≤ 7) (hd : ∀ c ∈ ds, 48 ≤ c ∧ c ≤ 57) (hv : Lib.atoi ds = some (v : Int)) (u : List UInt8) (hu : ∀ r : Int, (fixRune v : Int) = r → B.bs u = Utf8.encode r) (w : World) (G : HP) (hs : Sat w G) :
    Calls Tryz.prog 76 #[.pointer p, .string (B.bs s), .int .i64 i] w fun e w' => ∃ x, e = .returned (.tuple #[x, .int .i64 i, .int .i64 (i + ds.length + 3 : Nat), .bool true]) ∧ Sat w' (TokAt x (.plain u) * G) := by
  have hz : (B.bs s).size = s.length := rfl
  have hlen := congrArg List.length h
  simp only [List.length_drop, List.length_cons, List.length_append] at hlen
  have hat : ∀ j c, (38 :: 35 :: (ds ++ 59 :: r))[j]? = some c → ∀ hh, (B.bs s)[i + j]'hh = c := fun j c hj _ => by
    have := (drop_at h j).trans hj
    exact (List.getElem?_eq_some_iff.1 this).2
  have x1 := hat 1 35 rfl
  have hmid : ∀ k, k < ds.length → ∃ c : UInt8, (∀ hh, (B.bs s)[i + 2 + k]'hh = c) ∧ decB c = true := fun k hk => by
    refine ⟨ds[k], fun hh => ?_, ?_⟩
    · have := hat (2 + k) ds[k] (by rw [show 2 + k = k + 1 + 1 by omega]; simp only [List.getElem?_cons_succ]; rw [List.getElem?_append_left hk]; simp [hk]) (by rw [← Nat.add_assoc]; exact hh)
      simpa [Nat.add_assoc] using this
    · have := hd ds[k] (List.getElem_mem hk)
      have a1 : 48 ≤ ds[k].toNat := this.1
      have a2 : ds[k].toNat ≤ 57 := this.2
      unfold decB
      simp; omega
  have hendc : ∀ hh, (B.bs s)[i + 2 + ds.length]'hh = 59 := fun hh => by
    have := hat (2 + ds.length) 59 (by rw [show 2 + ds.length = ds.length + 1 + 1 by omega]; simp only [List.getElem?_cons_succ]; rw [List.getElem?_append_right (Nat.le_refl _)]; simp) (by rw [← Nat.add_assoc]; exact hh)
    simpa [Nat.add_assoc] using this
  have hcut : (B.bs s).extract (i + 2) (i + 2 + ds.length) = B.bs ds := by
    rw [B.extract_bs, B.bs_data, ← List.drop_drop, h]
    congr 1
    show ((ds ++ 59 :: r)).take _ = ds
    rw [Nat.add_sub_cancel_left, List.take_left]
  obtain ⟨c2, x2, y1, y2⟩ : ∃ c : UInt8, (∀ hh, (B.bs s)[i + 2]'hh = c) ∧ ((c.toNat : Int) == 120) = false ∧ ((c.toNat : Int) == 88) = false := by
    obtain ⟨c, q1, q2⟩ := hmid 0 (by omega)
    unfold decB at q2
    simp at q2
    refine ⟨c, q1, ?_, ?_⟩ <;> simp <;> omega
  have hat2 : ∀ w, Calls Tryz.prog 112 #[.string (B.bs ds)] w fun e w' => e = .returned (.tuple #[.int .i64 v, .nilIface]) ∧ Below w.heap.size w w' := fun w => by
    refine (Sa.strconv_Atoi (B.bs ds) v (by rw [B.bs_size]; omega) (by rw [B.bs_data]; exact hv) w).mono ?_
    rintro e w' ⟨rfl, t, rfl⟩
    exact ⟨rfl, ⟨rfl, rfl, rfl, by rw [Lib.bytesWorld_size]; omega, fun j hj => Lib.bytesWorld_at_old w _ _ j hj⟩⟩
  have HM := Lib.hid hmid
  have HU := Lib.hid hu
  clear hu
  have HPI := Lib.hid hat2
  have HS := Lib.hid hs
  have HX := Lib.hid (fun c w => isDigit_w c w)
  have hl3 : i + 2 + ds.length < s.length := by omega
  clear hmid h hat hlen hv hs hat2 hd
  generalize ds.length = D at *
  go_enter Tryz.func76, Tryz.ntmps76
  go_wp2
  go_loopw [16] (fun a wr => ∃ k : Nat, k ≤ D ∧ a = .int .i64 ((i : Int) + 2 + (k : Int)) ∧ w = wr) (fun a _ => s.length - (intOf a).toNat)
  case atStart => exact ⟨0, Nat.zero_le _, by simp <;> omega, rfl⟩
  case round =>
    obtain ⟨k, hk, rfl, rfl⟩ := hrel
    clear x1 x2 y1 y2
    by_cases hlt : k < D
    · obtain ⟨c, hix, hb⟩ := HM.out k hlt
      have hx := HX.out c w
      rw [hb] at hx
      have HXX := Lib.hid hx
      clear hx hb hendc hcut
      go_wp2_with fail
      refine HXX.out.mono ?_
      rintro e w1 ⟨rfl, rfl⟩
      go_wp2
      go_roundw
      case rel => exact ⟨k + 1, by omega, by go_num, by first | trivial | rfl⟩
      case measure => simp [intOf]; omega
    · obtain rfl : k = D := by omega
      have hx := HX.out 59 w
      rw [show decB 59 = false by decide] at hx
      have HXX := Lib.hid hx
      clear hx
      go_wp2_with fail
      refine HXX.out.mono ?_
      rintro e w1 ⟨rfl, rfl⟩
      go_wp2_with fail
      refine (HPI.out w).mono ?_
      rintro e w2 ⟨rfl, hb2⟩
      have S2 := Lib.hid (HS.out.ext hb2)
      clear HS hb2 hcut hendc HM
      by_cases hbig : 1114111 < v
      · have g1 : decide ((1114111 : Int) < (v : Int)) = true := by simp; omega
        go_wp2
        refine bodyPost_ret (v := .tuple #[.iface 157 (.pointer (some ⟨w2.heap.size, 0, none⟩)), .int .i64 i, .int .i64 ((i : Int) + 2 + (k : Int) + 1), .bool true]) (by simp [results, Tryz.results76, go_sem]) rfl ⟨_, by rw [show ((i : Int) + 2 + (k : Int) + 1) = ((i + k + 3 : Nat) : Int) by omega], ?_⟩
        have h5 := S2.out.new (d := w2.heap.size) [.string (Utf8.encode 65533)] 138 rfl
        exact Sat.ex_mk w2.heap.size (h5.cast (by rw [pur_star rfl, HU.out _ (fix_big hbig)]))
      · have g1 : decide ((1114111 : Int) < (v : Int)) = false := by simp; omega
        by_cases h0 : v = 0
        · subst h0
          go_wp2
          refine bodyPost_ret (v := .tuple #[.iface 157 (.pointer (some ⟨w2.heap.size, 0, none⟩)), .int .i64 i, .int .i64 ((i : Int) + 2 + (k : Int) + 1), .bool true]) (by simp [results, Tryz.results76, go_sem]) rfl ⟨_, by rw [show ((i : Int) + 2 + (k : Int) + 1) = ((i + k + 3 : Nat) : Int) by omega], ?_⟩
          have h5 := S2.out.new (d := w2.heap.size) [.string (Utf8.encode 65533)] 138 rfl
          exact Sat.ex_mk w2.heap.size (h5.cast (by rw [pur_star rfl, HU.out _ fix_zero]))
        · have g2 : ((v : Int) == 0) = false := by simp; omega
          have g3 : IntKind.i32.wrap (v : Int) = (v : Int) := wrap_i32 (by omega) (by omega)
          have FIX := Lib.hid (fix_ok h0 hbig)
          go_wp2
          refine bodyPost_ret (v := .tuple #[.iface 157 (.pointer (some ⟨w2.heap.size, 0, none⟩)), .int .i64 i, .int .i64 ((i : Int) + 2 + (k : Int) + 1), .bool true]) (by simp [results, Tryz.results76, go_sem]) rfl ⟨_, by rw [show ((i : Int) + 2 + (k : Int) + 1) = ((i + k + 3 : Nat) : Int) by omega], ?_⟩
          have h5 := S2.out.new (d := w2.heap.size) [.string (Utf8.encode (v : Int))] 138 rfl
          exact Sat.ex_mk w2.heap.size (h5.cast (by rw [pur_star rfl, HU.out _ FIX.out]))

end Go.Proofs.YtcmpcjffmccllaaGreatDoor
