/- Inlines: numbers of the base 16; ParseInt. -/
import Derived.Test.YtbfmmikllelfeaaGreatDoorI1
import Derived.Test.YtbfmmikllelfeaaGreatDoorI3
import Derived.Test.YtbfmmikllelfeaaGreatDoorSa
import Derived.Lib.ConvBytes
import Derived.Laws.Runes
namespace Go.Proofs.YtbfmmikllelfeaaGreatDoor
open Go.RowKit Sl

theorem hexVal_snoc : ∀ (l : List UInt8) (a : Nat) (c : UInt8), hexVal a (l ++ [c]) = (hexVal a l).bind fun b => (hexDig c).map fun d => 16 * b + d
  | [], a, c => by
    show (match hexDig c with | some d => hexVal (16 * a + d) [] | none => none) = _
    cases hexDig c <;> rfl
  | x :: t, a, c => by
    show (match hexDig x with | some d => hexVal (16 * a + d) (t ++ [c]) | none => none) = (match hexDig x with | some d => hexVal (16 * a + d) t | none => none).bind _
    cases hexDig x with
    | none => rfl
    | some d => exact hexVal_snoc t _ c

theorem hexDig_lt {c : UInt8} {d : Nat} (h : hexDig c = some d) : d < 16 ∧ ((48 ≤ c.toNat ∧ c.toNat ≤ 57 ∧ d = c.toNat - 48) ∨ (97 ≤ c.toNat ∧ c.toNat ≤ 102 ∧ d = c.toNat - 87)) := by
  unfold hexDig at h
  split at h
  · next hc =>
    have a1 : 48 ≤ c.toNat := hc.1
    have a2 : c.toNat ≤ 57 := hc.2
    have := Option.some.inj h
    omega
  · split at h
    · next hc =>
      have a1 : 97 ≤ c.toNat := hc.1
      have a2 : c.toNat ≤ 102 := hc.2
      have := Option.some.inj h
      omega
    · cases h

theorem hexVal_lt : ∀ (n : Nat) (l : List UInt8) (v : Nat), l.length = n → hexVal 0 l = some v → v < 16 ^ n
  | 0, l, v, hl, h => by
    obtain rfl := List.eq_nil_of_length_eq_zero hl
    obtain rfl : 0 = v := by simpa [hexVal] using h
    decide
  | n + 1, l, v, hl, h => by
    obtain ⟨a, c, rfl⟩ : ∃ a c, l = a ++ [c] := ⟨l.dropLast, l.getLast (by rintro rfl; simp at hl), (List.dropLast_concat_getLast _).symm⟩
    rw [hexVal_snoc] at h
    cases h1 : hexVal 0 a with
    | none => rw [h1] at h; cases h
    | some b =>
      rw [h1] at h
      cases h2 : hexDig c with
      | none => rw [h2] at h; cases h
      | some d =>
        rw [h2] at h
        have hv : 16 * b + d = v := Option.some.inj h
        have := hexVal_lt n a b (by simp at hl; exact hl) h1
        have := (hexDig_lt h2).1
        rw [Nat.pow_succ]
        omega

/-- Part of a number: its first k digits, and the next one. -/
theorem hexVal_take {l : List UInt8} {v : Nat} (h : hexVal 0 l = some v) : ∀ k, k ≤ l.length → ∃ a, hexVal 0 (l.take k) = some a ∧ a < 16 ^ k ∧ ∀ hk : k < l.length, ∃ d, hexDig l[k] = some d ∧ hexVal 0 (l.take (k + 1)) = some (16 * a + d) := by
  intro k hk
  have key : ∀ j, j ≤ l.length → ∃ a, hexVal 0 (l.take (l.length - j)) = some a := by
    intro j hj
    induction j with
    | zero => exact ⟨v, by rw [Nat.sub_zero, List.take_length]; exact h⟩
    | succ j ih =>
      obtain ⟨a, ha⟩ := ih (by omega)
      have e : l.length - j = (l.length - (j + 1)) + 1 := by omega
      rw [e, List.take_succ_eq_append_getElem (by omega), hexVal_snoc] at ha
      cases h1 : hexVal 0 (l.take (l.length - (j + 1))) with
      | none => rw [h1] at ha; cases ha
      | some b => exact ⟨b, rfl⟩
  obtain ⟨a, ha⟩ := key (l.length - k) (by omega)
  rw [show l.length - (l.length - k) = k by omega] at ha
  refine ⟨a, ha, hexVal_lt k _ a (by rw [List.length_take]; omega) ha, fun hk' => ?_⟩
  obtain ⟨b, hb⟩ := key (l.length - (k + 1)) (by omega)
  rw [show l.length - (l.length - (k + 1)) = k + 1 by omega] at hb
  have hb' := hb
  rw [List.take_succ_eq_append_getElem hk', hexVal_snoc, ha] at hb
  cases h2 : hexDig l[k] with
  | none => rw [h2] at hb; cases hb
  | some d =>
    rw [h2] at hb
    have hv : 16 * a + d = b := Option.some.inj hb
    exact ⟨d, rfl, by rw [hb', hv]⟩

set_option maxRecDepth 100000 in
set_option maxHeartbeats 1000000 in
theorem lower_w (c : UInt8) (w : World) (h1 : 97 ≤ c.toNat) (h2 : c.toNat ≤ 102) : Calls Tryz.prog 264 #[.int .u8 c.toNat] w fun e w' => e = .returned (.int .u8 c.toNat) ∧ w = w' := by
  have hc : c = 97 ∨ c = 98 ∨ c = 99 ∨ c = 100 ∨ c = 101 ∨ c = 102 := by
    have : c.toNat = 97 ∨ c.toNat = 98 ∨ c.toNat = 99 ∨ c.toNat = 100 ∨ c.toNat = 101 ∨ c.toNat = 102 := by omega
    rcases this with h | h | h | h | h | h
    · exact .inl (UInt8.toNat_inj.1 h)
    · exact .inr (.inl (UInt8.toNat_inj.1 h))
    · exact .inr (.inr (.inl (UInt8.toNat_inj.1 h)))
    · exact .inr (.inr (.inr (.inl (UInt8.toNat_inj.1 h))))
    · exact .inr (.inr (.inr (.inr (.inl (UInt8.toNat_inj.1 h)))))
    · exact .inr (.inr (.inr (.inr (.inr (UInt8.toNat_inj.1 h)))))
  rcases hc with rfl | rfl | rfl | rfl | rfl | rfl
  all_goals
    go_enter Tryz.func264, Tryz.ntmps264
    go_wp2
    go_ret
    exact ⟨rfl, rfl⟩

set_option maxRecDepth 100000 in
set_option maxHeartbeats 2000000 in
theorem parseUint_w (l : List UInt8) (v : Nat) (w : World) (h1 : 1 ≤ l.length) (h6 : l.length ≤ 6) (hv : hexVal 0 l = some v) :
    Calls Tryz.prog 253 #[.string (B.bs l), .int .i64 16, .int .i64 0] w fun e w' => e = .returned (.tuple #[.int .u64 v, .nilIface]) ∧ Below w.heap.size w w' := by
  have hz : (B.bs l).size = l.length := rfl
  have he : (B.bs l).toList.isEmpty = false := by
    rw [Lib.toList_data, B.bs_data]
    cases l with
    | nil => simp at h1
    | cons => rfl
  obtain ⟨w2, cap, hcv, hb2, hcell⟩ : ∃ (w2 : World) (cap : Nat), (convert 9 44 (.string (B.bs l))).run Tryz.prog w = .ok (.slice (some ⟨w.heap.size, 0, none⟩) l.length cap) w2 ∧ Below w.heap.size w w2 ∧ ∀ j (hj : j < l.length), w2.cell? ⟨w.heap.size, j, none⟩ = some (.int .u8 l[j].toNat) := by
    refine ⟨Lib.bytesWorld w 5 (B.bs l), _, Lib.run_convert_string_bytes w _ _ _ (B.bs l) Tryz.underlying9 Tryz.underlying44 Tryz.underlying5, ⟨rfl, rfl, rfl, by rw [Lib.bytesWorld_size]; omega, fun j hj => Lib.bytesWorld_at_old w _ _ j hj⟩, fun j hj => ?_⟩
    rw [Lib.bytesWorld_cell w _ _ j (by rw [hz]; exact hj), B.bs_data]
    simp [List.getD, hj]
  have hstep := hexVal_take hv
  have hfin : hexVal 0 (l.take l.length) = some v := by rw [List.take_length]; exact hv
  have HST := Lib.hid hstep
  have HFI := Lib.hid hfin
  have HCE := Lib.hid hcell
  have hwr : IntKind.u64.wrap (IntKind.u64.wrap 18446744073709551616 - 1) = 18446744073709551615 := by decide
  have hwr2 : IntKind.u64.wrap (-1) = 18446744073709551615 := by decide
  clear hstep hfin hcell hv
  generalize w.heap.size = bk at *
  go_enter Tryz.func253, Tryz.ntmps253
  go_wp2
  try rw [hwr]
  try rw [hwr2]
  go_loopw [12, 13, 101] (fun u a i wr => ∃ (k A : Nat), k ≤ l.length ∧ u = .bool false ∧ i = .int .i64 k ∧ a = .int .u64 A ∧ hexVal 0 (l.take k) = some A ∧ w2 = wr) (fun _ _ i _ => l.length - (intOf i).toNat)
  case atStart => exact ⟨0, 0, Nat.zero_le _, rfl, rfl, rfl, rfl, rfl⟩
  case round =>
    obtain ⟨k, A, hk, rfl, rfl, rfl, hA, rfl⟩ := hrel
    obtain ⟨A', hA', hlt6, hnx⟩ := HST.out k hk
    obtain rfl : A' = A := by rw [hA] at hA'; exact (Option.some.inj hA').symm
    have hA16 : A' < 16777216 := Nat.lt_of_lt_of_le hlt6 (Nat.pow_le_pow_right (by decide) (show k ≤ 6 by omega))
    have HA := Lib.hid hA
    clear hA hA' hlt6
    by_cases hlt : k < l.length
    · obtain ⟨d, hd, hA2⟩ := hnx hlt
      have hc0 := HCE.out k hlt
      obtain ⟨hd16, hcc⟩ := hexDig_lt hd
      generalize l[k] = c at *
      have HA2 := Lib.hid hA2
      clear hnx hA2 hd
      have g1 : decide ((1152921504606846976 : Int) ≤ (A' : Int)) = false := by simp; omega
      have HA16 := Lib.hid hA16
      have HK := Lib.hid hk
      have e95 : ((c.toNat : Int) == 95) = false := by simp; omega
      rcases hcc with ⟨q1, q2, q3⟩ | ⟨q1, q2, q3⟩
      · have HSUB := Lib.hid (show ((c.toNat : Int) - 48) = (d : Int) by omega)
        clear q3 hb2 hcv hwr hwr2 he hd16 hk hA16
        go_upto_region 50 with fail
        have hA16 := HA16.out
        have g2 : decide ((A' : Int) * 16 + ((c.toNat : Int) - 48) < (A' : Int) * 16) = false := by simp; omega
        have g3 : decide ((18446744073709551615 : Int) < (A' : Int) * 16 + ((c.toNat : Int) - 48)) = false := by simp; omega
        go_wp2
        go_roundw
        case rel => exact ⟨k + 1, 16 * A' + d, by omega, rfl, by go_num, by rw [HSUB.out]; congr 1; omega, HA2.out, by first | trivial | rfl⟩
        case measure => simp [intOf]; omega
      · have HSUB := Lib.hid (show ((c.toNat : Int) - 97 + 10) = (d : Int) by omega)
        have HLO := Lib.hid (lower_w c w2 q1 q2)
        clear q3 hb2 hcv hwr hwr2 he hd16 hk hA16
        go_wp2_with fail
        refine HLO.out.mono ?_
        rintro e1 w3 ⟨rfl, rfl⟩
        go_wp2_with fail
        refine HLO.out.mono ?_
        rintro e1 w3 ⟨rfl, rfl⟩
        go_wp2_with fail
        refine HLO.out.mono ?_
        rintro e1 w3 ⟨rfl, rfl⟩
        go_upto_region 50 with fail
        have hA16 := HA16.out
        have g2 : decide ((A' : Int) * 16 + ((c.toNat : Int) - 97 + 10) < (A' : Int) * 16) = false := by simp; omega
        have g3 : decide ((18446744073709551615 : Int) < (A' : Int) * 16 + ((c.toNat : Int) - 97 + 10)) = false := by simp; omega
        go_wp2
        go_roundw
        case rel => exact ⟨k + 1, 16 * A' + d, by omega, rfl, by go_num, by rw [HSUB.out]; congr 1; omega, HA2.out, by first | trivial | rfl⟩
        case measure => simp [intOf]; omega
    · obtain rfl : k = l.length := by omega
      have hva : A' = v := by
        have h1 := HFI.out
        have := HA.out
        rw [h1] at this
        exact (Option.some.inj this).symm
      subst hva
      have HB2 := Lib.hid hb2
      clear hwr hwr2 he hcv hnx hb2
      go_wp2
      refine bodyPost_ret (v := .tuple #[.int .u64 A', .nilIface]) (by simp [results, Tryz.results253, go_sem]) rfl ⟨rfl, HB2.out⟩

theorem wrap64_small {v : Int} (h0 : 0 ≤ v) (h1 : v < 9223372036854775808) : wrap64 v = v := by
  unfold wrap64
  omega

set_option maxRecDepth 100000 in
set_option maxHeartbeats 2000000 in
theorem parseIntIn_w (l : List UInt8) (v : Nat) (w : World) (h1 : 1 ≤ l.length) (h6 : l.length ≤ 6) (hv : hexVal 0 l = some v) :
    Calls Tryz.prog 226 #[.string (B.bs l), .int .i64 16, .int .i64 0] w fun e w' => e = .returned (.tuple #[.int .i64 v, .nilIface]) ∧ Below w.heap.size w w' := by
  have hz : (B.bs l).size = l.length := rfl
  have he : (B.bs l).toList.isEmpty = false := by
    rw [Lib.toList_data, B.bs_data]
    cases l with
    | nil => simp at h1
    | cons => rfl
  have hv6 : v < 16777216 := Nat.lt_of_lt_of_le (hexVal_lt _ l v rfl hv) (Nat.pow_le_pow_right (by decide) h6)
  obtain ⟨c, hix, hc1, hc2⟩ : ∃ c : UInt8, (∀ h, (B.bs l)[0]'h = c) ∧ ((c.toNat : Int) == 43) = false ∧ ((c.toNat : Int) == 45) = false := by
    obtain ⟨a, _, _, hnx⟩ := hexVal_take hv 0 (Nat.zero_le _)
    obtain ⟨d, hd, _⟩ := hnx h1
    have := (hexDig_lt hd).2
    refine ⟨l[0], fun _ => rfl, ?_, ?_⟩ <;> simp <;> omega
  have HP := Lib.hid (parseUint_w l v w h1 h6 hv)
  have hge : decide ((9223372036854775808 : Int) ≤ (v : Int)) = false := by simp; omega
  have HV := Lib.hid hv6
  clear hv hv6
  go_enter Tryz.func226, Tryz.ntmps226
  go_wp2_with fail
  refine HP.out.mono ?_
  rintro e w2 ⟨rfl, hb2⟩
  have hw : wrap64 (v : Int) = (v : Int) := wrap64_small (by omega) (by have := HV.out; omega)
  go_wp2
  refine bodyPost_ret (v := .tuple #[.int .i64 v, .nilIface]) (by simp [results, Tryz.results226, go_sem, hw]) rfl ⟨rfl, hb2⟩

set_option maxRecDepth 100000 in
set_option maxHeartbeats 2000000 in
theorem parseInt16_w (l : List UInt8) (v : Nat) (w : World) (h1 : 1 ≤ l.length) (h6 : l.length ≤ 6) (hv : hexVal 0 l = some v) :
    Calls Tryz.prog 166 #[.string (B.bs l), .int .i64 16, .int .i64 0] w fun e w' => e = .returned (.tuple #[.int .i64 v, .nilIface]) ∧ Below w.heap.size w w' := by
  have HP := Lib.hid (parseIntIn_w l v w h1 h6 hv)
  clear hv
  go_enter Tryz.func166, Tryz.ntmps166
  go_wp2_with fail
  refine HP.out.mono ?_
  rintro e w2 ⟨rfl, hb2⟩
  go_wp2
  refine bodyPost_ret (v := .tuple #[.int .i64 v, .nilIface]) (by simp [results, Tryz.results166, go_sem]) rfl ⟨rfl, hb2⟩

end Go.Proofs.YtbfmmikllelfeaaGreatDoor

/- Inlines: numeric references. -/
namespace Go.Proofs.YtbfmmikllelfeaaGreatDoor
open Go.RowKit Sl

def hexB (c : UInt8) : Bool := decide ((65 ≤ c.toNat ∧ c.toNat ≤ 70) ∨ (97 ≤ c.toNat ∧ c.toNat ≤ 102) ∨ (48 ≤ c.toNat ∧ c.toNat ≤ 57))
def decB (c : UInt8) : Bool := decide (48 ≤ c.toNat) && decide (c.toNat ≤ 57)

set_option maxRecDepth 100000 in
set_option maxHeartbeats 1000000 in
theorem isHexDigit_w (c : UInt8) (w : World) : Calls Tryz.prog 165 #[.int .u8 c.toNat] w fun e w' => e = .returned (.bool (hexB c)) ∧ w = w' := by
  go_enter Tryz.func165, Tryz.ntmps165
  go_wp2
  all_goals
    go_ret
    refine ⟨ret_bool ?_, rfl⟩
    unfold hexB
    rw [Bool.eq_iff_iff]
    simp only [Bool.or_eq_true, decide_eq_true_eq, true_iff, Bool.false_eq_true, false_iff, eq_self]
    omega

set_option maxRecDepth 100000 in
set_option maxHeartbeats 1000000 in
theorem isDigit_w (c : UInt8) (w : World) : Calls Tryz.prog 167 #[.int .u8 c.toNat] w fun e w' => e = .returned (.bool (decB c)) ∧ w = w' := by
  unfold decB
  go_enter Tryz.func167, Tryz.ntmps167
  go_wp2
  all_goals
    go_ret
    refine ⟨ret_bool ?_, rfl⟩
    rw [Bool.eq_iff_iff]
    simp
    omega

/-- What stands at a place of a text's part. -/
theorem drop_at {s : List UInt8} {i : Nat} {x : List UInt8} (h : s.drop i = x) (j : Nat) : s[i + j]? = x[j]? := by
  rw [← h, List.getElem?_drop]

theorem bs_ex (b : ByteArray) : ∃ u, B.bs u = b := ⟨b.data.toList, by cases b; rfl⟩

theorem fix_big {v : Nat} (h : 1114111 < v) : (fixRune v : Int) = 65533 := by unfold fixRune; rw [if_pos (.inr h)]; simp
theorem fix_zero : (fixRune 0 : Int) = 65533 := by unfold fixRune; rw [if_pos (.inl rfl)]; simp
theorem fix_ok {v : Nat} (h0 : v ≠ 0) (h : ¬ 1114111 < v) : (fixRune v : Int) = (v : Int) := by unfold fixRune; rw [if_neg (by omega)]

theorem wrap_i32 {v : Int} (h0 : 0 ≤ v) (h1 : v < 2147483648) : IntKind.i32.wrap v = v := by
  unfold IntKind.wrap
  simp [IntKind.bits, IntKind.signed]
  omega

set_option maxRecDepth 100000 in
set_option maxHeartbeats 2000000 in
theorem parseEntHex_w (p : Option Addr) (s ds r : List UInt8) (i v : Nat) (hsl : s.length ≤ 1000000000) (h : s.drop i = 38 :: 35 :: 120 :: (ds ++ 59 :: r)) (h1 : 1 ≤ ds.length) (h6 : ds.length ≤ 6) (hv : hexVal 0 ds = some v) (u : List UInt8) (hu : ∀ r : Int, (fixRune v : Int) = r → B.bs u = Utf8.encode r) (w : World) (G : HP) (hs : Sat w G) :
    Calls Tryz.prog 119 #[.pointer p, .string (B.bs s), .int .i64 i] w fun e w' => ∃ x, e = .returned (.tuple #[x, .int .i64 i, .int .i64 (i + ds.length + 4 : Nat), .bool true]) ∧ Sat w' (TokAt x (.plain u) * G) := by
  have hz : (B.bs s).size = s.length := rfl
  have hlen := congrArg List.length h
  simp only [List.length_drop, List.length_cons, List.length_append] at hlen
  have hat : ∀ j c, (38 :: 35 :: 120 :: (ds ++ 59 :: r))[j]? = some c → ∀ hh, (B.bs s)[i + j]'hh = c := fun j c hj _ => by
    have := (drop_at h j).trans hj
    exact (List.getElem?_eq_some_iff.1 this).2
  have x1 := hat 1 35 rfl
  have x2 := hat 2 120 rfl
  have hmid : ∀ k, k < ds.length → ∃ c : UInt8, (∀ hh, (B.bs s)[i + 3 + k]'hh = c) ∧ hexB c = true := fun k hk => by
    refine ⟨ds[k], fun hh => ?_, ?_⟩
    · have := hat (3 + k) ds[k] (by rw [show 3 + k = k + 1 + 1 + 1 by omega]; simp only [List.getElem?_cons_succ]; rw [List.getElem?_append_left hk]; simp [hk]) (by rw [← Nat.add_assoc]; exact hh)
      simpa [Nat.add_assoc] using this
    · obtain ⟨_, _, _, hnx⟩ := hexVal_take hv k (by omega)
      obtain ⟨d, hd, _⟩ := hnx hk
      have := (hexDig_lt hd).2
      unfold hexB
      simp; omega
  have hendc : ∀ hh, (B.bs s)[i + 3 + ds.length]'hh = 59 := fun hh => by
    have := hat (3 + ds.length) 59 (by rw [show 3 + ds.length = ds.length + 1 + 1 + 1 by omega]; simp only [List.getElem?_cons_succ]; rw [List.getElem?_append_right (Nat.le_refl _)]; simp) (by rw [← Nat.add_assoc]; exact hh)
    simpa [Nat.add_assoc] using this
  have hcut : (B.bs s).extract (i + 3) (i + 3 + ds.length) = B.bs ds := by
    rw [B.extract_bs, B.bs_data, ← List.drop_drop, h]
    congr 1
    show ((ds ++ 59 :: r)).take _ = ds
    rw [Nat.add_sub_cancel_left, List.take_left]
  have hv6 : v < 16777216 := Nat.lt_of_lt_of_le (hexVal_lt _ ds v rfl hv) (Nat.pow_le_pow_right (by decide) h6)
  have HM := Lib.hid hmid
  have HU := Lib.hid hu
  clear hu
  have HPI := Lib.hid (fun w => parseInt16_w ds v w h1 h6 hv)
  have HS := Lib.hid hs
  have HV := Lib.hid hv6
  have HX := Lib.hid (fun c w => isHexDigit_w c w)
  have hl3 : i + 3 + ds.length < s.length := by omega
  have hw : wrap64 (v : Int) = (v : Int) := wrap64_small (by omega) (by omega)
  clear hmid h hat hlen hv hs hv6
  generalize ds.length = D at *
  go_enter Tryz.func119, Tryz.ntmps119
  go_wp2
  go_loopw [13] (fun a wr => ∃ k : Nat, k ≤ D ∧ a = .int .i64 ((i : Int) + 3 + (k : Int)) ∧ w = wr) (fun a _ => s.length - (intOf a).toNat)
  case atStart => exact ⟨0, Nat.zero_le _, by simp <;> omega, rfl⟩
  case round =>
    obtain ⟨k, hk, rfl, rfl⟩ := hrel
    clear x1 x2
    by_cases hlt : k < D
    · obtain ⟨c, hix, hb⟩ := HM.out k hlt
      have hx := HX.out c w
      rw [hb] at hx
      have HXX := Lib.hid hx
      clear hx hb hendc hcut
      go_wp2_with fail
      refine HXX.out.mono ?_
      rintro e w1 ⟨rfl, rfl⟩
      go_wp2
      go_roundw
      case rel => exact ⟨k + 1, by omega, by go_num, by first | trivial | rfl⟩
      case measure => simp [intOf]; omega
    · obtain rfl : k = D := by omega
      have hx := HX.out 59 w
      rw [show hexB 59 = false by decide] at hx
      have HXX := Lib.hid hx
      clear hx
      go_wp2_with fail
      refine HXX.out.mono ?_
      rintro e w1 ⟨rfl, rfl⟩
      go_wp2_with fail
      refine (HPI.out w).mono ?_
      rintro e w2 ⟨rfl, hb2⟩
      have S2 := Lib.hid (HS.out.ext hb2)
      have hv6 := HV.out
      clear HS hb2 hcut hendc HM
      by_cases hbig : 1114111 < v
      · have g1 : decide ((1114111 : Int) < (v : Int)) = true := by simp; omega
        go_wp2
        refine bodyPost_ret (v := .tuple #[.iface 218 (.pointer (some ⟨w2.heap.size, 0, none⟩)), .int .i64 i, .int .i64 ((i : Int) + 3 + (k : Int) + 1), .bool true]) (by simp [results, Tryz.results119, go_sem]) rfl ⟨_, by rw [show ((i : Int) + 3 + (k : Int) + 1) = ((i + k + 4 : Nat) : Int) by omega], ?_⟩
        have h5 := S2.out.new (d := w2.heap.size) [.string (Utf8.encode 65533)] 210 rfl
        exact Sat.ex_mk w2.heap.size (h5.cast (by rw [pur_star rfl, HU.out _ (fix_big hbig)]))
      · have g1 : decide ((1114111 : Int) < (v : Int)) = false := by simp; omega
        by_cases h0 : v = 0
        · subst h0
          go_wp2
          refine bodyPost_ret (v := .tuple #[.iface 218 (.pointer (some ⟨w2.heap.size, 0, none⟩)), .int .i64 i, .int .i64 ((i : Int) + 3 + (k : Int) + 1), .bool true]) (by simp [results, Tryz.results119, go_sem]) rfl ⟨_, by rw [show ((i : Int) + 3 + (k : Int) + 1) = ((i + k + 4 : Nat) : Int) by omega], ?_⟩
          have h5 := S2.out.new (d := w2.heap.size) [.string (Utf8.encode 65533)] 210 rfl
          exact Sat.ex_mk w2.heap.size (h5.cast (by rw [pur_star rfl, HU.out _ fix_zero]))
        · have g2 : ((v : Int) == 0) = false := by simp; omega
          have g3 : IntKind.i32.wrap (v : Int) = (v : Int) := wrap_i32 (by omega) (by omega)
          have FIX := Lib.hid (fix_ok h0 hbig)
          go_wp2
          refine bodyPost_ret (v := .tuple #[.iface 218 (.pointer (some ⟨w2.heap.size, 0, none⟩)), .int .i64 i, .int .i64 ((i : Int) + 3 + (k : Int) + 1), .bool true]) (by simp [results, Tryz.results119, go_sem]) rfl ⟨_, by rw [show ((i : Int) + 3 + (k : Int) + 1) = ((i + k + 4 : Nat) : Int) by omega], ?_⟩
          have h5 := S2.out.new (d := w2.heap.size) [.string (Utf8.encode (v : Int))] 210 rfl
          exact Sat.ex_mk w2.heap.size (h5.cast (by rw [pur_star rfl, HU.out _ FIX.out]))

set_option maxRecDepth 100000 in
set_option maxHeartbeats 2000000 in
theorem parseEntDec_w (p : Option Addr) (s ds r : List UInt8) (i v : Nat) (hsl : s.length ≤ 1000000000) (h : s.drop i = 38 :: 35 :: (ds ++ 59 :: r)) (h1 : 1 ≤ ds.length) (h6 : ds.length ≤ 7) (hd : ∀ c ∈ ds, 48 ≤ c ∧ c ≤ 57) (hv : Lib.atoi ds = some (v : Int)) (u : List UInt8) (hu : ∀ r : Int, (fixRune v : Int) = r → B.bs u = Utf8.encode r) (w : World) (G : HP) (hs : Sat w G) :
    Calls Tryz.prog 119 #[.pointer p, .string (B.bs s), .int .i64 i] w fun e w' => ∃ x, e = .returned (.tuple #[x, .int .i64 i, .int .i64 (i + ds.length + 3 : Nat), .bool true]) ∧ Sat w' (TokAt x (.plain u) * G) := by
  have hz : (B.bs s).size = s.length := rfl
  have hlen := congrArg List.length h
  simp only [List.length_drop, List.length_cons, List.length_append] at hlen
  have hat : ∀ j c, (38 :: 35 :: (ds ++ 59 :: r))[j]? = some c → ∀ hh, (B.bs s)[i + j]'hh = c := fun j c hj _ => by
    have := (drop_at h j).trans hj
    exact (List.getElem?_eq_some_iff.1 this).2
  have x1 := hat 1 35 rfl
  have hmid : ∀ k, k < ds.length → ∃ c : UInt8, (∀ hh, (B.bs s)[i + 2 + k]'hh = c) ∧ decB c = true := fun k hk => by
    refine ⟨ds[k], fun hh => ?_, ?_⟩
    · have := hat (2 + k) ds[k] (by rw [show 2 + k = k + 1 + 1 by omega]; simp only [List.getElem?_cons_succ]; rw [List.getElem?_append_left hk]; simp [hk]) (by rw [← Nat.add_assoc]; exact hh)
      simpa [Nat.add_assoc] using this
    · have := hd ds[k] (List.getElem_mem hk)
      have a1 : 48 ≤ ds[k].toNat := this.1
      have a2 : ds[k].toNat ≤ 57 := this.2
      unfold decB
      simp; omega
  have hendc : ∀ hh, (B.bs s)[i + 2 + ds.length]'hh = 59 := fun hh => by
    have := hat (2 + ds.length) 59 (by rw [show 2 + ds.length = ds.length + 1 + 1 by omega]; simp only [List.getElem?_cons_succ]; rw [List.getElem?_append_right (Nat.le_refl _)]; simp) (by rw [← Nat.add_assoc]; exact hh)
    simpa [Nat.add_assoc] using this
  have hcut : (B.bs s).extract (i + 2) (i + 2 + ds.length) = B.bs ds := by
    rw [B.extract_bs, B.bs_data, ← List.drop_drop, h]
    congr 1
    show ((ds ++ 59 :: r)).take _ = ds
    rw [Nat.add_sub_cancel_left, List.take_left]
  obtain ⟨c2, x2, y1, y2⟩ : ∃ c : UInt8, (∀ hh, (B.bs s)[i + 2]'hh = c) ∧ ((c.toNat : Int) == 120) = false ∧ ((c.toNat : Int) == 88) = false := by
    obtain ⟨c, q1, q2⟩ := hmid 0 (by omega)
    unfold decB at q2
    simp at q2
    refine ⟨c, q1, ?_, ?_⟩ <;> simp <;> omega
  have hat2 : ∀ w, Calls Tryz.prog 168 #[.string (B.bs ds)] w fun e w' => e = .returned (.tuple #[.int .i64 v, .nilIface]) ∧ Below w.heap.size w w' := fun w => by
    refine (Sa.strconv_Atoi (B.bs ds) v (by rw [B.bs_size]; omega) (by rw [B.bs_data]; exact hv) w).mono ?_
    rintro e w' ⟨rfl, t, rfl⟩
    exact ⟨rfl, ⟨rfl, rfl, rfl, by rw [Lib.bytesWorld_size]; omega, fun j hj => Lib.bytesWorld_at_old w _ _ j hj⟩⟩
  have HM := Lib.hid hmid
  have HU := Lib.hid hu
  clear hu
  have HPI := Lib.hid hat2
  have HS := Lib.hid hs
  have HX := Lib.hid (fun c w => isDigit_w c w)
  have hl3 : i + 2 + ds.length < s.length := by omega
  clear hmid h hat hlen hv hs hat2 hd
  generalize ds.length = D at *
  go_enter Tryz.func119, Tryz.ntmps119
  go_wp2
  go_loopw [16] (fun a wr => ∃ k : Nat, k ≤ D ∧ a = .int .i64 ((i : Int) + 2 + (k : Int)) ∧ w = wr) (fun a _ => s.length - (intOf a).toNat)
  case atStart => exact ⟨0, Nat.zero_le _, by simp <;> omega, rfl⟩
  case round =>
    obtain ⟨k, hk, rfl, rfl⟩ := hrel
    clear x1 x2 y1 y2
    by_cases hlt : k < D
    · obtain ⟨c, hix, hb⟩ := HM.out k hlt
      have hx := HX.out c w
      rw [hb] at hx
      have HXX := Lib.hid hx
      clear hx hb hendc hcut
      go_wp2_with fail
      refine HXX.out.mono ?_
      rintro e w1 ⟨rfl, rfl⟩
      go_wp2
      go_roundw
      case rel => exact ⟨k + 1, by omega, by go_num, by first | trivial | rfl⟩
      case measure => simp [intOf]; omega
    · obtain rfl : k = D := by omega
      have hx := HX.out 59 w
      rw [show decB 59 = false by decide] at hx
      have HXX := Lib.hid hx
      clear hx
      go_wp2_with fail
      refine HXX.out.mono ?_
      rintro e w1 ⟨rfl, rfl⟩
      go_wp2_with fail
      refine (HPI.out w).mono ?_
      rintro e w2 ⟨rfl, hb2⟩
      have S2 := Lib.hid (HS.out.ext hb2)
      clear HS hb2 hcut hendc HM
      by_cases hbig : 1114111 < v
      · have g1 : decide ((1114111 : Int) < (v : Int)) = true := by simp; omega
        go_wp2
        refine bodyPost_ret (v := .tuple #[.iface 218 (.pointer (some ⟨w2.heap.size, 0, none⟩)), .int .i64 i, .int .i64 ((i : Int) + 2 + (k : Int) + 1), .bool true]) (by simp [results, Tryz.results119, go_sem]) rfl ⟨_, by rw [show ((i : Int) + 2 + (k : Int) + 1) = ((i + k + 3 : Nat) : Int) by omega], ?_⟩
        have h5 := S2.out.new (d := w2.heap.size) [.string (Utf8.encode 65533)] 210 rfl
        exact Sat.ex_mk w2.heap.size (h5.cast (by rw [pur_star rfl, HU.out _ (fix_big hbig)]))
      · have g1 : decide ((1114111 : Int) < (v : Int)) = false := by simp; omega
        by_cases h0 : v = 0
        · subst h0
          go_wp2
          refine bodyPost_ret (v := .tuple #[.iface 218 (.pointer (some ⟨w2.heap.size, 0, none⟩)), .int .i64 i, .int .i64 ((i : Int) + 2 + (k : Int) + 1), .bool true]) (by simp [results, Tryz.results119, go_sem]) rfl ⟨_, by rw [show ((i : Int) + 2 + (k : Int) + 1) = ((i + k + 3 : Nat) : Int) by omega], ?_⟩
          have h5 := S2.out.new (d := w2.heap.size) [.string (Utf8.encode 65533)] 210 rfl
          exact Sat.ex_mk w2.heap.size (h5.cast (by rw [pur_star rfl, HU.out _ fix_zero]))
        · have g2 : ((v : Int) == 0) = false := by simp; omega
          have g3 : IntKind.i32.wrap (v : Int) = (v : Int) := wrap_i32 (by omega) (by omega)
          have FIX := Lib.hid (fix_ok h0 hbig)
          go_wp2
          refine bodyPost_ret (v := .tuple #[.iface 218 (.pointer (some ⟨w2.heap.size, 0, none⟩)), .int .i64 i, .int .i64 ((i : Int) + 2 + (k : Int) + 1), .bool true]) (by simp [results, Tryz.results119, go_sem]) rfl ⟨_, by rw [show ((i : Int) + 2 + (k : Int) + 1) = ((i + k + 3 : Nat) : Int) by omega], ?_⟩
          have h5 := S2.out.new (d := w2.heap.size) [.string (Utf8.encode (v : Int))] 210 rfl
          exact Sat.ex_mk w2.heap.size (h5.cast (by rw [pur_star rfl, HU.out _ FIX.out]))

end Go.Proofs.YtbfmmikllelfeaaGreatDoor
