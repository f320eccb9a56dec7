/- trimSpaceTab. -/
import Derived.Test.YtigcmibkgcmfcaaGreatDoorN2
namespace Go.Proofs.YtigcmibkgcmfcaaGreatDoor
open Go.RowKit

theorem B.trimR_step {l : List UInt8} {k : Nat} (h : k < l.length) (hs : B.isST l[k] = true) : B.trimR (l.take (k + 1)) = B.trimR (l.take k) := by
  unfold B.trimR
  rw [List.take_succ_eq_append_getElem h, List.reverse_append]
  simp [hs]
theorem B.trimR_stop {l : List UInt8} {k : Nat} (h : k < l.length) (hs : B.isST l[k] = false) : B.trimR (l.take (k + 1)) = l.take (k + 1) := by
  unfold B.trimR
  rw [List.take_succ_eq_append_getElem h, List.reverse_append]
  simp [hs]

theorem isST_of {c : UInt8} (h : ((c.toNat : Int) == 32) = true ∨ ((c.toNat : Int) == 9) = true) : B.isST c = true := by
  unfold B.isST
  rcases h with h | h
  · have : c.toNat = 32 := by have := h; simp at this; omega
    rw [show c = 32 from UInt8.toNat_inj.1 this]; rfl
  · have : c.toNat = 9 := by have := h; simp at this; omega
    rw [show c = 9 from UInt8.toNat_inj.1 this]; rfl

set_option maxHeartbeats 1000000 in
theorem trimSpaceTab_w (s : List UInt8) (w : World) (hs : s.length ≤ 1000000000000) :
    Calls Tryz.prog 62 #[.string (B.bs s)] w fun e w' => e = .returned (.string (B.bs (B.trimR (B.trimL s)))) ∧ w = w' := by
  go_enter Tryz.func62, Tryz.ntmps62
  go_wp2
  go_loopw [3] (fun i wr => ∃ k : Nat, k ≤ s.length ∧ i = .int .i64 k ∧ B.trimL s = B.trimL (s.drop k) ∧ w = wr) (fun i _ => s.length - (intOf i).toNat)
  case atStart => exact ⟨0, Nat.zero_le _, rfl, rfl, rfl⟩
  case round =>
    obtain ⟨k, hk, rfl, hn, rfl⟩ := hrel
    have HN := Lib.hid hn
    clear hn
    have hz : (B.bs s).size = s.length := rfl
    by_cases hlt : k < s.length ∧ B.isST (s[k]?.getD 0) = true
    · obtain ⟨hlt, hst⟩ := hlt
      generalize hc : s[k] = c
      have hix : ∀ h, (B.bs s)[k]'h = c := fun _ => hc
      have HIX := Lib.hid hix
      have hst2 : B.isST c = true := by rw [← hc]; simpa [hlt] using hst
      have hd : s.drop k = c :: s.drop (k + 1) := by rw [List.drop_eq_getElem_cons hlt, hc]
      have HD := Lib.hid hd
      clear hd hst
      have hcc : c = 32 ∨ c = 9 := by simpa [B.isST] using hst2
      rcases hcc with rfl | rfl
      all_goals
        go_wp2
        go_roundw
        case rel => exact ⟨k + 1, by omega, by go_num, by rw [HN.out, HD.out]; rfl, by first | trivial | rfl⟩
        case measure => simp [intOf]; omega
    · have hT : B.trimL s = s.drop k := by
        rw [HN.out]
        by_cases hlt2 : k < s.length
        · have h2 : B.isST s[k] = false := by
            cases h : B.isST s[k] with
            | false => rfl
            | true => exact absurd ⟨hlt2, by simpa [hlt2] using h⟩ hlt
          rw [List.drop_eq_getElem_cons hlt2, B.trimL, List.dropWhile_cons, h2]; rfl
        · rw [List.drop_eq_nil_of_le (by omega)]; rfl
      have hex : (B.bs s).extract k s.length = B.bs (s.drop k) := by rw [← hz, B.extract_end, B.bs_data]
      have hlen : s.length - k = (s.drop k).length := by simp
      have hzb : (s.drop k).length ≤ 1000000000000 := by simp; omega
      by_cases hlt2 : k < s.length
      · generalize hc : s[k] = c
        have hix : ∀ h, (B.bs s)[k]'h = c := fun _ => hc
        have hcf : B.isST c = false := by
          cases h : B.isST c with
          | false => rfl
          | true => exact absurd ⟨hlt2, by rw [← hc] at h; simpa [hlt2] using h⟩ hlt
        have h32 : ((c.toNat : Int) == 32) = false := u8_ne (b := 32) (by rintro rfl; simp [B.isST] at hcf)
        have h9 : ((c.toNat : Int) == 9) = false := u8_ne (b := 9) (by rintro rfl; simp [B.isST] at hcf)
        clear hlt hcf
        generalize s.drop k = t at hex hlen hzb hT
        have hzt : (B.bs t).size = t.length := rfl
        have HT := Lib.hid hT
        clear hT HN
        go_wp2
        try rw [hex]
        try rw [hlen]
        go_loopw [4] (fun i wr => ∃ j : Nat, j ≤ t.length ∧ i = .int .i64 j ∧ B.trimR t = B.trimR (t.take j) ∧ w = wr) (fun i _ => (intOf i).toNat)
        case atStart => exact ⟨t.length, Nat.le_refl _, rfl, by rw [List.take_of_length_le (Nat.le_refl _)], by first | trivial | rfl⟩
        case round =>
          obtain ⟨j, hj, rfl, hn, rfl⟩ := hrel
          have HN := Lib.hid hn
          clear hn
          cases j with
          | zero =>
            go_wp2
            go_ret
            refine ⟨ret_str ?_, rfl⟩
            rw [HT.out, HN.out]; rfl
          | succ j =>
            generalize hc : t[j] = c
            have hix : ∀ h, (B.bs t)[j]'h = c := fun _ => hc
            by_cases hst : B.isST c = true
            · have hR := B.trimR_step (l := t) (k := j) (by omega) (by rw [hc]; exact hst)
              have hcc : c = 32 ∨ c = 9 := by simpa [B.isST] using hst
              rw [hR] at HN
              rcases hcc with rfl | rfl
              all_goals
                go_wp2
                go_roundw
                case rel => exact ⟨j, by omega, by go_num, HN.out, by first | trivial | rfl⟩
                case measure => simp [intOf]
            · have hR := B.trimR_stop (l := t) (k := j) (by omega) (by rw [hc]; simpa using hst)
              have hcf : B.isST c = false := by simpa using hst
              have h32 : ((c.toNat : Int) == 32) = false := u8_ne (b := 32) (by rintro rfl; simp [B.isST] at hcf)
              have h9 : ((c.toNat : Int) == 9) = false := u8_ne (b := 9) (by rintro rfl; simp [B.isST] at hcf)
              go_wp2
              go_ret
              refine ⟨ret_str ?_, rfl⟩
              rw [HT.out, HN.out, hR, B.extract_zero, B.bs_data]
      · obtain rfl : k = s.length := by omega
        have HT := Lib.hid (show B.trimL s = [] from by rw [hT]; simp)
        clear hlt hT HN
        go_wp2
        go_loopw [4] (fun i wr => i = .int .i64 0 ∧ w = wr) (fun _ _ => 0)
        case atStart => first | exact ⟨rfl, rfl⟩ | exact ⟨rfl, trivial⟩
        case round =>
          obtain ⟨rfl, rfl⟩ := hrel
          go_wp2
          go_ret
          refine ⟨ret_str ?_, rfl⟩
          rw [HT.out]; rfl

end Go.Proofs.YtigcmibkgcmfcaaGreatDoor
