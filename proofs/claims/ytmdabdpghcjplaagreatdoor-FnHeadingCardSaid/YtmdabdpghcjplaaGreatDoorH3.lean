/- Trimming at a text's end: trimRightSpaceTab, zzTrimRight at one mark. -/
import Derived.Test.YtmdabdpghcjplaaGreatDoorH1
import Derived.Test.YtmdabdpghcjplaaGreatDoorN2
namespace Go.Proofs.YtmdabdpghcjplaaGreatDoor
open Go.RowKit Sl

set_option maxRecDepth 100000 in
set_option maxHeartbeats 1000000 in
theorem trimRight_w (t : List UInt8) (w : World) (hs : t.length ≤ 1000000000000) :
    Calls Tryz.prog 129 #[.string (B.bs t)] w fun e w' => e = .returned (.string (B.bs (B.trimR t))) ∧ w = w' := by
  have hzt : (B.bs t).size = t.length := rfl
  go_enter Tryz.func129, Tryz.ntmps129
  go_wp2
  go_loopw [3] (fun i wr => ∃ j : Nat, j ≤ t.length ∧ i = .int .i64 j ∧ B.trimR t = B.trimR (t.take j) ∧ w = wr) (fun i _ => (intOf i).toNat)
  case atStart => exact ⟨t.length, Nat.le_refl _, rfl, by rw [List.take_of_length_le (Nat.le_refl _)], by first | trivial | rfl⟩
  case round =>
    obtain ⟨j, hj, rfl, hn, rfl⟩ := hrel
    have HN := Lib.hid hn
    clear hn
    cases j with
    | zero =>
      go_wp2
      go_ret
      refine ⟨ret_str ?_, rfl⟩
      rw [HN.out]; rfl
    | succ j =>
      generalize hc : t[j] = c
      have hix : ∀ h, (B.bs t)[j]'h = c := fun _ => hc
      by_cases hst : B.isST c = true
      · have hR := B.trimR_step (l := t) (k := j) (by omega) (by rw [hc]; exact hst)
        have hcc : c = 32 ∨ c = 9 := by simpa [B.isST] using hst
        rw [hR] at HN
        rcases hcc with rfl | rfl
        all_goals
          go_wp2
          go_roundw
          case rel => exact ⟨j, by omega, by go_num, HN.out, by first | trivial | rfl⟩
          case measure => simp [intOf]
      · have hR := B.trimR_stop (l := t) (k := j) (by omega) (by rw [hc]; simpa using hst)
        have hcf : B.isST c = false := by simpa using hst
        have h32 : ((c.toNat : Int) == 32) = false := u8_ne (b := 32) (by rintro rfl; simp [B.isST] at hcf)
        have h9 : ((c.toNat : Int) == 9) = false := u8_ne (b := 9) (by rintro rfl; simp [B.isST] at hcf)
        go_wp2
        go_ret
        refine ⟨ret_str ?_, rfl⟩
        rw [HN.out, hR, B.extract_zero, B.bs_data]

theorem strip35_step {l : List UInt8} {k : Nat} (h : k < l.length) (hs : l[k] = 35) : strip35 (l.take (k + 1)) = strip35 (l.take k) := by
  rw [List.take_succ_eq_append_getElem h, hs]
  exact strip35_rep _ 1
theorem strip35_stop {l : List UInt8} {k : Nat} (h : k < l.length) (hs : l[k] ≠ 35) : strip35 (l.take (k + 1)) = l.take (k + 1) := by
  rw [List.take_succ_eq_append_getElem h]
  exact strip35_keep hs

set_option maxRecDepth 100000 in
set_option maxHeartbeats 2000000 in
theorem strip35_w (t : List UInt8) (w : World) (hs : t.length ≤ 1000000000000) :
    Calls Tryz.prog 130 #[.string (B.bs t), .string ⟨#[35]⟩] w fun e w' => e = .returned (.string (B.bs (strip35 t))) ∧ ∃ m, w' = w.drewN m := by
  have hzt : (B.bs t).size = t.length := rfl
  have h35 : ∀ h, (⟨#[35]⟩ : ByteArray)[0]'h = 35 := fun _ => rfl
  have hz1 : (⟨#[35]⟩ : ByteArray).size = 1 := rfl
  go_enter Tryz.func130, Tryz.ntmps130
  go_wp2
  go_loopw [5] (fun i wr => ∃ j : Nat, j ≤ t.length ∧ i = .int .i64 j ∧ strip35 t = strip35 (t.take j) ∧ ∃ m, wr = w.drewN m) (fun i _ => (intOf i).toNat)
  case atStart => exact ⟨t.length, Nat.le_refl _, rfl, by rw [List.take_of_length_le (Nat.le_refl _)], 0, rfl⟩
  case round =>
    obtain ⟨j, hj, rfl, hn, m, rfl⟩ := hrel
    have HN := Lib.hid hn
    clear hn
    cases j with
    | zero =>
      go_wp2
      go_ret
      refine ⟨ret_str ?_, _, rfl⟩
      rw [HN.out]; rfl
    | succ j =>
      generalize hc : t[j] = c
      have hix : ∀ h, (B.bs t)[j]'h = c := fun _ => hc
      by_cases hst : c = 35
      · subst hst
        have hR := strip35_step (l := t) (k := j) (by omega) hc
        rw [hR] at HN
        clear hc hR
        go_wp2
        go_loopw [6, 7] (fun b i wr => ((b = .bool false ∧ i = .int .i64 0) ∨ (b = .bool true ∧ i = .int .i64 1)) ∧ ∃ m, wr = w.drewN m) (fun _ i _ => 1 - (intOf i).toNat)
        case atStart => exact ⟨.inl ⟨rfl, rfl⟩, _, rfl⟩
        case round =>
          obtain ⟨h | h, m2, rfl⟩ := hrel
          · obtain ⟨rfl, rfl⟩ := h
            go_wp2
            go_quiet (fail)
            go_wp2
            exact ⟨⟨.inr ⟨rfl, rfl⟩, _, rfl⟩, by decide⟩
          · obtain ⟨rfl, rfl⟩ := h
            go_wp2
            refine ⟨⟨j, by omega, rfl, HN.out, m2, rfl⟩, ?_⟩
            simp [intOf]
      · have hR := strip35_stop (l := t) (k := j) (by omega) (by rw [hc]; exact hst)
        have e : ((c.toNat : Int) == 35) = false := u8_ne (b := 35) hst
        have e' : ((35 : Int) == (c.toNat : Int)) = false := u8_ne (a := 35) (Ne.symm hst)
        have HR := Lib.hid hR
        clear hc hR
        go_wp2
        go_loopw [6, 7] (fun b i wr => b = .bool false ∧ (i = .int .i64 0 ∨ i = .int .i64 1) ∧ ∃ m, wr = w.drewN m) (fun _ i _ => 1 - (intOf i).toNat)
        case atStart => exact ⟨rfl, .inl rfl, _, rfl⟩
        case round =>
          obtain ⟨rfl, rfl | rfl, m2, rfl⟩ := hrel
          · go_wp2
            go_quiet (fail)
            go_wp2
            exact ⟨⟨rfl, .inr rfl, _, rfl⟩, by decide⟩
          · go_wp2
            go_ret
            refine ⟨ret_str ?_, _, rfl⟩
            rw [HN.out, HR.out, B.extract_zero, B.bs_data]

end Go.Proofs.YtmdabdpghcjplaaGreatDoor
