/- Inlines: hyphens, with smart dashes. -/
import Derived.Test.YtbfmmikllelfeaaGreatDoorI1
import Derived.Test.YtbfmmikllelfeaaGreatDoorI3
import Derived.Test.YtbfmmikllelfeaaGreatDoorSr
namespace Go.Proofs.YtbfmmikllelfeaaGreatDoor
open Go.RowKit Sl

set_option maxRecDepth 100000 in
set_option maxHeartbeats 1000000 in
theorem parseDash_w (p : Option Addr) (s : List UInt8) (i n : Nat) (hsl : s.length ≤ 1000000000) (hn : n = 2 ∨ n = 3) (h0 : ∀ j, j < n → s[i + j]? = some 45) (h1 : s[i + n]? ≠ some 45) (w : World) (G : HP) (hs : Sat w G) :
    Calls Tryz.prog 117 #[.pointer p, .string (B.bs s), .int .i64 i] w fun e w' => ∃ v, e = .returned (.tuple #[v, .int .i64 i, .int .i64 (i + n : Nat), .bool true]) ∧ Sat w' (TokAt v (.plain (dashTok n)) * G) := by
  have hz : (B.bs s).size = s.length := rfl
  have hq1 : ∀ j, j < n → i + j < s.length ∧ ∀ h, (B.bs s)[i + j]'h = 45 := fun j hj => by
    obtain ⟨a, b⟩ := List.getElem?_eq_some_iff.1 (h0 j hj)
    exact ⟨a, fun _ => b⟩
  have hq2 : i + n < s.length → ∃ c : UInt8, (∀ h, (B.bs s)[i + n]'h = c) ∧ ((c.toNat : Int) == 45) = false := fun hl => by
    refine ⟨s[i + n], fun _ => rfl, u8_ne (b := 45) ?_⟩
    intro hq
    rw [List.getElem?_eq_getElem hl, hq] at h1
    exact h1 rfl
  have hix1 := (hq1 1 (by omega)).2
  have hl1 := (hq1 1 (by omega)).1
  have hnl := (hq1 (n - 1) (by omega)).1
  have hz0 := fun w => (Sr.strings_Repeat_zero ⟨#[226, 128, 147]⟩ w).mono fun _ _ ⟨a, b⟩ => And.intro a b.symm
  have hz1 := fun w => (Sr.strings_Repeat_zero ⟨#[226, 128, 148]⟩ w).mono fun _ _ ⟨a, b⟩ => And.intro a b.symm
  have ho0 := fun w => (Sr.strings_Repeat_one ⟨#[226, 128, 147]⟩ w).mono fun _ _ ⟨a, b⟩ => And.intro a b.symm
  have ho1 := fun w => (Sr.strings_Repeat_one ⟨#[226, 128, 148]⟩ w).mono fun _ _ ⟨a, b⟩ => And.intro a b.symm
  have H1 := Lib.hid hq1
  have H2 := Lib.hid hq2
  have Z0 := Lib.hid hz0
  have Z1 := Lib.hid hz1
  have O0 := Lib.hid ho0
  have O1 := Lib.hid ho1
  clear hq1 hq2 h0 h1 hz0 hz1 ho0 ho1
  go_enter Tryz.func117, Tryz.ntmps117
  go_wp2
  go_loopw [10] (fun v wr => ∃ k : Nat, 2 ≤ k ∧ k ≤ n ∧ v = .int .i64 k ∧ w = wr) (fun v _ => n - (intOf v).toNat)
  case atStart => exact ⟨2, Nat.le_refl _, by omega, rfl, rfl⟩
  case round =>
    obtain ⟨k, hk1, hk, rfl, rfl⟩ := hrel
    by_cases hlt : k < n
    · obtain ⟨hl, hix⟩ := H1.out k hlt
      clear hix1
      go_wp2
      go_roundw
      case rel => exact ⟨k + 1, by omega, by omega, by go_num, by first | trivial | rfl⟩
      case measure => simp [intOf]; omega
    · obtain rfl : k = n := by omega
      clear hix1
      by_cases hl : i + k < s.length
      · obtain ⟨c, hix, hc⟩ := H2.out hl
        rcases hn with rfl | rfl
        · go_wp2_with fail
          refine (Z1.out w).mono ?_
          rintro e w1 ⟨rfl, rfl⟩
          go_wp2_with fail
          refine (O0.out _).mono ?_
          rintro e w2 ⟨rfl, rfl⟩
          go_wp2
          refine bodyPost_ret (v := .tuple #[.iface 218 (.pointer (some ⟨w.heap.size, 0, none⟩)), .int .i64 i, .int .i64 ((i : Int) + 2), .bool true]) (by simp [results, Tryz.results117, go_sem]) rfl ⟨_, rfl, ?_⟩
          have h5 := hs.new (d := w.heap.size) [.string (B.bs (dashTok 2))] 210 rfl
          exact Sat.ex_mk w.heap.size (h5.cast (by rw [pur_star rfl]))
        · go_wp2_with fail
          refine (O1.out w).mono ?_
          rintro e w1 ⟨rfl, rfl⟩
          go_wp2_with fail
          refine (Z0.out _).mono ?_
          rintro e w2 ⟨rfl, rfl⟩
          go_wp2
          refine bodyPost_ret (v := .tuple #[.iface 218 (.pointer (some ⟨w.heap.size, 0, none⟩)), .int .i64 i, .int .i64 ((i : Int) + 3), .bool true]) (by simp [results, Tryz.results117, go_sem]) rfl ⟨_, rfl, ?_⟩
          have h5 := hs.new (d := w.heap.size) [.string (B.bs (dashTok 3))] 210 rfl
          exact Sat.ex_mk w.heap.size (h5.cast (by rw [pur_star rfl]))
      · rcases hn with rfl | rfl
        · go_wp2_with fail
          refine (Z1.out w).mono ?_
          rintro e w1 ⟨rfl, rfl⟩
          go_wp2_with fail
          refine (O0.out _).mono ?_
          rintro e w2 ⟨rfl, rfl⟩
          go_wp2
          refine bodyPost_ret (v := .tuple #[.iface 218 (.pointer (some ⟨w.heap.size, 0, none⟩)), .int .i64 i, .int .i64 ((i : Int) + 2), .bool true]) (by simp [results, Tryz.results117, go_sem]) rfl ⟨_, rfl, ?_⟩
          have h5 := hs.new (d := w.heap.size) [.string (B.bs (dashTok 2))] 210 rfl
          exact Sat.ex_mk w.heap.size (h5.cast (by rw [pur_star rfl]))
        · go_wp2_with fail
          refine (O1.out w).mono ?_
          rintro e w1 ⟨rfl, rfl⟩
          go_wp2_with fail
          refine (Z0.out _).mono ?_
          rintro e w2 ⟨rfl, rfl⟩
          go_wp2
          refine bodyPost_ret (v := .tuple #[.iface 218 (.pointer (some ⟨w.heap.size, 0, none⟩)), .int .i64 i, .int .i64 ((i : Int) + 3), .bool true]) (by simp [results, Tryz.results117, go_sem]) rfl ⟨_, rfl, ?_⟩
          have h5 := hs.new (d := w.heap.size) [.string (B.bs (dashTok 3))] 210 rfl
          exact Sat.ex_mk w.heap.size (h5.cast (by rw [pur_star rfl]))

set_option maxRecDepth 100000 in
set_option maxHeartbeats 1000000 in
theorem parseDash_no (p : Option Addr) (s : List UInt8) (i : Nat) (hsl : s.length ≤ 1000000000) (hi : i < s.length) (h1 : s[i + 1]? ≠ some 45) (w : World) :
    Calls Tryz.prog 117 #[.pointer p, .string (B.bs s), .int .i64 i] w fun e w' => e = .returned (.tuple #[.nilIface, .int .i64 0, .int .i64 0, .bool false]) ∧ w = w' := by
  have hz : (B.bs s).size = s.length := rfl
  by_cases hl : i + 1 < s.length
  · have hix : ∃ c : UInt8, (∀ h, (B.bs s)[i + 1]'h = c) ∧ ((c.toNat : Int) == 45) = false := by
      refine ⟨s[i + 1], fun _ => rfl, u8_ne (b := 45) ?_⟩
      intro hq
      rw [List.getElem?_eq_getElem hl, hq] at h1
      exact h1 rfl
    obtain ⟨c, hix, hc⟩ := hix
    have hc2 : ((c.toNat : Int) != 45) = true := by rw [bne, hc]; rfl
    clear h1
    go_enter Tryz.func117, Tryz.ntmps117
    go_wp2
    refine bodyPost_ret (v := .tuple #[.nilIface, .int .i64 0, .int .i64 0, .bool false]) (by simp [results, Tryz.results117, go_sem]) rfl ⟨rfl, rfl⟩
  · clear h1
    go_enter Tryz.func117, Tryz.ntmps117
    go_wp2
    refine bodyPost_ret (v := .tuple #[.nilIface, .int .i64 0, .int .i64 0, .bool false]) (by simp [results, Tryz.results117, go_sem]) rfl ⟨rfl, rfl⟩

end Go.Proofs.YtbfmmikllelfeaaGreatDoor
