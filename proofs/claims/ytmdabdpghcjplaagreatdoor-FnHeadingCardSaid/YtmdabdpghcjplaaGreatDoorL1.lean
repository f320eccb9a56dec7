/- Walks: the program's small functions on strings, each by its plain word. -/
import Derived.Test.YtmdabdpghcjplaaGreatDoorProg
import Derived.Test.YtmdabdpghcjplaaGreatDoorSl
import Derived.Test.YtmdabdpghcjplaaGreatDoorB
import Derived.Lib.Hide
import Derived.BigQuiet
import Derived.Deep.QuietTactic
namespace Go.Proofs.YtmdabdpghcjplaaGreatDoor
open Go.RowKit

theorem ret_int {k : IntKind} {a b : Int} (h : a = b) : Ending.returned (.int k a) = .returned (.int k b) := by rw [h]
theorem ret_str {a b : ByteArray} (h : a = b) : Ending.returned (.string a) = .returned (.string b) := by rw [h]
theorem ret_bool {a b : Bool} (h : a = b) : Ending.returned (.bool a) = .returned (.bool b) := by rw [h]

theorem B.eq_test {s t : ByteArray} {a b : Nat} {x : Bool} (h : ((s.extract a b).toList == t.toList) = x) : decide ((s.data.toList.drop a).take (b - a) = t.data.toList) = x := by
  rw [← h, Lib.extract_toList, Lib.toList_data]
  by_cases e : (s.data.toList.drop a).take (b - a) = t.data.toList <;> simp [e]

set_option maxHeartbeats 400000 in
theorem zzIndex_w (s t : ByteArray) (w : World) (hs : s.size ≤ 1000000000000) (ht : t.size ≤ 1000000000000) :
    Calls Tryz.prog 54 #[.string s, .string t] w fun e w' => e = .returned (.int .i64 (B.idx s.data.toList t.data.toList)) ∧ w = w' := by
  go_enter Tryz.func54, Tryz.ntmps54
  go_wp2
  go_loop [5] (fun i => ∃ k : Nat, k ≤ s.size + 1 ∧ i = .int .i64 k ∧ ∀ j, j < k → (s.data.toList.drop j).take t.data.toList.length ≠ t.data.toList) (fun i => s.size + 1 - (intOf i).toNat)
  case atStart => exact ⟨0, by omega, rfl, fun j hj => by omega⟩
  case round =>
    obtain ⟨k, hk, rfl, hn⟩ := hrel
    have HN := Lib.hid hn
    clear hn
    by_cases hlt : k + t.size ≤ s.size
    · go_wp2
      · have h : ((s.extract k (k + t.size)).toList == t.toList) = true := by assumption
        have h2 := B.eq_test h
        rw [show k + t.size - k = t.data.toList.length from by rw [B.size_data]; omega] at h2
        have h3 : B.idx s.data.toList t.data.toList = k := by
          unfold B.idx
          rw [B.findSub_hit _ k _ (by rw [← B.size_data]; omega) (by simpa using h2) HN.out]
        go_ret
        exact ⟨ret_int h3.symm, rfl⟩
      · have h : ((s.extract k (k + t.size)).toList == t.toList) = false := by assumption
        have h2 := B.eq_test h
        rw [show k + t.size - k = t.data.toList.length from by rw [B.size_data]; omega] at h2
        go_round
        case rel =>
          refine ⟨k + 1, by omega, by go_num, fun j hj => ?_⟩
          rcases Nat.lt_or_ge j k with hjk | hjk
          · exact HN.out j hjk
          · obtain rfl : j = k := by omega
            simpa using h2
        case measure => simp [intOf]; omega
    · go_wp2
      have h3 : B.idx s.data.toList t.data.toList = -1 := by
        unfold B.idx
        rw [B.findSub_miss]
        intro j hj hc
        rcases Nat.lt_or_ge j k with hjk | hjk
        · exact HN.out j hjk hc
        · have := congrArg List.length hc
          have e1 := B.size_data s
          have e2 := B.size_data t
          rw [List.length_take, List.length_drop] at this
          omega
      go_ret
      exact ⟨ret_int h3.symm, rfl⟩

theorem idx_ge (l s : List UInt8) : decide (0 ≤ B.idx l s) = (B.findSub s l).isSome := by
  unfold B.idx
  cases B.findSub s l <;> simp

set_option maxHeartbeats 400000 in
theorem zzContains_w (s t : ByteArray) (w : World) (hs : s.size ≤ 1000000000000) (ht : t.size ≤ 1000000000000) :
    Calls Tryz.prog 51 #[.string s, .string t] w fun e w' => e = .returned (.bool (B.findSub t.data.toList s.data.toList).isSome) ∧ w = w' := by
  have h := idx_ge s.data.toList t.data.toList
  generalize hx : B.idx s.data.toList t.data.toList = x at h
  have HX := Lib.hid hx
  clear hx
  go_enter Tryz.func51, Tryz.ntmps51
  go_wp2_with (go_at_call 54; refine (zzIndex_w _ _ _ hs ht).mono ?_; rw [HX.out]; rintro e w' ⟨rfl, rfl⟩)
  go_ret
  exact ⟨rfl, rfl⟩

set_option maxHeartbeats 400000 in
theorem trimLeft_w (s : ByteArray) (w : World) (hs : s.size ≤ 1000000000000) :
    Calls Tryz.prog 86 #[.string s] w fun e w' => e = .returned (.string (B.bs (B.trimL s.data.toList))) ∧ w = w' := by
  go_enter Tryz.func86, Tryz.ntmps86
  go_wp2
  go_loop [3] (fun i => ∃ k : Nat, k ≤ s.size ∧ i = .int .i64 k ∧ B.trimL s.data.toList = B.trimL (s.data.toList.drop k)) (fun i => s.size - (intOf i).toNat)
  case atStart => exact ⟨0, by omega, rfl, rfl⟩
  case round =>
    obtain ⟨k, hk, rfl, hn⟩ := hrel
    have HN := Lib.hid hn
    clear hn
    by_cases hlt : k < s.size
    · have hd : s.data.toList.drop k = s[k] :: s.data.toList.drop (k + 1) := by
        rw [List.drop_eq_getElem_cons (by rw [← B.size_data]; exact hlt)]; rfl
      have HD := Lib.hid hd
      clear hd
      go_wp2
      rotate_left 2
      · have h : (((s[k]).toNat : Int) == 32) = false ∧ (((s[k]).toNat : Int) == 9) = false := by assumption
        have h2 : B.isST s[k] = false := by
          unfold B.isST
          simp only [Bool.or_eq_false_iff, beq_eq_false_iff_ne, ne_eq] at h ⊢
          exact ⟨fun e => h.1 (by rw [e]; rfl), fun e => h.2 (by rw [e]; rfl)⟩
        go_ret
        refine ⟨ret_str ?_, rfl⟩
        rw [HN.out, HD.out, B.trimL, List.dropWhile_cons, h2, B.extract_end, HD.out]; rfl
      all_goals
        have h2 : B.isST s[k] = true := by
          unfold B.isST
          first
            | (have h : ((s[k]).toNat : Int) = 32 := by assumption
               rw [show s[k] = 32 from UInt8.toNat_inj.1 (by simpa using (by omega : (s[k]).toNat = 32))]; rfl)
            | (have h : (((s[k]).toNat : Int) == 32) = true ∨ (((s[k]).toNat : Int) == 9) = true := by assumption
               have h' : ¬ ((s[k]).toNat : Int) = 32 := by assumption
               simp only [beq_iff_eq] at h
               rw [show s[k] = 9 from UInt8.toNat_inj.1 (by simpa using (by omega : (s[k]).toNat = 9))]; rfl)
        go_round
        case rel => exact ⟨k + 1, by omega, by go_num, by rw [HN.out, HD.out, B.trimL, List.dropWhile_cons, h2]; rfl⟩
        case measure => simp [intOf]; omega
    · go_wp2
      go_ret
      refine ⟨ret_str ?_, rfl⟩
      rw [B.extract_end, HN.out, List.drop_eq_nil_of_le (by rw [← B.size_data]; omega)]; rfl

end Go.Proofs.YtmdabdpghcjplaaGreatDoor
