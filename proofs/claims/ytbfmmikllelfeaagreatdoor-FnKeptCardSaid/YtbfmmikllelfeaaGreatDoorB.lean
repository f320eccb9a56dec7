/- Plain words on lists of bytes: what the small functions of the program compute. No program in sight. -/
import Derived.Test.YtbfmmikllelfeaaGreatDoorProg
import Derived.Test.YtbfmmikllelfeaaGreatDoorSl
import Derived.Lib.Strings
import Derived.Lib.Hide
import Derived.BigQuiet
import Derived.Deep.QuietTactic
import Derived.Laws.Concat
import Derived.Deep.DeepCutAuto
namespace Go.Proofs.YtbfmmikllelfeaaGreatDoor
namespace B

/-- A list of bytes as a string. -/
def bs (l : List UInt8) : ByteArray := ⟨l.toArray⟩

theorem bs_data (l : List UInt8) : (bs l).data.toList = l := by simp [bs]
theorem data_bs (s : ByteArray) : bs s.data.toList = s := rfl
theorem bs_size (l : List UInt8) : (bs l).size = l.length := rfl
theorem size_data (s : ByteArray) : s.size = s.data.toList.length := Lib.size_eq s
theorem bs_inj {a b : List UInt8} (h : bs a = bs b) : a = b := by
  have := congrArg (fun s : ByteArray => s.data.toList) h
  simpa [bs] using this
theorem extract_bs (s : ByteArray) (a b : Nat) : s.extract a b = bs ((s.data.toList.drop a).take (b - a)) := Lib.extract_eq s a b
theorem extract_end (s : ByteArray) (a : Nat) : s.extract a s.size = bs (s.data.toList.drop a) := by
  rw [extract_bs, List.take_of_length_le (by rw [List.length_drop, size_data]; omega)]
theorem extract_zero (s : ByteArray) (b : Nat) : s.extract 0 b = bs (s.data.toList.take b) := by
  rw [extract_bs]; simp
theorem getElem_data (s : ByteArray) (k : Nat) (hk : k < s.size) : s[k] = s.data.toList[k]'(by rw [← size_data]; exact hk) := rfl

def isST (c : UInt8) : Bool := c == 32 || c == 9
def isSTN (c : UInt8) : Bool := c == 32 || c == 9 || c == 10

/-- without spaces and tabs ahead -/
def trimL (l : List UInt8) : List UInt8 := l.dropWhile isST
/-- without spaces and tabs behind -/
def trimR (l : List UInt8) : List UInt8 := (l.reverse.dropWhile isST).reverse

/-- where a text begins in another -/
def findSub (sub : List UInt8) : List UInt8 → Option Nat
  | [] => if sub = [] then some 0 else none
  | c :: l => if (c :: l).take sub.length = sub then some 0 else (findSub sub l).map (· + 1)

def idx (l sub : List UInt8) : Int := match findSub sub l with | some k => k | none => -1

theorem findSub_hit (sub : List UInt8) : ∀ (k : Nat) (l : List UInt8), k ≤ l.length → (l.drop k).take sub.length = sub → (∀ j, j < k → (l.drop j).take sub.length ≠ sub) → findSub sub l = some k
  | 0, [], _, h, _ => by
    simp at h
    simp [findSub, h]
  | 0, c :: l, _, h, _ => by
    simp only [List.drop_zero] at h
    simp [findSub, h]
  | k + 1, [], h, _, _ => by simp at h
  | k + 1, c :: l, hk, h, hn => by
    have h0 := hn 0 (by omega)
    simp only [List.drop_zero] at h0
    have := findSub_hit sub k l (by simpa using hk) (by simpa using h) (fun j hj => by simpa using hn (j + 1) (by omega))
    simp [findSub, h0, this]

theorem findSub_miss (sub : List UInt8) : ∀ (l : List UInt8), (∀ j, j ≤ l.length → (l.drop j).take sub.length ≠ sub) → findSub sub l = none
  | [], h => by
    have := h 0 (by simp)
    simp only [List.drop_nil, List.take_nil] at this
    simp [findSub, Ne.symm this]
  | c :: l, h => by
    have h0 := h 0 (by simp)
    simp only [List.drop_zero] at h0
    have := findSub_miss sub l (fun j hj => by simpa using h (j + 1) (by simpa using hj))
    simp [findSub, h0, this]

theorem findSub_byte (c : UInt8) : ∀ l : List UInt8, findSub [c] l = l.findIdx? (· == c)
  | [] => by simp [findSub]
  | d :: l => by
    by_cases h : d = c
    · simp [findSub, h, List.findIdx?_cons]
    · simp [findSub, h, List.findIdx?_cons, findSub_byte c l]

theorem findSub_le (sub : List UInt8) : ∀ (l : List UInt8) (k : Nat), findSub sub l = some k → k + sub.length ≤ l.length
  | [], k, h => by
    simp only [findSub] at h
    split at h
    · rename_i e; cases h; simp [e]
    · cases h
  | c :: l, k, h => by
    simp only [findSub] at h
    split at h
    · rename_i e
      cases h
      have := congrArg List.length e
      rw [List.length_take] at this
      omega
    · cases h2 : findSub sub l with
      | none => simp [h2] at h
      | some j =>
        simp [h2] at h
        have := findSub_le sub l j h2
        simp only [List.length_cons]
        omega

theorem idx_lt (l : List UInt8) (c : UInt8) : -1 ≤ idx l [c] ∧ idx l [c] < l.length := by
  unfold idx
  cases h : findSub [c] l with
  | none => simp; omega
  | some k =>
    have := findSub_le [c] l k h
    simp at this ⊢
    omega

/-- The first line of a text that is not empty, what ends it, and what is behind it. -/
def nextLine (l : List UInt8) : (List UInt8 × UInt8) × List UInt8 :=
  if 0 ≤ idx l [13] ∧ (idx l [10] < 0 ∨ idx l [13] < idx l [10]) then
    if idx l [10] = idx l [13] + 1 then ((l.take (idx l [13]).toNat, 23), l.drop ((idx l [13]).toNat + 2)) else ((l.take (idx l [13]).toNat, 13), l.drop ((idx l [13]).toNat + 1))
  else if 0 ≤ idx l [10] then ((l.take (idx l [10]).toNat, 10), l.drop ((idx l [10]).toNat + 1)) else ((l, 0), [])

theorem nextLine_lt {l : List UInt8} (h : l ≠ []) : (nextLine l).2.length < l.length := by
  have hl : 0 < l.length := List.length_pos_iff.2 h
  unfold nextLine
  split
  · split <;> simp <;> omega
  · split <;> simp <;> omega

/-- The lines of a text, each with what ends it. -/
def lines (l : List UInt8) : List (List UInt8 × UInt8) :=
  if _h : l = [] then [] else (nextLine l).1 :: lines (nextLine l).2
termination_by l.length
decreasing_by exact nextLine_lt _h

theorem lines_nil : lines [] = [] := by rw [lines]; simp
theorem lines_cons {l : List UInt8} (h : l ≠ []) : lines l = (nextLine l).1 :: lines (nextLine l).2 := by
  rw [lines]; simp [h]

theorem lines_length (l : List UInt8) : (lines l).length ≤ l.length := by
  by_cases h : l = []
  · subst h; simp [lines_nil]
  · rw [lines_cons h]
    have h1 := nextLine_lt h
    have h2 := lines_length (nextLine l).2
    simp only [List.length_cons]
    omega
termination_by l.length
decreasing_by exact nextLine_lt h

end B
end Go.Proofs.YtbfmmikllelfeaaGreatDoor

/- Walks: the program's small functions on strings, each by its plain word. -/
namespace Go.Proofs.YtbfmmikllelfeaaGreatDoor
open Go.RowKit

theorem ret_int {k : IntKind} {a b : Int} (h : a = b) : Ending.returned (.int k a) = .returned (.int k b) := by rw [h]
theorem ret_str {a b : ByteArray} (h : a = b) : Ending.returned (.string a) = .returned (.string b) := by rw [h]
theorem ret_bool {a b : Bool} (h : a = b) : Ending.returned (.bool a) = .returned (.bool b) := by rw [h]

theorem B.eq_test {s t : ByteArray} {a b : Nat} {x : Bool} (h : ((s.extract a b).toList == t.toList) = x) : decide ((s.data.toList.drop a).take (b - a) = t.data.toList) = x := by
  rw [← h, Lib.extract_toList, Lib.toList_data]
  by_cases e : (s.data.toList.drop a).take (b - a) = t.data.toList <;> simp [e]

set_option maxHeartbeats 400000 in
theorem zzIndex_w (s t : ByteArray) (w : World) (hs : s.size ≤ 1000000000000) (ht : t.size ≤ 1000000000000) :
    Calls Tryz.prog 89 #[.string s, .string t] w fun e w' => e = .returned (.int .i64 (B.idx s.data.toList t.data.toList)) ∧ w = w' := by
  go_enter Tryz.func89, Tryz.ntmps89
  go_wp2
  go_loop [5] (fun i => ∃ k : Nat, k ≤ s.size + 1 ∧ i = .int .i64 k ∧ ∀ j, j < k → (s.data.toList.drop j).take t.data.toList.length ≠ t.data.toList) (fun i => s.size + 1 - (intOf i).toNat)
  case atStart => exact ⟨0, by omega, rfl, fun j hj => by omega⟩
  case round =>
    obtain ⟨k, hk, rfl, hn⟩ := hrel
    have HN := Lib.hid hn
    clear hn
    by_cases hlt : k + t.size ≤ s.size
    · go_wp2
      · have h : ((s.extract k (k + t.size)).toList == t.toList) = true := by assumption
        have h2 := B.eq_test h
        rw [show k + t.size - k = t.data.toList.length from by rw [B.size_data]; omega] at h2
        have h3 : B.idx s.data.toList t.data.toList = k := by
          unfold B.idx
          rw [B.findSub_hit _ k _ (by rw [← B.size_data]; omega) (by simpa using h2) HN.out]
        go_ret
        exact ⟨ret_int h3.symm, rfl⟩
      · have h : ((s.extract k (k + t.size)).toList == t.toList) = false := by assumption
        have h2 := B.eq_test h
        rw [show k + t.size - k = t.data.toList.length from by rw [B.size_data]; omega] at h2
        go_round
        case rel =>
          refine ⟨k + 1, by omega, by go_num, fun j hj => ?_⟩
          rcases Nat.lt_or_ge j k with hjk | hjk
          · exact HN.out j hjk
          · obtain rfl : j = k := by omega
            simpa using h2
        case measure => simp [intOf]; omega
    · go_wp2
      have h3 : B.idx s.data.toList t.data.toList = -1 := by
        unfold B.idx
        rw [B.findSub_miss]
        intro j hj hc
        rcases Nat.lt_or_ge j k with hjk | hjk
        · exact HN.out j hjk hc
        · have := congrArg List.length hc
          have e1 := B.size_data s
          have e2 := B.size_data t
          rw [List.length_take, List.length_drop] at this
          omega
      go_ret
      exact ⟨ret_int h3.symm, rfl⟩

theorem idx_ge (l s : List UInt8) : decide (0 ≤ B.idx l s) = (B.findSub s l).isSome := by
  unfold B.idx
  cases B.findSub s l <;> simp

set_option maxHeartbeats 400000 in
theorem zzContains_w (s t : ByteArray) (w : World) (hs : s.size ≤ 1000000000000) (ht : t.size ≤ 1000000000000) :
    Calls Tryz.prog 86 #[.string s, .string t] w fun e w' => e = .returned (.bool (B.findSub t.data.toList s.data.toList).isSome) ∧ w = w' := by
  have h := idx_ge s.data.toList t.data.toList
  generalize hx : B.idx s.data.toList t.data.toList = x at h
  have HX := Lib.hid hx
  clear hx
  go_enter Tryz.func86, Tryz.ntmps86
  go_wp2_with (go_at_call 89; refine (zzIndex_w _ _ _ hs ht).mono ?_; rw [HX.out]; rintro e w' ⟨rfl, rfl⟩)
  go_ret
  exact ⟨rfl, rfl⟩

set_option maxHeartbeats 400000 in
theorem trimLeft_w (s : ByteArray) (w : World) (hs : s.size ≤ 1000000000000) :
    Calls Tryz.prog 141 #[.string s] w fun e w' => e = .returned (.string (B.bs (B.trimL s.data.toList))) ∧ w = w' := by
  go_enter Tryz.func141, Tryz.ntmps141
  go_wp2
  go_loop [3] (fun i => ∃ k : Nat, k ≤ s.size ∧ i = .int .i64 k ∧ B.trimL s.data.toList = B.trimL (s.data.toList.drop k)) (fun i => s.size - (intOf i).toNat)
  case atStart => exact ⟨0, by omega, rfl, rfl⟩
  case round =>
    obtain ⟨k, hk, rfl, hn⟩ := hrel
    have HN := Lib.hid hn
    clear hn
    by_cases hlt : k < s.size
    · have hd : s.data.toList.drop k = s[k] :: s.data.toList.drop (k + 1) := by
        rw [List.drop_eq_getElem_cons (by rw [← B.size_data]; exact hlt)]; rfl
      have HD := Lib.hid hd
      clear hd
      go_wp2
      rotate_left 2
      · have h : (((s[k]).toNat : Int) == 32) = false ∧ (((s[k]).toNat : Int) == 9) = false := by assumption
        have h2 : B.isST s[k] = false := by
          unfold B.isST
          simp only [Bool.or_eq_false_iff, beq_eq_false_iff_ne, ne_eq] at h ⊢
          exact ⟨fun e => h.1 (by rw [e]; rfl), fun e => h.2 (by rw [e]; rfl)⟩
        go_ret
        refine ⟨ret_str ?_, rfl⟩
        rw [HN.out, HD.out, B.trimL, List.dropWhile_cons, h2, B.extract_end, HD.out]; rfl
      all_goals
        have h2 : B.isST s[k] = true := by
          unfold B.isST
          first
            | (have h : ((s[k]).toNat : Int) = 32 := by assumption
               rw [show s[k] = 32 from UInt8.toNat_inj.1 (by simpa using (by omega : (s[k]).toNat = 32))]; rfl)
            | (have h : (((s[k]).toNat : Int) == 32) = true ∨ (((s[k]).toNat : Int) == 9) = true := by assumption
               have h' : ¬ ((s[k]).toNat : Int) = 32 := by assumption
               simp only [beq_iff_eq] at h
               rw [show s[k] = 9 from UInt8.toNat_inj.1 (by simpa using (by omega : (s[k]).toNat = 9))]; rfl)
        go_round
        case rel => exact ⟨k + 1, by omega, by go_num, by rw [HN.out, HD.out, B.trimL, List.dropWhile_cons, h2]; rfl⟩
        case measure => simp [intOf]; omega
    · go_wp2
      go_ret
      refine ⟨ret_str ?_, rfl⟩
      rw [B.extract_end, HN.out, List.drop_eq_nil_of_le (by rw [← B.size_data]; omega)]; rfl

end Go.Proofs.YtbfmmikllelfeaaGreatDoor

/- Texts put together. -/
namespace Go.Proofs.YtbfmmikllelfeaaGreatDoor
open Go.RowKit

theorem B.append (a b : List UInt8) : B.bs a ++ B.bs b = B.bs (a ++ b) := ByteArray.mk_append_mk a b

theorem flatten_one (n : Nat) (c : UInt8) : (List.replicate n [c]).flatten = List.replicate n c := by
  induction n with
  | zero => rfl
  | succ n ih => rw [List.replicate_succ, List.flatten_cons, ih]; rfl

end Go.Proofs.YtbfmmikllelfeaaGreatDoor

/- Two texts, added. -/
namespace Go.Proofs.YtbfmmikllelfeaaGreatDoor
open Go.RowKit

theorem addB (x y : List UInt8) (w : World) (h : x.length + y.length ≤ 1000000000) : (Op.stringOp .add (B.bs x) (B.bs y)).run Tryz.prog w = .ok (.string (B.bs (x ++ y))) w := by
  have := run_string_add_sum (P := Tryz.prog) w (B.bs x) (B.bs y) (by rw [B.bs_size, B.bs_size]; omega)
  rw [B.append] at this
  exact this

theorem addBig (x y : List UInt8) (w : World) (h : x.length + y.length ≤ 1000000000000) : (Op.stringOp .add (B.bs x) (B.bs y)).run Tryz.prog w = .ok (.string (B.bs (x ++ y))) w := by
  have := run_string_add_sum (P := Tryz.prog) w (B.bs x) (B.bs y) (by rw [B.bs_size, B.bs_size]; omega)
  rw [B.append] at this
  exact this

end Go.Proofs.YtbfmmikllelfeaaGreatDoor
