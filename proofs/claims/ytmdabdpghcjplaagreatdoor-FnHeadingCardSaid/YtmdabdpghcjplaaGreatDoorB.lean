/- Plain words on lists of bytes: what the small functions of the program compute. No program in sight. -/
import Derived.Lib.Strings
namespace Go.Proofs.YtmdabdpghcjplaaGreatDoor
namespace B

/-- A list of bytes as a string. -/
def bs (l : List UInt8) : ByteArray := ⟨l.toArray⟩

theorem bs_data (l : List UInt8) : (bs l).data.toList = l := by simp [bs]
theorem data_bs (s : ByteArray) : bs s.data.toList = s := rfl
theorem bs_size (l : List UInt8) : (bs l).size = l.length := rfl
theorem size_data (s : ByteArray) : s.size = s.data.toList.length := Lib.size_eq s
theorem bs_inj {a b : List UInt8} (h : bs a = bs b) : a = b := by
  have := congrArg (fun s : ByteArray => s.data.toList) h
  simpa [bs] using this
theorem extract_bs (s : ByteArray) (a b : Nat) : s.extract a b = bs ((s.data.toList.drop a).take (b - a)) := Lib.extract_eq s a b
theorem extract_end (s : ByteArray) (a : Nat) : s.extract a s.size = bs (s.data.toList.drop a) := by
  rw [extract_bs, List.take_of_length_le (by rw [List.length_drop, size_data]; omega)]
theorem extract_zero (s : ByteArray) (b : Nat) : s.extract 0 b = bs (s.data.toList.take b) := by
  rw [extract_bs]; simp
theorem getElem_data (s : ByteArray) (k : Nat) (hk : k < s.size) : s[k] = s.data.toList[k]'(by rw [← size_data]; exact hk) := rfl

def isST (c : UInt8) : Bool := c == 32 || c == 9
def isSTN (c : UInt8) : Bool := c == 32 || c == 9 || c == 10

/-- without spaces and tabs ahead -/
def trimL (l : List UInt8) : List UInt8 := l.dropWhile isST
/-- without spaces and tabs behind -/
def trimR (l : List UInt8) : List UInt8 := (l.reverse.dropWhile isST).reverse

/-- where a text begins in another -/
def findSub (sub : List UInt8) : List UInt8 → Option Nat
  | [] => if sub = [] then some 0 else none
  | c :: l => if (c :: l).take sub.length = sub then some 0 else (findSub sub l).map (· + 1)

def idx (l sub : List UInt8) : Int := match findSub sub l with | some k => k | none => -1

theorem findSub_hit (sub : List UInt8) : ∀ (k : Nat) (l : List UInt8), k ≤ l.length → (l.drop k).take sub.length = sub → (∀ j, j < k → (l.drop j).take sub.length ≠ sub) → findSub sub l = some k
  | 0, [], _, h, _ => by
    simp at h
    simp [findSub, h]
  | 0, c :: l, _, h, _ => by
    simp only [List.drop_zero] at h
    simp [findSub, h]
  | k + 1, [], h, _, _ => by simp at h
  | k + 1, c :: l, hk, h, hn => by
    have h0 := hn 0 (by omega)
    simp only [List.drop_zero] at h0
    have := findSub_hit sub k l (by simpa using hk) (by simpa using h) (fun j hj => by simpa using hn (j + 1) (by omega))
    simp [findSub, h0, this]

theorem findSub_miss (sub : List UInt8) : ∀ (l : List UInt8), (∀ j, j ≤ l.length → (l.drop j).take sub.length ≠ sub) → findSub sub l = none
  | [], h => by
    have := h 0 (by simp)
    simp only [List.drop_nil, List.take_nil] at this
    simp [findSub, Ne.symm this]
  | c :: l, h => by
    have h0 := h 0 (by simp)
    simp only [List.drop_zero] at h0
    have := findSub_miss sub l (fun j hj => by simpa using h (j + 1) (by simpa using hj))
    simp [findSub, h0, this]

theorem findSub_byte (c : UInt8) : ∀ l : List UInt8, findSub [c] l = l.findIdx? (· == c)
  | [] => by simp [findSub]
  | d :: l => by
    by_cases h : d = c
    · simp [findSub, h, List.findIdx?_cons]
    · simp [findSub, h, List.findIdx?_cons, findSub_byte c l]

theorem findSub_le (sub : List UInt8) : ∀ (l : List UInt8) (k : Nat), findSub sub l = some k → k + sub.length ≤ l.length
  | [], k, h => by
    simp only [findSub] at h
    split at h
    · rename_i e; cases h; simp [e]
    · cases h
  | c :: l, k, h => by
    simp only [findSub] at h
    split at h
    · rename_i e
      cases h
      have := congrArg List.length e
      rw [List.length_take] at this
      omega
    · cases h2 : findSub sub l with
      | none => simp [h2] at h
      | some j =>
        simp [h2] at h
        have := findSub_le sub l j h2
        simp only [List.length_cons]
        omega

theorem idx_lt (l : List UInt8) (c : UInt8) : -1 ≤ idx l [c] ∧ idx l [c] < l.length := by
  unfold idx
  cases h : findSub [c] l with
  | none => simp; omega
  | some k =>
    have := findSub_le [c] l k h
    simp at this ⊢
    omega

/-- The first line of a text that is not empty, what ends it, and what is behind it. -/
def nextLine (l : List UInt8) : (List UInt8 × UInt8) × List UInt8 :=
  if 0 ≤ idx l [13] ∧ (idx l [10] < 0 ∨ idx l [13] < idx l [10]) then
    if idx l [10] = idx l [13] + 1 then ((l.take (idx l [13]).toNat, 23), l.drop ((idx l [13]).toNat + 2)) else ((l.take (idx l [13]).toNat, 13), l.drop ((idx l [13]).toNat + 1))
  else if 0 ≤ idx l [10] then ((l.take (idx l [10]).toNat, 10), l.drop ((idx l [10]).toNat + 1)) else ((l, 0), [])

theorem nextLine_lt {l : List UInt8} (h : l ≠ []) : (nextLine l).2.length < l.length := by
  have hl : 0 < l.length := List.length_pos_iff.2 h
  unfold nextLine
  split
  · split <;> simp <;> omega
  · split <;> simp <;> omega

/-- The lines of a text, each with what ends it. -/
def lines (l : List UInt8) : List (List UInt8 × UInt8) :=
  if _h : l = [] then [] else (nextLine l).1 :: lines (nextLine l).2
termination_by l.length
decreasing_by exact nextLine_lt _h

theorem lines_nil : lines [] = [] := by rw [lines]; simp
theorem lines_cons {l : List UInt8} (h : l ≠ []) : lines l = (nextLine l).1 :: lines (nextLine l).2 := by
  rw [lines]; simp [h]

theorem lines_length (l : List UInt8) : (lines l).length ≤ l.length := by
  by_cases h : l = []
  · subst h; simp [lines_nil]
  · rw [lines_cons h]
    have h1 := nextLine_lt h
    have h2 := lines_length (nextLine l).2
    simp only [List.length_cons]
    omega
termination_by l.length
decreasing_by exact nextLine_lt h

end B
end Go.Proofs.YtmdabdpghcjplaaGreatDoor
