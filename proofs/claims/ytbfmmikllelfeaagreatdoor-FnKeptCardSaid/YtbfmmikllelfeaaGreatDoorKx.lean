/- The small functions of FnKept and FnInterrupts. -/
import Derived.Test.YtbfmmikllelfeaaGreatDoorFu
import Derived.Test.YtbfmmikllelfeaaGreatDoorKr
import Derived.Deep.OwnRows
namespace Go.Proofs.YtbfmmikllelfeaaGreatDoor
open Go.RowKit Sl

/-- Where the texts of a slice lie. -/
def TextsK (w : World) (a : Option Addr) (ss : List (List UInt8)) : Prop := ∀ (i : Nat) (h : i < ss.length), ∃ b off, a = some ⟨b, off, none⟩ ∧ w.cell? ⟨b, off + i, none⟩ = some (.string (B.bs ss[i]))

theorem TextsK.below {W w : World} {a : Option Addr} {ss : List (List UInt8)} (h : TextsK W a ss) (hb : Below W.heap.size W w) : TextsK w a ss := fun i hi => by
  obtain ⟨b, off, ha, hc⟩ := h i hi
  exact ⟨b, off, ha, (hb.cell (p := ⟨b, off + i, none⟩) (World.block_lt_of_cell? W _ hc)).trans hc⟩

set_option maxRecDepth 100000 in
set_option maxHeartbeats 1000000 in
theorem fits2_w (a : Option Addr) (n cap : Nat) (ss : List (List UInt8)) (w : World) (hn : ss.length = n) (hnm : n ≤ 9223372036854775807) (ht : TextsK w a ss) (hm : ∀ s ∈ ss, s.length ≤ 9223372036854775807) :
    Calls Tryz.prog 16 #[.slice a n cap] w fun e w' => (∃ b : Bool, e = .returned (.bool b)) ∧ w = w' := by
  by_cases hbig : 2147483647 < n
  · go_enter Tryz.func16, Tryz.ntmps16
    go_wp2
    go_ret
    exact ⟨⟨_, rfl⟩, rfl⟩
  · go_enter Tryz.func16, Tryz.ntmps16
    go_wp2
    go_loopw [10] (fun i wr => ∃ k : Nat, k ≤ n ∧ i = .int .i64 k ∧ w = wr) (fun i _ => n - (intOf i).toNat)
    case atStart => exact ⟨0, Nat.zero_le _, rfl, rfl⟩
    case round =>
      obtain ⟨k, hk, rfl, rfl⟩ := hrel
      by_cases hlt : k < n
      · obtain ⟨b, off, rfl, hcell⟩ := ht k (by omega)
        have hlk : k < ss.length := by omega
        have hle2 := hm ss[k] (List.getElem_mem hlk)
        generalize ss[k] = s at hcell hle2
        have hz : (B.bs s).size = s.length := rfl
        by_cases hs : 2147483647 < s.length
        · go_wp2
          go_ret
          exact ⟨⟨_, rfl⟩, rfl⟩
        · go_wp2
          go_roundw
          case rel => exact ⟨k + 1, by omega, by go_num, by first | trivial | rfl⟩
          case measure => simp [intOf]; omega
      · obtain rfl : k = n := by omega
        go_wp2
        go_ret
        exact ⟨⟨_, rfl⟩, rfl⟩

/-- whether a sign stands in a text -/
def hasB (s : List UInt8) (b : UInt8) : Bool := s.any fun c => c == b

set_option maxRecDepth 100000 in
set_option maxHeartbeats 1000000 in
theorem has_w (s : List UInt8) (b : UInt8) (x : Int) (hx : x = b.toNat) (w : World) (hs : s.length ≤ 9223372036854775807) :
    Calls Tryz.prog 50 #[.string (B.bs s), .int .u8 x] w fun e w' => e = .returned (.bool (hasB s b)) ∧ w = w' := by
  have hz : (B.bs s).size = s.length := rfl
  go_enter Tryz.func50, Tryz.ntmps50
  go_wp2
  go_loopw [5] (fun i wr => ∃ k : Nat, k ≤ s.length ∧ i = .int .i64 k ∧ hasB s b = hasB (s.drop k) b ∧ w = wr) (fun i _ => s.length - (intOf i).toNat)
  case atStart => exact ⟨0, Nat.zero_le _, rfl, rfl, rfl⟩
  case round =>
    obtain ⟨k, hk, rfl, hn, rfl⟩ := hrel
    have HN := Lib.hid hn
    clear hn
    by_cases hlt : k < s.length
    · generalize hc : s[k] = c
      have hix : ∀ h, (B.bs s)[k]'h = c := fun _ => hc
      have hd : s.drop k = c :: s.drop (k + 1) := by rw [List.drop_eq_getElem_cons hlt, hc]
      have hF : hasB s b = (c == b || hasB (s.drop (k + 1)) b) := by rw [HN.out, hd]; rfl
      have HF := Lib.hid hF
      clear hd hF
      by_cases h3 : c = b
      · subst h3
        have e : ((c.toNat : Int) == x) = true := by rw [hx]; simp
        clear hx
        go_wp2
        go_ret
        exact ⟨ret_bool (by rw [HF.out]; simp), rfl⟩
      · have e : ((c.toNat : Int) == x) = false := by
          rw [hx, beq_eq_false_iff_ne]
          intro e
          exact h3 (UInt8.toNat_inj.1 (by omega))
        clear hx
        go_wp2
        go_roundw
        case rel => exact ⟨k + 1, by omega, by go_num, by rw [HF.out]; simp [h3], by first | trivial | rfl⟩
        case measure => simp [intOf]; omega
    · obtain rfl : k = s.length := by omega
      go_wp2
      go_ret
      exact ⟨ret_bool (by rw [HN.out, List.drop_eq_nil_of_le (Nat.le_refl _)]; rfl), rfl⟩

set_option maxRecDepth 100000 in
set_option maxHeartbeats 1000000 in
theorem opens_w (k : Nat) (hk : k < 8) (w : World) : Calls Tryz.prog 48 #[.int .i64 k] w fun e w' => e = .returned (.string (B.bs (openT k))) ∧ w = w' := by
  match k, hk with
  | 0, _ => go_enter Tryz.func48, Tryz.ntmps48; go_wp2; go_ret; exact ⟨rfl, rfl⟩
  | 1, _ => go_enter Tryz.func48, Tryz.ntmps48; go_wp2; go_ret; exact ⟨rfl, rfl⟩
  | 2, _ => go_enter Tryz.func48, Tryz.ntmps48; go_wp2; go_ret; exact ⟨rfl, rfl⟩
  | 3, _ => go_enter Tryz.func48, Tryz.ntmps48; go_wp2; go_ret; exact ⟨rfl, rfl⟩
  | 4, _ => go_enter Tryz.func48, Tryz.ntmps48; go_wp2; go_ret; exact ⟨rfl, rfl⟩
  | 5, _ => go_enter Tryz.func48, Tryz.ntmps48; go_wp2; go_ret; exact ⟨rfl, rfl⟩
  | 6, _ => go_enter Tryz.func48, Tryz.ntmps48; go_wp2; go_ret; exact ⟨rfl, rfl⟩
  | 7, _ => go_enter Tryz.func48, Tryz.ntmps48; go_wp2; go_ret; exact ⟨rfl, rfl⟩

set_option maxRecDepth 100000 in
set_option maxHeartbeats 1000000 in
theorem closes_w (k : Nat) (hk : k < 8) (w : World) : Calls Tryz.prog 49 #[.int .i64 k] w fun e w' => e = .returned (.string (B.bs (closeT k))) ∧ w = w' := by
  match k, hk with
  | 0, _ => go_enter Tryz.func49, Tryz.ntmps49; go_wp2; go_ret; exact ⟨rfl, rfl⟩
  | 1, _ => go_enter Tryz.func49, Tryz.ntmps49; go_wp2; go_ret; exact ⟨rfl, rfl⟩
  | 2, _ => go_enter Tryz.func49, Tryz.ntmps49; go_wp2; go_ret; exact ⟨rfl, rfl⟩
  | 3, _ => go_enter Tryz.func49, Tryz.ntmps49; go_wp2; go_ret; exact ⟨rfl, rfl⟩
  | 4, _ => go_enter Tryz.func49, Tryz.ntmps49; go_wp2; go_ret; exact ⟨rfl, rfl⟩
  | 5, _ => go_enter Tryz.func49, Tryz.ntmps49; go_wp2; go_ret; exact ⟨rfl, rfl⟩
  | 6, _ => go_enter Tryz.func49, Tryz.ntmps49; go_wp2; go_ret; exact ⟨rfl, rfl⟩
  | 7, _ => go_enter Tryz.func49, Tryz.ntmps49; go_wp2; go_ret; exact ⟨rfl, rfl⟩

def bodyK (k : Nat) (l : List (List UInt8)) : List UInt8 := openT k ++ [10] ++ l.flatMap fun s => s ++ [10]

theorem keptT_body (k : Nat) (ss : List (List UInt8)) : keptT k ss = bodyK k ss ++ closeT k := by
  unfold keptT bodyK
  simp

theorem bodyK_snoc (k : Nat) (l : List (List UInt8)) (s : List UInt8) : bodyK k (l ++ [s]) = bodyK k l ++ (s ++ [10]) := by
  unfold bodyK
  simp

theorem bodyK_len (k : Nat) (l : List (List UInt8)) (h : ∀ s ∈ l, s.length ≤ 200) (hl : l.length ≤ 30) : (bodyK k l).length ≤ 7000 := by
  have := flat_len l h
  have := (sizes k).1
  unfold bodyK
  simp only [List.length_append, List.length_cons, List.length_nil]
  omega

theorem addK (x y : List UInt8) (w : World) (h : x.length + y.length ≤ 9223372036854775807) : (Op.stringOp .add (B.bs x) (B.bs y)).run Tryz.prog w = .ok (.string (B.bs (x ++ y))) w := by
  rw [run_string_add_sum (P := Tryz.prog) w _ _ (by rw [B.bs_size, B.bs_size]; omega), B.append]

set_option maxRecDepth 100000 in
set_option maxHeartbeats 2000000 in
theorem kept_w (k : Nat) (hk8 : k < 8) (a : Option Addr) (n cap : Nat) (ss : List (List UInt8)) (w : World) (hn : ss.length = n) (hsz : n ≤ 30) (hm : ∀ s ∈ ss, s.length ≤ 200) (ht : TextsK w a ss) :
    Calls Tryz.prog 20 #[.int .i64 k, .slice a n cap] w fun e w' => e = .returned (.string (B.bs (keptT k ss))) ∧ w = w' := by
  have hz := sizes k
  have hz1 := hz.1
  have hz2 := hz.2.1
  have a0 : (Op.stringOp .add (B.bs (openT k)) ⟨#[10]⟩).run Tryz.prog w = .ok (.string (B.bs (openT k ++ [10]))) w := addK _ [10] w (by simp; omega)
  have hb0 : B.bs (openT k ++ [10]) = B.bs (bodyK k (ss.take 0)) := by unfold bodyK; simp
  have hkt := keptT_body k ss
  have HB0 := Lib.hid hb0
  have HO := Lib.hid (opens_w k hk8 w)
  have HC := Lib.hid (closes_w k hk8 w)
  have HKT := Lib.hid hkt
  clear hz hb0 hkt
  generalize openT k = ot at a0 hz1 HB0 HO
  generalize closeT k = ct at hz2 HC HKT
  generalize keptT k ss = kt at HKT ⊢
  go_enter Tryz.func20, Tryz.ntmps20
  go_wp2_with fail
  refine HO.out.mono ?_
  rintro e w' ⟨rfl, rfl⟩
  go_wp2
  go_loopw [5, 13] (fun o i wr => ∃ j : Nat, j ≤ n ∧ i = .int .i64 j ∧ o = .string (B.bs (bodyK k (ss.take j))) ∧ w = wr) (fun _ i _ => n - (intOf i).toNat)
  case atStart => exact ⟨0, Nat.zero_le _, rfl, by rw [HB0.out], rfl⟩
  case round =>
    obtain ⟨j, hj, rfl, rfl, rfl⟩ := hrel
    have hlen := bodyK_len k (ss.take j) (fun s hs => hm s (List.mem_of_mem_take hs)) (by rw [List.length_take]; omega)
    by_cases hlt : j < n
    · obtain ⟨b, off, rfl, hcell⟩ := ht j (by omega)
      have hlk : j < ss.length := by omega
      have hsn := bodyK_snoc k (ss.take j) ss[j]
      rw [← List.take_succ_eq_append_getElem hlk] at hsn
      have hle2 := hm ss[j] (List.getElem_mem hlk)
      generalize ss[j] = s at hcell hsn hle2
      have ha : (Op.stringOp .add (B.bs s) ⟨#[10]⟩).run Tryz.prog w = .ok (.string (B.bs (s ++ [10]))) w := addK s [10] w (by simp; omega)
      have hb := addK (bodyK k (ss.take j)) (s ++ [10]) w (by rw [List.length_append]; simp; omega)
      have HSN := Lib.hid hsn
      clear hsn a0
      generalize bodyK k (ss.take j) = u at hb HSN hlen
      go_wp2
      go_roundw
      case rel => exact ⟨j + 1, by omega, by go_num, by rw [HSN.out], by first | trivial | rfl⟩
      case measure => simp [intOf]; omega
    · obtain rfl : j = n := by omega
      rw [List.take_of_length_le (by omega)] at hlen ⊢
      have hb := addK (bodyK k ss) ct w (by omega)
      rw [← HKT.out] at hb
      generalize bodyK k ss = u at hb hlen
      clear a0
      go_wp2_with fail
      refine HC.out.mono ?_
      rintro e w' ⟨rfl, rfl⟩
      go_wp2
      go_ret
      exact ⟨rfl, rfl⟩

/-- What the law asks of a line. -/
structure StillOne (e : Bool) (s : List UInt8) : Prop where
  emp : s = [] → e = true
  full : s ≠ [] → fullB s = true
  asc : asciiB false s = true
  len : s.length ≤ 200
  h60 : hasB s 60 = false
  h62 : hasB s 62 = false
  h45 : hasB s 45 = false
  h63 : hasB s 63 = false
  h93 : hasB s 93 = false

theorem hasB_not {s : List UInt8} {b : UInt8} (h : hasB s b = false) : ∀ c ∈ s, c ≠ b := by
  rintro c hc rfl
  have : hasB s c = true := List.any_eq_true.2 ⟨c, hc, by simp⟩
  rw [h] at this; cases this

theorem StillOne.line {k : Nat} {s : List UInt8} (h : StillOne (decide (k < 6)) s) : StillL k s where
  all c hc := by
    have h1 : ((decide (32 ≤ c) && decide (c ≤ 126)) || (false && c == 10)) = true := List.all_eq_true.1 h.asc c hc
    have h2 : 32 ≤ c ∧ c ≤ 126 := by simpa using h1
    exact ⟨h2.1, h2.2, hasB_not h.h60 c hc, hasB_not h.h62 c hc, hasB_not h.h45 c hc, hasB_not h.h63 c hc, hasB_not h.h93 c hc⟩
  len := h.len
  ink hk := by
    have hne : s ≠ [] := fun e => by
      have := h.emp e
      simp at this; omega
    obtain ⟨c, t, rfl⟩ : ∃ c t, s = c :: t := by
      cases s with
      | nil => exact absurd rfl hne
      | cons c t => exact ⟨c, t, rfl⟩
    have h1 := h.full hne
    have h2 : c ≠ 32 := by
      rintro rfl
      simp [fullB] at h1
    have h3 : ((decide (32 ≤ c) && decide (c ≤ 126)) || (false && c == 10)) = true := List.all_eq_true.1 h.asc c (by simp)
    have h4 : c ≠ 9 := by
      rintro rfl
      simp at h3
    unfold B.trimL
    rw [List.dropWhile_cons_of_neg (by unfold B.isST; simp [h2, h4])]
    rfl

set_option maxRecDepth 100000 in
set_option maxHeartbeats 4000000 in
theorem still_w (e : Bool) (a : Option Addr) (n cap : Nat) (ss : List (List UInt8)) (w : World) (hn : ss.length = n) (hnm : n ≤ 9223372036854775807) (hm : ∀ s ∈ ss, s.length ≤ 9223372036854775807) (ht : TextsK w a ss) :
    Calls Tryz.prog 21 #[.slice a n cap, .bool e] w fun x w' => (∃ b : Bool, x = .returned (.bool b) ∧ (b = true → n ≤ 30 ∧ ∀ s ∈ ss, StillOne e s)) ∧ w = w' := by
  by_cases hbig : 30 < n
  · go_enter Tryz.func21, Tryz.ntmps21
    go_wp2
    go_ret
    exact ⟨⟨false, rfl, by intro h; cases h⟩, rfl⟩
  go_enter Tryz.func21, Tryz.ntmps21
  go_wp2
  go_loopw [12] (fun i wr => ∃ k : Nat, k ≤ n ∧ i = .int .i64 k ∧ (∀ (j : Nat) (_ : j < k) (h : j < ss.length), StillOne e ss[j]) ∧ w = wr) (fun i _ => n - (intOf i).toNat)
  case atStart => exact ⟨0, Nat.zero_le _, rfl, fun j hj => by omega, rfl⟩
  case round =>
    obtain ⟨k, hk, rfl, hchk, rfl⟩ := hrel
    by_cases hlt : k < n
    · obtain ⟨b, off, rfl, hcell⟩ := ht k (by omega)
      have hlk : k < ss.length := by omega
      have hle2 := hm ss[k] (List.getElem_mem hlk)
      generalize hsk : ss[k] = s at hcell hle2
      have hzs : (B.bs s).size = s.length := rfl
      have HCHK := Lib.hid hchk
      have HSK := Lib.hid hsk
      have he : (B.bs s).toList.isEmpty = decide (s = []) := by
        rw [Lib.toList_data, B.bs_data]
        cases s <;> simp
      clear hchk hsk ht
      have hno : ∀ W : World, (∃ b : Bool, Ending.returned (.bool false) = .returned (.bool b) ∧ (b = true → n ≤ 30 ∧ ∀ s ∈ ss, StillOne e s)) := fun _ => ⟨false, rfl, by intro h; cases h⟩
      have HNO := Lib.hid (hno w)
      clear hno
      by_cases hse : s = []
      · rw [decide_eq_true hse] at he
        have HSE := Lib.hid hse
        clear hse
        cases e
        · go_wp2
          go_ret
          first | exact ⟨HNO.out, rfl⟩ | exact ⟨.inl rfl, rfl⟩
        go_wp2_with fail
        refine (ascii_w s false w hle2).mono ?_
        rintro x w' ⟨rfl, rfl⟩
        cases has : asciiB false s
        · go_wp2
          go_ret
          first | exact ⟨HNO.out, rfl⟩ | exact ⟨.inl rfl, rfl⟩
        by_cases hl200 : 200 < s.length
        · go_wp2
          go_ret
          first | exact ⟨HNO.out, rfl⟩ | exact ⟨.inl rfl, rfl⟩
        have hd200 : decide ((200 : Int) < (s.length : Int)) = false := by simp; omega
        go_wp2_with fail
        refine (has_w s 60 60 rfl w hle2).mono ?_
        rintro x w' ⟨rfl, rfl⟩
        cases h60 : hasB s 60
        case true =>
          go_wp2
          go_ret
          first | exact ⟨HNO.out, rfl⟩ | exact ⟨.inl rfl, rfl⟩
        go_wp2_with fail
        refine (has_w s 62 62 rfl w hle2).mono ?_
        rintro x w' ⟨rfl, rfl⟩
        cases h62 : hasB s 62
        case true =>
          go_wp2
          go_ret
          first | exact ⟨HNO.out, rfl⟩ | exact ⟨.inl rfl, rfl⟩
        go_wp2_with fail
        refine (has_w s 45 45 rfl w hle2).mono ?_
        rintro x w' ⟨rfl, rfl⟩
        cases h45 : hasB s 45
        case true =>
          go_wp2
          go_ret
          first | exact ⟨HNO.out, rfl⟩ | exact ⟨.inl rfl, rfl⟩
        go_wp2_with fail
        refine (has_w s 63 63 rfl w hle2).mono ?_
        rintro x w' ⟨rfl, rfl⟩
        cases h63 : hasB s 63
        case true =>
          go_wp2
          go_ret
          first | exact ⟨HNO.out, rfl⟩ | exact ⟨.inl rfl, rfl⟩
        go_wp2_with fail
        refine (has_w s 93 93 rfl w hle2).mono ?_
        rintro x w' ⟨rfl, rfl⟩
        cases h93 : hasB s 93
        case true =>
          go_wp2
          go_ret
          first | exact ⟨HNO.out, rfl⟩ | exact ⟨.inl rfl, rfl⟩
        go_wp2
        go_roundw
        case rel => exact ⟨k + 1, by omega, by go_num, fun j hj h => (by
          by_cases hjk : j = k
          · subst hjk; rw [HSK.out]; exact ⟨fun _ => rfl, fun h => absurd HSE.out h, has, by omega, h60, h62, h45, h63, h93⟩
          · exact HCHK.out j (by omega) h), by first | trivial | rfl⟩
        case measure => simp [intOf]; omega
      · rw [decide_eq_false hse] at he
        have HSE := Lib.hid hse
        clear hse
        go_wp2_with fail
        refine (full_w s w hle2).mono ?_
        rintro x w' ⟨rfl, rfl⟩
        cases hfull : fullB s
        · go_wp2
          go_ret
          first | exact ⟨HNO.out, rfl⟩ | exact ⟨.inl rfl, rfl⟩
        go_wp2_with fail
        refine (ascii_w s false w hle2).mono ?_
        rintro x w' ⟨rfl, rfl⟩
        cases has : asciiB false s
        · go_wp2
          go_ret
          first | exact ⟨HNO.out, rfl⟩ | exact ⟨.inl rfl, rfl⟩
        by_cases hl200 : 200 < s.length
        · go_wp2
          go_ret
          first | exact ⟨HNO.out, rfl⟩ | exact ⟨.inl rfl, rfl⟩
        have hd200 : decide ((200 : Int) < (s.length : Int)) = false := by simp; omega
        go_wp2_with fail
        refine (has_w s 60 60 rfl w hle2).mono ?_
        rintro x w' ⟨rfl, rfl⟩
        cases h60 : hasB s 60
        case true =>
          go_wp2
          go_ret
          first | exact ⟨HNO.out, rfl⟩ | exact ⟨.inl rfl, rfl⟩
        go_wp2_with fail
        refine (has_w s 62 62 rfl w hle2).mono ?_
        rintro x w' ⟨rfl, rfl⟩
        cases h62 : hasB s 62
        case true =>
          go_wp2
          go_ret
          first | exact ⟨HNO.out, rfl⟩ | exact ⟨.inl rfl, rfl⟩
        go_wp2_with fail
        refine (has_w s 45 45 rfl w hle2).mono ?_
        rintro x w' ⟨rfl, rfl⟩
        cases h45 : hasB s 45
        case true =>
          go_wp2
          go_ret
          first | exact ⟨HNO.out, rfl⟩ | exact ⟨.inl rfl, rfl⟩
        go_wp2_with fail
        refine (has_w s 63 63 rfl w hle2).mono ?_
        rintro x w' ⟨rfl, rfl⟩
        cases h63 : hasB s 63
        case true =>
          go_wp2
          go_ret
          first | exact ⟨HNO.out, rfl⟩ | exact ⟨.inl rfl, rfl⟩
        go_wp2_with fail
        refine (has_w s 93 93 rfl w hle2).mono ?_
        rintro x w' ⟨rfl, rfl⟩
        cases h93 : hasB s 93
        case true =>
          go_wp2
          go_ret
          first | exact ⟨HNO.out, rfl⟩ | exact ⟨.inl rfl, rfl⟩
        go_wp2
        go_roundw
        case rel => exact ⟨k + 1, by omega, by go_num, fun j hj h => (by
          by_cases hjk : j = k
          · subst hjk; rw [HSK.out]; exact ⟨fun h => absurd h HSE.out, fun _ => hfull, has, by omega, h60, h62, h45, h63, h93⟩
          · exact HCHK.out j (by omega) h), by first | trivial | rfl⟩
        case measure => simp [intOf]; omega
    · obtain rfl : k = n := by omega
      go_wp2
      go_ret
      refine ⟨⟨true, rfl, fun _ => ⟨by omega, fun s hs => ?_⟩⟩, rfl⟩
      obtain ⟨j, hj, rfl⟩ := List.getElem_of_mem hs
      exact hchk j (by omega) hj

end Go.Proofs.YtbfmmikllelfeaaGreatDoor

/- The law FnKept: its walk. -/
namespace Go.Proofs.YtbfmmikllelfeaaGreatDoor
open Go.RowKit Sl

/-- The texts of the law, by name. -/
theorem kept_all (G0 : HP) (r : Nat) (hr : r < 8) (ss : List (List UInt8)) (hss : ∀ s ∈ ss, StillL r s) (hlen : ss.length ≤ 30) : ∃ k0 k1 t1 t2 o1 o2 : List UInt8, keptT r ss = k0 ∧ PrintsP plainO.pcells G0 (B.bs k0) (B.bs k1) ∧ PrintsP plainO.pcells G0 (B.bs t2) (B.bs o2) ∧
    (∀ w, (Op.stringOp .add (B.bs k0) ⟨#[10]⟩).run Tryz.prog w = .ok (.string (B.bs k1)) w) ∧
    (∀ w, (Op.stringOp .add ⟨#[97, 10, 10]⟩ (B.bs k0)).run Tryz.prog w = .ok (.string (B.bs t1)) w) ∧
    (∀ w, (Op.stringOp .add (B.bs t1) ⟨#[10, 10, 98]⟩).run Tryz.prog w = .ok (.string (B.bs t2)) w) ∧
    (∀ w, (Op.stringOp .add ⟨#[60, 112, 62, 97, 60, 47, 112, 62, 10]⟩ (B.bs k0)).run Tryz.prog w = .ok (.string (B.bs o1)) w) ∧
    (∀ w, (Op.stringOp .add (B.bs o1) ⟨#[10, 60, 112, 62, 98, 60, 47, 112, 62, 10]⟩).run Tryz.prog w = .ok (.string (B.bs o2)) w) := by
  have hkl := keptT_len r ss hss hlen
  refine ⟨keptT r ss, keptT r ss ++ [10], [97, 10, 10] ++ keptT r ss, betweenT r ss, [60, 112, 62, 97, 60, 47, 112, 62, 10] ++ keptT r ss, [60, 112, 62, 97, 60, 47, 112, 62, 10] ++ keptT r ss ++ [10, 60, 112, 62, 98, 60, 47, 112, 62, 10], rfl, kept_prints G0 r hr ss hss hlen, between_prints G0 r hr ss hss hlen, fun w => ?_, fun w => ?_, fun w => ?_, fun w => ?_, fun w => ?_⟩
  · exact addK _ [10] w (by simp; omega)
  · exact addK [97, 10, 10] _ w (by simp; omega)
  · unfold betweenT
    exact addK _ [10, 10, 98] w (by simp; omega)
  · exact addK [60, 112, 62, 97, 60, 47, 112, 62, 10] _ w (by simp; omega)
  · exact addK _ [10, 60, 112, 62, 98, 60, 47, 112, 62, 10] w (by simp; omega)

set_option maxRecDepth 100000 in
set_option maxHeartbeats 2000000 in
theorem FnKept_w (K : Nat) (hK : K ≤ 255) (a : Option Addr) (n cap : Nat) (ss : List (List UInt8)) (W : World) (hn : ss.length = n) (hnm : n ≤ 9223372036854775807) (ht : TextsK W a ss) (hm : ∀ s ∈ ss, s.length ≤ 9223372036854775807) :
    Calls Tryz.prog 6 #[.int .u8 K, .slice a n cap] W fun e w' => e = .returned (.bool true) ∧ Below W.heap.size W w' := by
  have HF := Lib.hid (fits2_w a n cap ss W hn hnm ht hm)
  obtain ⟨r, hr1, hr2⟩ : ∃ r : Nat, (K : Int) % 8 = (r : Int) ∧ r = K % 8 := ⟨_, by omega, rfl⟩
  have hr : r < 8 := by omega
  have hd : decide ((r : Int) < 6) = decide (r < 6) := decide_eq_decide.2 ⟨fun h => by omega, fun h => by omega⟩
  have HS := Lib.hid (still_w (decide (r < 6)) a n cap ss W hn hnm hm ht)
  clear hr2
  go_enter Tryz.func6, Tryz.ntmps6
  go_wp2_with fail
  refine HF.out.mono ?_
  rintro e w' ⟨⟨b, rfl⟩, rfl⟩
  cases b
  · go_wp2
    go_ret
    exact ⟨rfl, Below.refl _ _⟩
  go_wp2_with fail
  refine HS.out.mono ?_
  rintro e w' ⟨⟨b, rfl, hb⟩, rfl⟩
  cases b
  · clear hb
    go_wp2
    go_ret
    exact ⟨rfl, Below.refl _ _⟩
  obtain ⟨h30, hall⟩ := hb rfl
  have hss : ∀ s ∈ ss, StillL r s := fun s hs => (hall s hs).line
  have hlen : ss.length ≤ 30 := by omega
  have hk := kept_w r hr a n cap ss W hn h30 (fun s hs => (hss s hs).len) ht
  obtain ⟨k0, k1, t1, t2, o1, o2, hk0, hP, hQ, a1, a2, a3, a4, a5⟩ := kept_all (Sl.old W) r hr ss hss hlen
  rw [hk0] at hk
  have HK := Lib.hid hk
  have HP := Lib.hid hP
  have HQ := Lib.hid hQ
  clear hall hss hb hk hP hQ hk0 HS HF hm ht
  go_wp2_with fail
  refine HK.out.mono ?_
  rintro e w' ⟨rfl, rfl⟩
  go_wp2_with fail
  refine (plain_w W).mono ?_
  rintro e w1 ⟨rfl, hb1⟩
  go_wp2_with fail
  refine (HTMLP_b plainO rfl _ _ w1 W hb1 HP.out).mono ?_
  rintro e w2 ⟨rfl, hb2⟩
  go_wp2_with fail
  refine (plain_w w2).mono ?_
  rintro e w3 ⟨rfl, hb3⟩
  have hb4 := hb2.trans (hb3.mono hb2.size)
  go_wp2_with fail
  refine (HTMLP_b plainO rfl _ _ w3 W hb4 HQ.out).mono ?_
  rintro e w4 ⟨rfl, hb5⟩
  go_wp2
  go_ret
  exact ⟨rfl, hb5⟩

end Go.Proofs.YtbfmmikllelfeaaGreatDoor
