/- Small functions of the law FnCodeSpan: printable texts, runs of backquotes, texts that are not blank. -/
import Derived.Test.YtcmpcjffmccllaaGreatDoorI0
import Derived.Test.YtcmpcjffmccllaaGreatDoorQ1
import Derived.Test.YtcmpcjffmccllaaGreatDoorSr
import Derived.Test.YtcmpcjffmccllaaGreatDoorRw
namespace Go.Proofs.YtcmpcjffmccllaaGreatDoor
open Go.RowKit Sl

def printB (s : List UInt8) : Bool := s.all fun c => decide (32 ≤ c) && decide (c ≤ 126)

theorem printB_mem {s : List UInt8} (h : printB s = true) : ∀ c ∈ s, 32 ≤ c ∧ c ≤ 126 := by
  intro c hc
  have := List.all_eq_true.1 h c hc
  simpa using this

set_option maxRecDepth 100000 in
set_option maxHeartbeats 1000000 in
theorem printable_w (s : List UInt8) (most : Nat) (w : World) (hm : most ≤ 1000000000) (hs : s.length ≤ 9223372036854775807) :
    Calls Tryz.prog 13 #[.string (B.bs s), .int .i64 most] w fun e w' => e = .returned (.bool (decide (s.length ≤ most) && printB s)) ∧ w = w' := by
  have hz : (B.bs s).size = s.length := rfl
  by_cases hbig : most < s.length
  · have hd : decide (s.length ≤ most) = false := by simp; omega
    go_enter Tryz.func13, Tryz.ntmps13
    go_wp2
    go_ret
    exact ⟨ret_bool (by rw [hd]; rfl), rfl⟩
  have hd : decide (s.length ≤ most) = true := by simp; omega
  have HD0 := Lib.hid hd
  clear hd
  go_enter Tryz.func13, Tryz.ntmps13
  go_wp2
  go_loopw [12] (fun i wr => ∃ k : Nat, k ≤ s.length ∧ i = .int .i64 k ∧ printB s = printB (s.drop k) ∧ w = wr) (fun i _ => s.length - (intOf i).toNat)
  case atStart => exact ⟨0, Nat.zero_le _, rfl, rfl, rfl⟩
  case round =>
    obtain ⟨k, hk, rfl, hn, rfl⟩ := hrel
    have HN := Lib.hid hn
    clear hn
    by_cases hlt : k < s.length
    · generalize hc : s[k] = c
      have hix : ∀ h, (B.bs s)[k]'h = c := fun _ => hc
      have hd : s.drop k = c :: s.drop (k + 1) := by rw [List.drop_eq_getElem_cons hlt, hc]
      have a1 : decide ((c.toNat : Int) < 32) = decide (c < 32) := u8_lt (b := 32)
      have a2 : decide ((126 : Int) < (c.toNat : Int)) = decide (126 < c) := u8_lt (a := 126)
      have hF : printB s = ((decide (32 ≤ c) && decide (c ≤ 126)) && printB (s.drop (k + 1))) := by rw [HN.out, hd]; rfl
      have HF := Lib.hid hF
      clear hd hF
      by_cases h1 : c < 32
      · have e1 : decide (c < 32) = true := by simpa using h1
        rw [e1] at a1
        go_wp2
        go_ret
        exact ⟨ret_bool (by rw [HF.out, HD0.out]; have h5 : ¬ (32 ≤ c) := UInt8.not_le.2 h1; simp [h5]), rfl⟩
      · have e1 : decide (c < 32) = false := by simpa using h1
        rw [e1] at a1
        by_cases h2 : 126 < c
        · have e2 : decide (126 < c) = true := by simpa using h2
          rw [e2] at a2
          go_wp2
          go_ret
          exact ⟨ret_bool (by rw [HF.out, HD0.out]; have h5 : ¬ (c ≤ 126) := UInt8.not_le.2 h2; simp [h5]), rfl⟩
        · have e2 : decide (126 < c) = false := by simpa using h2
          rw [e2] at a2
          go_wp2
          go_roundw
          case rel => exact ⟨k + 1, by omega, by go_num, by rw [HF.out]; have h5 := UInt8.not_lt.1 h1; have h6 := UInt8.not_lt.1 h2; simp [h5, h6], by first | trivial | rfl⟩
          case measure => simp [intOf]; omega
    · obtain rfl : k = s.length := by omega
      go_wp2
      go_ret
      exact ⟨ret_bool (by rw [HN.out, HD0.out, List.drop_eq_nil_of_le (Nat.le_refl _)]; rfl), rfl⟩

set_option maxRecDepth 100000 in
set_option maxHeartbeats 1000000 in
theorem runLength_w (s : List UInt8) (i : Nat) (w : World) (hs : s.length ≤ 1000000000) (hi : i ≤ s.length) :
    Calls Tryz.prog 28 #[.string (B.bs s), .int .i64 i, .int .u8 96] w fun e w' => e = .returned (.int .i64 (tickRun s i : Nat)) ∧ w = w' := by
  have hz : (B.bs s).size = s.length := rfl
  have hle := tickRun_le (s := s) hi
  have h1 : ∀ k, k < tickRun s i → ∀ h, (B.bs s)[i + k]'h = 96 := fun k hk h => by
    obtain ⟨_, hq⟩ := List.getElem?_eq_some_iff.1 (tickRun_at (s := s) (i := i) hk)
    exact hq
  have h2 : i + tickRun s i < s.length → ∃ c, c ≠ 96 ∧ ∀ h, (B.bs s)[i + tickRun s i]'h = c := fun hl => by
    refine ⟨s[i + tickRun s i], ?_, fun _ => rfl⟩
    intro hq
    have := tickRun_end (s := s) (i := i)
    rw [List.getElem?_eq_getElem hl, hq] at this
    exact this rfl
  have H1 := Lib.hid h1
  have H2 := Lib.hid h2
  generalize tickRun s i = n at *
  clear h1 h2
  go_enter Tryz.func28, Tryz.ntmps28
  go_wp2
  go_loopw [7] (fun v wr => ∃ k : Nat, k ≤ n ∧ v = .int .i64 k ∧ w = wr) (fun v _ => n - (intOf v).toNat)
  case atStart => exact ⟨0, Nat.zero_le _, rfl, rfl⟩
  case round =>
    obtain ⟨k, hk, rfl, rfl⟩ := hrel
    by_cases hlt : k < n
    · have hix := H1.out k hlt
      go_wp2
      go_roundw
      case rel => exact ⟨k + 1, by omega, by go_num, by first | trivial | rfl⟩
      case measure => simp [intOf]; omega
    · obtain rfl : k = n := by omega
      by_cases hl : i + k < s.length
      · obtain ⟨c, hc, hix⟩ := H2.out hl
        have e : ((c.toNat : Int) == 96) = false := u8_ne (b := 96) hc
        go_wp2
        go_ret
        first | exact ⟨rfl, rfl⟩ | simp
      · go_wp2
        go_ret
        first | exact ⟨rfl, rfl⟩ | simp

set_option maxRecDepth 100000 in
set_option maxHeartbeats 1000000 in
theorem hasRun_w (s : List UInt8) (n : Nat) (w : World) (hs : s.length ≤ 1000000) (hn : 1 ≤ n) (hn2 : n ≤ 1000) :
    Calls Tryz.prog 14 #[.string (B.bs s), .int .i64 n] w fun e w' => ∃ b : Bool, e = .returned (.bool b) ∧ w = w' ∧ (b = false → NoRuns s n 0) := by
  have hz : (B.bs s).size = s.length := rfl
  go_enter Tryz.func14, Tryz.ntmps14
  go_wp2
  go_loopw [5] (fun v wr => ∃ k : Nat, k ≤ s.length ∧ v = .int .i64 k ∧ (NoRuns s n k → NoRuns s n 0) ∧ w = wr) (fun v _ => s.length - (intOf v).toNat)
  case atStart => exact ⟨0, Nat.zero_le _, rfl, fun h => h, rfl⟩
  case round =>
    obtain ⟨k, hk, rfl, hi, rfl⟩ := hrel
    have HI := Lib.hid hi
    clear hi
    by_cases hlt : k < s.length
    · have hr := runLength_w s k w (by omega) hk
      have hle := tickRun_le (s := s) hk
      have hst := fun h1 h2 => NoRuns.step (s := s) (n := n) (i := k) hlt h1 h2
      have HST := Lib.hid hst
      clear hst
      generalize tickRun s k = m at *
      go_wp2_with fail
      refine hr.mono ?_
      rintro e w1 ⟨rfl, rfl⟩
      by_cases hmn : m = n
      · subst hmn
        go_wp2
        go_ret
        exact ⟨true, rfl, rfl, fun h => by cases h⟩
      · have e1 : ((m : Int) == (n : Int)) = false := by simp; omega
        by_cases hm0 : m = 0
        · subst hm0
          go_wp2
          go_roundw
          case rel => exact ⟨k + 1, by omega, by go_num, fun h => HI.out (HST.out hmn h), by first | trivial | rfl⟩
          case measure => simp [intOf]; omega
        · have e2 : max (m : Int) 1 = (m : Int) := by omega
          have e3 : max m 1 = m := by omega
          rw [e3] at HST
          go_wp2
          go_roundw
          case rel => exact ⟨k + m, by omega, by go_num, fun h => HI.out (HST.out hmn h), by first | trivial | rfl⟩
          case measure => simp [intOf]; omega
    · obtain rfl : k = s.length := by omega
      go_wp2
      go_ret
      exact ⟨false, rfl, rfl, fun _ => HI.out (.stop (Nat.le_refl _))⟩

theorem u8_beq {a b : UInt8} : (((a.toNat : Int)) == (b.toNat : Int)) = (a == b) := by
  by_cases h : a = b
  · subst h; simp
  · rw [u8_ne h, beq_eq_false_iff_ne.2 h]

def blankB (c : UInt8) : Bool := c == 32 || c == 9 || c == 10 || c == 13

set_option maxRecDepth 100000 in
set_option maxHeartbeats 1000000 in
theorem IsBlank_w (c : UInt8) (w : World) : Calls Tryz.prog 29 #[.int .u8 c.toNat] w fun e w' => e = .returned (.bool (blankB c)) ∧ w = w' := by
  have h1 : ((c.toNat : Int) == 32) = (c == 32) := u8_beq (b := 32)
  have h2 : ((c.toNat : Int) == 9) = (c == 9) := u8_beq (b := 9)
  have h3 : ((c.toNat : Int) == 10) = (c == 10) := u8_beq (b := 10)
  have h4 : ((c.toNat : Int) == 13) = (c == 13) := u8_beq (b := 13)
  unfold blankB
  generalize (c == 32) = b1 at *
  generalize (c == 9) = b2 at *
  generalize (c == 10) = b3 at *
  generalize (c == 13) = b4 at *
  cases b1 <;> cases b2 <;> cases b3 <;> cases b4
  all_goals
    go_enter Tryz.func29, Tryz.ntmps29
    go_wp2
    go_ret
    exact ⟨rfl, rfl⟩

set_option maxRecDepth 100000 in
set_option maxHeartbeats 1000000 in
theorem shorn_w (s : List UInt8) (w : World) (hs : s.length ≤ 1000000000) :
    Calls Tryz.prog 15 #[.string (B.bs s)] w fun e w' => ∃ r : List UInt8, e = .returned (.string (B.bs r)) ∧ w = w' ∧ (r ≠ [] → ∃ c ∈ s, blankB c = false) := by
  have hz : (B.bs s).size = s.length := rfl
  go_enter Tryz.func15, Tryz.ntmps15
  go_wp2
  go_loopw [3] (fun v wr => ∃ k : Nat, k ≤ s.length ∧ v = .int .i64 k ∧ w = wr) (fun v _ => s.length - (intOf v).toNat)
  case atStart => exact ⟨0, Nat.zero_le _, rfl, rfl⟩
  case round =>
    obtain ⟨k, hk, rfl, rfl⟩ := hrel
    by_cases hlt : k < s.length
    · generalize hc : s[k] = c
      have hix : ∀ h, (B.bs s)[k]'h = c := fun _ => hc
      have hm : c ∈ s := by rw [← hc]; exact List.getElem_mem hlt
      have hbl := IsBlank_w c w
      cases hb : blankB c
      · rw [hb] at hbl
        have HW := Lib.hid (show ∃ c ∈ s, blankB c = false from ⟨c, hm, hb⟩)
        have HBL := Lib.hid hbl
        clear hm hb hc hbl
        go_wp2_with fail
        refine HBL.out.mono ?_
        rintro e w1 ⟨rfl, rfl⟩
        go_wp2
        go_loopw [4] (fun v wr => ∃ j : Nat, k ≤ j ∧ j ≤ s.length ∧ v = .int .i64 j ∧ w = wr) (fun v _ => (intOf v).toNat)
        case atStart => exact ⟨s.length, by omega, Nat.le_refl _, rfl, rfl⟩
        case round =>
          obtain ⟨j, hkj, hj, rfl, rfl⟩ := hrel
          clear HBL hix
          have fin : ∃ r, B.bs r = (B.bs s).extract k j := ⟨(s.take j).drop k, by rw [B.extract_bs, B.bs_data, List.drop_take]⟩
          obtain ⟨r, hr⟩ := fin
          by_cases hlt2 : k < j
          · obtain ⟨j, rfl⟩ : ∃ m, j = m + 1 := ⟨j - 1, by omega⟩
            generalize hc : s[j] = d
            have hix : ∀ h, (B.bs s)[j]'h = d := fun _ => hc
            have HBL2 := Lib.hid (IsBlank_w d w)
            clear hc
            cases hb2 : blankB d
            · rw [hb2] at HBL2
              go_wp2_with fail
              refine HBL2.out.mono ?_
              rintro e w1 ⟨rfl, rfl⟩
              go_wp2
              go_ret
              exact ⟨r, by rw [hr]; rfl, rfl, fun _ => HW.out⟩
            · rw [hb2] at HBL2
              go_wp2_with fail
              refine HBL2.out.mono ?_
              rintro e w1 ⟨rfl, rfl⟩
              clear hr hix
              go_wp2
              go_roundw
              case rel => exact ⟨j, by omega, by omega, by go_num, by first | trivial | rfl⟩
              case measure => simp [intOf]
          · obtain rfl : k = j := by omega
            clear hr
            go_wp2
            go_ret
            exact ⟨[], rfl, rfl, fun h => absurd rfl h⟩
      · rw [hb] at hbl
        have HBL := Lib.hid hbl
        clear hm hb hc hbl
        go_wp2_with fail
        refine HBL.out.mono ?_
        rintro e w1 ⟨rfl, rfl⟩
        go_wp2
        go_roundw
        case rel => exact ⟨k + 1, by omega, by go_num, by first | trivial | rfl⟩
        case measure => simp [intOf]; omega
    · obtain rfl : k = s.length := by omega
      go_wp2
      go_loopw [4] (fun v wr => v = .int .i64 (s.length : Int) ∧ w = wr) (fun _ _ => 0)
      case atStart => first | exact ⟨rfl, rfl⟩ | exact ⟨rfl, trivial⟩
      case round =>
        obtain ⟨rfl, rfl⟩ := hrel
        go_wp2
        go_ret
        exact ⟨[], rfl, rfl, fun h => absurd rfl h⟩

end Go.Proofs.YtcmpcjffmccllaaGreatDoor

/- The text of FnCodeSpan: its line, its inlines, its HTML. -/
namespace Go.Proofs.YtcmpcjffmccllaaGreatDoor
open Go.RowKit

def spanHTML (s : List UInt8) : List UInt8 := paraHTML ([97, 32] ++ (codeOpen ++ htmlPairs.esc s ++ codeEnd))

theorem spanTxt_cons (n : Nat) (s : List UInt8) : spanTxt n s = 97 :: (32 :: List.replicate n 96 ++ [32] ++ s ++ 32 :: List.replicate n 96) := by
  unfold spanTxt; simp

theorem spanTxt_mem {n : Nat} {s : List UInt8} {c : UInt8} (h : c ∈ spanTxt n s) : c = 97 ∨ c = 32 ∨ c = 96 ∨ c ∈ s := by
  unfold spanTxt at h
  simp only [List.mem_append, List.mem_cons, List.mem_replicate, List.not_mem_nil, or_false] at h
  rcases h with ((((h | h) | h) | h) | h) | h
  · exact .inl h
  · exact .inr (.inl h)
  · exact .inr (.inr (.inl h.2))
  · exact .inr (.inl h)
  · exact .inr (.inr (.inr h))
  · rcases h with h | h
    · exact .inr (.inl h)
    · exact .inr (.inr (.inl h.2))

theorem noMark_97 : NoMark 97 := by constructor <;> decide

/-- What the law lets in. -/
structure SpanOk (s : List UInt8) (n : Nat) : Prop where
  n1 : 1 ≤ n
  n20 : n ≤ 20
  len : s.length ≤ 200
  all : ∀ c ∈ s, 32 ≤ c ∧ c ≤ 126
  runs : NoRuns s n 0
  ink : ∃ c ∈ s, blankB c = false

theorem SpanOk.mem {s : List UInt8} {n : Nat} (h : SpanOk s n) : ∀ c ∈ spanTxt n s, 32 ≤ c := by
  intro c hc
  rcases spanTxt_mem hc with rfl | rfl | rfl | hc
  · decide
  · decide
  · decide
  · exact (h.all c hc).1

theorem SpanOk.text {s : List UInt8} {n : Nat} (h : SpanOk s n) : PaText (spanTxt n s) 97 (32 :: List.replicate n 96 ++ [32] ++ s ++ 32 :: List.replicate n 96) := by
  have hm := h.mem
  rw [spanTxt_cons] at hm ⊢
  have hh : Heads (LineOf (97 :: (32 :: List.replicate n 96 ++ [32] ++ s ++ 32 :: List.replicate n 96), 0)) 97 := heads_lineOf (by decide) (by decide)
  have hlen : (32 :: List.replicate n 96 ++ [32] ++ s ++ 32 :: List.replicate n 96).length ≤ 1000000 := by
    have := h.n20
    have := h.len
    simp; omega
  refine pa_text hlen (by decide) (by decide) noMark_97 (fun x hx => ?_) (noItemL (lineOf_ok _ _ (by simp only [List.length_cons]; omega)) hh (by unfold Ln.noItem; decide))
  have := hm x hx
  have a1 : 32 ≤ x.toNat := this
  refine ⟨?_, ?_⟩ <;> (rintro rfl; simp at a1)

theorem SpanOk.scan {s : List UInt8} {n : Nat} (h : SpanOk s n) (o : Opt) : Scan o (spanTxt n s) 0 0 [.plain [97, 32], .code s] := by
  have hl := spanTxt_len n s
  have hn := h.n1
  have h10 : (10 : UInt8) ∉ s := fun hc => by
    have := (h.all 10 hc).1
    exact absurd this (by decide)
  have hto : CodeTo (spanTxt n s) n (n + 3 + s.length + 1) (2 + n) := by
    have := span_to n s h.runs (Nat.zero_le _)
    rw [Nat.add_zero] at this
    refine .skip (c := 32) ?_ (by decide) ?_
    · rw [Nat.add_comm]; exact spanTxt_sp0 n s
    · rw [show 2 + n + 1 = n + 3 by omega]; exact this
  have h3 : Scan o (spanTxt n s) (spanTxt n s).length (spanTxt n s).length [] := by
    have := Scan.stop (o := o) (s := spanTxt n s) (spanTxt n s).length (Nat.le_refl _)
    rw [List.drop_length] at this
    exact this
  have hlast : n + 3 + s.length + 1 + n = (spanTxt n s).length := hl.symm
  have h2 : Scan o (spanTxt n s) 2 0 [.plain [97, 32], .code s] := by
    have := Scan.tok (o := o) (s := spanTxt n s) (i := 2) (e := 0) (j := n + 3 + s.length + 1 + n) (t := .code s) (by omega) (Nat.zero_le _) (by omega) (by omega)
      (.code n (n + 3 + s.length + 1) s (spanTxt_front n s) h.n1 (by have := h.n20; omega) hto (spanTxt_mid n s) h10 (by
        obtain ⟨c, hc, hb⟩ := h.ink
        refine ⟨c, hc, ?_⟩
        unfold blankB at hb
        simp only [Bool.or_eq_false_iff, beq_eq_false_iff_ne] at hb
        exact ⟨hb.1.1.1, hb.1.1.2⟩)) (by rw [hlast]; exact h3)
    have e : ((spanTxt n s).take 2).drop 0 = [97, 32] := by rw [spanTxt_cons]; rfl
    rw [e] at this
    exact this
  refine scan_still 2 0 (Nat.le_refl _) (by omega) (fun j hj => ?_) h2
  rw [Nat.zero_add]
  have : j = 0 ∨ j = 1 := by omega
  rcases this with rfl | rfl
  · exact ⟨97, by rw [spanTxt_cons]; rfl, loud_still (by decide) (by decide)⟩
  · exact ⟨32, by rw [spanTxt_cons]; rfl, loud_still (by decide) (by decide)⟩

theorem span_runs (a b : List UInt8) : Runs (fun r => r.length = 1) [.plain a, .code b] := by
  intro st i h1 h2 h3
  have hi : i = 1 ∨ i = 2 := by
    simp at h2
    omega
  rcases hi with rfl | rfl
  · obtain rfl : st = 0 := by omega
    rfl
  · have : st = 0 ∨ st = 1 := by omega
    rcases this with rfl | rfl
    · have := h3 (.code b) (by simp)
      cases this
    · have := h3 (.code b) (by simp)
      cases this

theorem SpanOk.inl {s : List UInt8} {n : Nat} (h : SpanOk s n) (o : Opt) (ho : o.auto = false) : InlOf o (spanTxt n s) [.plain [97, 32], .code s] := by
  have hl := spanTxt_len n s
  have h1 := h.n20
  have h2 := h.len
  have hlast : (spanTxt n s).getLast? = some 96 := by
    have e : spanTxt n s = ([97, 32] ++ List.replicate n 96 ++ [32] ++ s ++ [32]) ++ List.replicate n 96 := by unfold spanTxt; simp
    obtain ⟨m, rfl⟩ : ∃ m, n = m + 1 := ⟨n - 1, by have := h.n1; omega⟩
    rw [e, List.replicate_succ' (n := m), ← List.append_assoc, List.getLast?_append]
    simp
  have ht : B.trimR (B.trimL (spanTxt n s)) = spanTxt n s := by
    rw [spanTxt_cons] at hlast ⊢
    exact trim_both (by decide) hlast (by decide)
  exact inl_of_scan merges_one ho (by omega) ht (by simp) (h.scan o) (span_runs _ _)

theorem SpanOk.prints {s : List UInt8} {n : Nat} (h : SpanOk s n) (G0 : Sl.HP) : PrintsP plainO.pcells G0 (B.bs (spanTxt n s)) (B.bs (spanHTML s)) := by
  have hel := html_esc_len s
  have h2 := h.len
  have hht : htmls [.plain [97, 32], .code s] = [97, 32] ++ (codeOpen ++ htmlPairs.esc s ++ codeEnd) := by
    unfold htmls
    simp only [List.flatMap_cons, List.flatMap_nil, List.append_nil]
    rfl
  have := para_prints plainO G0 (spanTxt n s) 97 _ [.plain [97, 32], .code s] rfl h.text (h.inl plainO rfl) (fun hc => by have := h.mem 0 hc; exact absurd this (by decide)) (by simp) (fun x hx => ?_) ?_
  · rw [hht] at this
    exact this
  · simp only [List.mem_cons, List.not_mem_nil, or_false] at hx
    rcases hx with rfl | rfl
    · show 2 ≤ _; omega
    · show s.length ≤ _; omega
  · rw [hht]
    unfold paraHTML codeOpen codeEnd
    simp; omega

end Go.Proofs.YtcmpcjffmccllaaGreatDoor

/- The law FnCodeSpan: its walk, and its contract over what its arguments read as. -/
namespace Go.Proofs.YtcmpcjffmccllaaGreatDoor
open Go.RowKit Sl

theorem bs_list (s : ByteArray) : B.bs s.data.toList = s := by cases s; rfl

theorem repeat_one (c : UInt8) (n : Nat) : Lib.repeatL [c] n = List.replicate n c := by
  induction n with
  | zero => rfl
  | succ n ih =>
    show [c] ++ Lib.repeatL [c] n = _
    rw [ih]; rfl

theorem repeat1_w (c : UInt8) (s : ByteArray) (hs : s = B.bs [c]) (n : Nat) (w : World) (hn : n ≤ 1000000) :
    Calls Tryz.prog 16 #[.string s, .int .i64 n] w fun e w' => e = .returned (.string (B.bs (List.replicate n c))) ∧ Below w.heap.size w w' := by
  subst hs
  have h := Sr.strings_Repeat (B.bs [c]) n w (by omega) (by rw [B.bs_size]; simp; omega)
  rw [B.bs_data, repeat_one] at h
  exact h

set_option maxRecDepth 100000 in
set_option maxHeartbeats 4000000 in
theorem FnCodeSpan_w (s : List UInt8) (n : Int) (W : World) (hs : s.length ≤ 9223372036854775807) :
    Calls Tryz.prog 4 #[.string (B.bs s), .int .i64 n] W fun e w' => e = .returned (.bool true) ∧ Below W.heap.size W w' := by
  have hz : (B.bs s).size = s.length := rfl
  by_cases hbig : 2147483647 < s.length
  · go_enter Tryz.func4, Tryz.ntmps4
    go_wp2
    go_ret
    exact ⟨rfl, Below.refl _ _⟩
  have hpr := Lib.hid (printable_w s 200 W (by decide) hs)
  cases hpb : (decide (s.length ≤ 200) && printB s)
  · go_enter Tryz.func4, Tryz.ntmps4
    go_wp2_with fail
    refine hpr.out.mono ?_
    rintro e w1 ⟨rfl, rfl⟩
    rw [hpb]
    go_wp2
    go_ret
    exact ⟨rfl, Below.refl _ _⟩
  rw [Bool.and_eq_true, decide_eq_true_eq] at hpb
  obtain ⟨hl, hpb⟩ := hpb
  have hpr2 := printable_w s 200 W (by decide) hs
  rw [hpb, show decide (s.length ≤ 200) = true from by simpa using hl] at hpr2
  have HP := Lib.hid hpr2
  clear hpr hpr2
  by_cases hn1 : n < 1
  · go_enter Tryz.func4, Tryz.ntmps4
    go_wp2_with fail
    refine HP.out.mono ?_
    rintro e w1 ⟨rfl, rfl⟩
    go_wp2
    go_ret
    exact ⟨rfl, Below.refl _ _⟩
  by_cases hn2 : 20 < n
  · go_enter Tryz.func4, Tryz.ntmps4
    go_wp2_with fail
    refine HP.out.mono ?_
    rintro e w1 ⟨rfl, rfl⟩
    go_wp2
    go_ret
    exact ⟨rfl, Below.refl _ _⟩
  obtain ⟨n, rfl⟩ := Int.eq_ofNat_of_zero_le (show 0 ≤ n by omega)
  have hn1' : 1 ≤ n := by omega
  have hn2' : n ≤ 20 := by omega
  have d1 : decide ((n : Int) < 1) = false := by simp; omega
  have d2 : decide ((20 : Int) < (n : Int)) = false := by simp; omega
  clear hn1 hn2
  have HR := Lib.hid (hasRun_w s n W (by omega) hn1' (by omega))
  have HSH := Lib.hid (shorn_w s W (by omega))
  have hprt := fun h => SpanOk.prints (s := s) (n := n) h (Sl.old W)
  have HPR := Lib.hid hprt
  have HOK := Lib.hid (fun h1 h2 => (⟨hn1', hn2', hl, printB_mem hpb, h1, h2⟩ : SpanOk s n))
  have HREP := Lib.hid (fun w => repeat1_w 96 ⟨#[96]⟩ rfl n w (by omega))
  have HE := Lib.hid (fun w => EscapeHTML_w s w (by omega))
  have hel := html_esc_len s
  have a1 : ∀ w, (Op.stringOp .add ⟨#[97, 32]⟩ (B.bs (List.replicate n 96))).run Tryz.prog w = .ok (.string (B.bs ([97, 32] ++ List.replicate n 96))) w := fun w => addB [97, 32] _ w (by simp; omega)
  have a2 : ∀ w, (Op.stringOp .add (B.bs ([97, 32] ++ List.replicate n 96)) ⟨#[32]⟩).run Tryz.prog w = .ok (.string (B.bs ([97, 32] ++ List.replicate n 96 ++ [32]))) w := fun w => addB _ [32] w (by simp; omega)
  have a3 : ∀ w, (Op.stringOp .add (B.bs ([97, 32] ++ List.replicate n 96 ++ [32])) (B.bs s)).run Tryz.prog w = .ok (.string (B.bs ([97, 32] ++ List.replicate n 96 ++ [32] ++ s))) w := fun w => addB _ _ w (by simp; omega)
  have a4 : ∀ w, (Op.stringOp .add (B.bs ([97, 32] ++ List.replicate n 96 ++ [32] ++ s)) ⟨#[32]⟩).run Tryz.prog w = .ok (.string (B.bs ([97, 32] ++ List.replicate n 96 ++ [32] ++ s ++ [32]))) w := fun w => addB _ [32] w (by simp; omega)
  have a5 : ∀ w, (Op.stringOp .add (B.bs ([97, 32] ++ List.replicate n 96 ++ [32] ++ s ++ [32])) (B.bs (List.replicate n 96))).run Tryz.prog w = .ok (.string (B.bs (spanTxt n s))) w := fun w => by
    have := addB ([97, 32] ++ List.replicate n 96 ++ [32] ++ s ++ [32]) (List.replicate n 96) w (by simp; omega)
    rw [show [97, 32] ++ List.replicate n 96 ++ [32] ++ s ++ [32] ++ List.replicate n 96 = spanTxt n s by simp [spanTxt]] at this
    exact this
  have c1 : ∀ w, (Op.stringOp .add ⟨#[60, 112, 62, 97, 32, 60, 99, 111, 100, 101, 62]⟩ (B.bs (htmlPairs.esc s))).run Tryz.prog w = .ok (.string (B.bs ([60, 112, 62, 97, 32, 60, 99, 111, 100, 101, 62] ++ htmlPairs.esc s))) w := fun w => addB [60, 112, 62, 97, 32, 60, 99, 111, 100, 101, 62] _ w (by simp; omega)
  have c2 : ∀ w, (Op.stringOp .add (B.bs ([60, 112, 62, 97, 32, 60, 99, 111, 100, 101, 62] ++ htmlPairs.esc s)) ⟨#[60, 47, 99, 111, 100, 101, 62, 60, 47, 112, 62, 10]⟩).run Tryz.prog w = .ok (.string (B.bs (spanHTML s))) w := fun w => by
    have := addB ([60, 112, 62, 97, 32, 60, 99, 111, 100, 101, 62] ++ htmlPairs.esc s) [60, 47, 99, 111, 100, 101, 62, 60, 47, 112, 62, 10] w (by simp; omega)
    rw [show [60, 112, 62, 97, 32, 60, 99, 111, 100, 101, 62] ++ htmlPairs.esc s ++ [60, 47, 99, 111, 100, 101, 62, 60, 47, 112, 62, 10] = spanHTML s by simp [spanHTML, paraHTML, codeOpen, codeEnd]] at this
    exact this
  generalize spanTxt n s = T1 at *
  generalize B.bs (spanHTML s) = out at *
  generalize [60, 112, 62, 97, 32, 60, 99, 111, 100, 101, 62] ++ htmlPairs.esc s = y1 at *
  generalize [97, 32] ++ List.replicate n 96 ++ [32] ++ s ++ [32] = x4 at *
  generalize [97, 32] ++ List.replicate n 96 ++ [32] ++ s = x3 at *
  generalize [97, 32] ++ List.replicate n (96 : UInt8) ++ [32] = x2 at *
  generalize [97, 32] ++ List.replicate n (96 : UInt8) = x1 at *
  generalize List.replicate n (96 : UInt8) = x0 at *
  clear hprt hel
  go_enter Tryz.func4, Tryz.ntmps4
  go_wp2_with fail
  refine HP.out.mono ?_
  rintro e w1 ⟨rfl, rfl⟩
  go_wp2_with fail
  refine HR.out.mono ?_
  rintro e w2 ⟨b, rfl, rfl, hb⟩
  cases b with
  | true =>
    go_wp2
    go_ret
    exact ⟨rfl, Below.refl _ _⟩
  | false =>
    have HB := Lib.hid (hb rfl)
    clear hb
    go_wp2_with fail
    refine HSH.out.mono ?_
    rintro e w3 ⟨r, rfl, rfl, hr⟩
    by_cases hre : r = []
    · subst hre
      have he : (B.bs ([] : List UInt8)).toList.isEmpty = true := by rw [Lib.toList_data]; rfl
      go_wp2
      go_ret
      exact ⟨rfl, Below.refl _ _⟩
    · have he : (B.bs r).toList.isEmpty = false := by
        rw [Lib.toList_data, B.bs_data]
        cases r with
        | nil => exact absurd rfl hre
        | cons => rfl
      have HPP := Lib.hid (HPR.out (HOK.out HB.out (hr hre)))
      clear hr hre HPR HOK HB
      go_wp2_with fail
      refine (HREP.out W).mono ?_
      rintro e w4 ⟨rfl, hb4⟩
      go_wp2_with fail
      refine (HTMLP_b plainO rfl _ _ w4 W hb4 HPP.out).mono ?_
      rintro e w5 ⟨rfl, hb5⟩
      go_wp2_with fail
      refine (HE.out w5).mono ?_
      rintro e w6 ⟨rfl, rfl⟩
      generalize B.bs (htmlPairs.esc s) = es at *
      go_wp2
      go_ret
      exact ⟨rfl, hb5⟩

end Go.Proofs.YtcmpcjffmccllaaGreatDoor

namespace Go.Proofs.YtcmpcjffmccllaaGreatDoor.fnCodeSpan
open Go.ChangeShapes Go.WideShapes Go.ChangeAt Go.RowKit

theorem spec_at {H : Type} {enc : TypeId × Value → H} {W : World} {args : Array Value} {ds : List (DataW H)} {p : List MemPlace}
    (h : DataW.TrodAll enc Tryz.prog W 0 (fun _ => true) true Tryz.f4.params.toList args.toList ds p) : Rows.fnCodeSpanSpec.fn H ds = { results := [.lit (.bool true)], args := ds } := by
  rw [Tryz.params4] at h
  obtain ⟨v0, vs0, d0, ds0, p0, q0, hargs, rfl, rfl, h0, r0⟩ := trodAll_cons h
  obtain ⟨v1, vs1, d1, ds1, p1, q1, hargs1, rfl, rfl, h1, r1⟩ := trodAll_cons r0
  obtain ⟨rfl, rfl, rfl⟩ := trodAll_nil r1
  rfl

set_option maxRecDepth 100000 in
theorem contract (H : Type) (enc : TypeId × Value → H) (W : World) (base : Nat) (args : Array Value) (ds gs : List (DataW H)) (before : List MemPlace)
    (hval : ∀ (j : Nat) t v, Tryz.f4.params[j]? = some t → args[j]? = some v → Value.okWide Tryz.prog W .any base t v)
    (hW : DataW.Whole enc Tryz.prog Tryz.f4.params.toList Rows.fnCodeSpanSpec.vars false W args.toList ds gs before) (_hL : laidMetH Tryz.prog Rows.fnCodeSpanRow.laid W) :
    Calls Tryz.prog 4 args W fun e W' => e = .returned (.bool true) ∧ Below W.heap.size W W' := by
  obtain ⟨p, q, hA0, hV, rfl, hfz, hnd⟩ := hW
  have hA : DataW.TrodAll enc Tryz.prog W 0 (fun _ => true) true Tryz.f4.params.toList args.toList ds p := hA0
  rw [Tryz.params4] at hA
  obtain ⟨v0, vs0, d0, ds0, p0, q0, hargs, rfl, rfl, ⟨n0, h0⟩, r0⟩ := trodAll_cons hA
  obtain ⟨v1, vs1, d1, ds1, p1, q1, hargs1, rfl, rfl, h1, r1⟩ := trodAll_cons r0
  obtain ⟨rfl, rfl, rfl⟩ := trodAll_nil r1
  obtain rfl : args = #[v0, v1] := by cases args; simp_all
  obtain ⟨s, rfl⟩ := okWide_string Tryz.underlying9 (hval 0 9 v0 rfl rfl)
  obtain ⟨s', e0, _, hsz⟩ := DataW.trod_string Tryz.underlying9 h0
  simp [Value.cells] at e0
  subst e0
  obtain ⟨y, rfl, rfl, rfl, wy⟩ := open_int Tryz.underlying3 (hval 1 3 v1 rfl rfl) h1
  have hmx : maxLen = 9223372036854775807 := rfl
  have h := FnCodeSpan_w s.data.toList y W (by rw [← B.size_data]; omega)
  rw [bs_list] at h
  exact h
end Go.Proofs.YtcmpcjffmccllaaGreatDoor.fnCodeSpan
