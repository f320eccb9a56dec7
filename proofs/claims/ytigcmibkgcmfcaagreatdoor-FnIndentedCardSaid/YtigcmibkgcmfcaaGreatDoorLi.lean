/- The law FnIndented: its walk. -/
import Derived.Test.YtigcmibkgcmfcaaGreatDoorTl
import Derived.Test.YtigcmibkgcmfcaaGreatDoorE2
import Derived.Test.YtigcmibkgcmfcaaGreatDoorTop
import Derived.Deep.OwnRows
namespace Go.Proofs.YtigcmibkgcmfcaaGreatDoor
open Go.RowKit Sl

theorem joinNL_snoc : ∀ (l : List (List UInt8)) (a : List UInt8), joinNL (l ++ [a]) = if l = [] then a else joinNL l ++ 10 :: a
  | [], _ => rfl
  | [b], a => rfl
  | b :: c :: t, a => by
    show b ++ 10 :: joinNL ((c :: t) ++ [a]) = _
    rw [joinNL_snoc (c :: t) a, if_neg (by simp), if_neg (by simp)]
    show _ = (b ++ 10 :: joinNL (c :: t)) ++ 10 :: a
    simp

/-- Where the texts of a slice lie. -/
def Texts (w : World) (a : Option Addr) (ss : List (List UInt8)) : Prop := ∀ (i : Nat) (h : i < ss.length), ∃ b off, a = some ⟨b, off, none⟩ ∧ w.cell? ⟨b, off + i, none⟩ = some (.string (B.bs ss[i]))

def totalLen (ss : List (List UInt8)) : Nat := (ss.map List.length).sum

theorem joinNL_len (ss : List (List UInt8)) : (joinNL ss).length ≤ totalLen ss + ss.length := by
  match ss with
  | [] => exact Nat.zero_le _
  | [a] => simp [joinNL, totalLen]
  | a :: b :: t =>
    have := joinNL_len (b :: t)
    show (a ++ 10 :: joinNL (b :: t)).length ≤ _
    rw [List.length_append, List.length_cons]
    simp only [totalLen, List.map_cons, List.sum_cons, List.length_cons] at this ⊢
    omega

theorem totalLen_le {ss : List (List UInt8)} {m : Nat} (h : ∀ s ∈ ss, s.length ≤ m) : totalLen ss ≤ m * ss.length := by
  induction ss with
  | nil => exact Nat.zero_le _
  | cons a t ih =>
    have h1 := h a (by simp)
    have h2 := ih fun s hs => h s (by simp [hs])
    simp only [totalLen, List.map_cons, List.sum_cons, List.length_cons] at h2 ⊢
    rw [Nat.mul_succ]
    omega

set_option maxRecDepth 100000 in
set_option maxHeartbeats 1000000 in
theorem joined_w (a : Option Addr) (n cap : Nat) (ss : List (List UInt8)) (w : World) (hn : ss.length = n) (hsz : n ≤ 1000000) (hm : ∀ s ∈ ss, s.length ≤ 1000000) (ht : Texts w a ss) :
    Calls Tryz.prog 15 #[.slice a n cap, .string ⟨#[10]⟩] w fun e w' => e = .returned (.string (B.bs (joinNL ss))) ∧ w = w' := by
  go_enter Tryz.func15, Tryz.ntmps15
  go_wp2
  go_loopw [5, 10] (fun o i wr => ∃ k : Nat, k ≤ n ∧ i = .int .i64 k ∧ o = .string (B.bs (joinNL (ss.take k))) ∧ w = wr) (fun _ i _ => n - (intOf i).toNat)
  case atStart => exact ⟨0, Nat.zero_le _, rfl, rfl, rfl⟩
  case round =>
    obtain ⟨k, hk, rfl, rfl, rfl⟩ := hrel
    by_cases hlt : k < n
    · obtain ⟨b, off, rfl, hcell⟩ := ht k (by omega)
      have hlk : k < ss.length := by omega
      have hj := joinNL_snoc (ss.take k) ss[k]
      rw [← List.take_succ_eq_append_getElem hlk] at hj
      have hle1 : (joinNL (ss.take k)).length ≤ 1000000 * 1000000 + 1000000 := by
        have h1 := joinNL_len (ss.take k)
        have h2 : totalLen (ss.take k) ≤ 1000000 * (ss.take k).length := totalLen_le fun s hs => hm s (List.mem_of_mem_take hs)
        rw [List.length_take, Nat.min_eq_left (by omega)] at h1 h2
        have h3 : 1000000 * k ≤ 1000000 * 1000000 := Nat.mul_le_mul_left _ (by omega)
        omega
      have hle2 := hm ss[k] (List.getElem_mem hlk)
      generalize ss[k] = s at hcell hj hle2
      have hadd : ∀ x y : List UInt8, x.length + y.length ≤ 9223372036854775807 → (Op.stringOp .add (B.bs x) (B.bs y)).run Tryz.prog w = .ok (.string (B.bs (x ++ y))) w := fun x y hx => by
        rw [run_string_add_sum (P := Tryz.prog) w _ _ (by rw [B.bs_size, B.bs_size]; omega), B.append]
      have HJ := Lib.hid hj
      clear hj
      by_cases h0 : k = 0
      · subst h0
        have ha : (Op.stringOp .add (B.bs []) (B.bs s)).run Tryz.prog w = .ok (.string (B.bs s)) w := hadd [] s (by simp; omega)
        rw [show joinNL (ss.take 0) = [] from rfl]
        have hj0 : joinNL (ss.take (0 + 1)) = s := by rw [HJ.out]; rfl
        have HJ0 := Lib.hid hj0
        have hcell0 : w.cell? ⟨b, off, none⟩ = some (.string (B.bs s)) := hcell
        clear hadd hj0 HJ hcell
        go_wp2
        go_roundw
        case rel => exact ⟨1, by omega, by go_num, by rw [show (1 : Nat) = 0 + 1 from rfl, HJ0.out], by first | trivial | rfl⟩
        case measure => simp [intOf]; omega
      · have hne : ss.take k ≠ [] := by
          intro e
          have := congrArg List.length e
          rw [List.length_take, Nat.min_eq_left (by omega)] at this
          exact h0 this
        have hj1 : joinNL (ss.take (k + 1)) = joinNL (ss.take k) ++ [10] ++ s := by rw [HJ.out, if_neg hne]; simp
        have ha : (Op.stringOp .add (B.bs (joinNL (ss.take k))) ⟨#[10]⟩).run Tryz.prog w = .ok (.string (B.bs (joinNL (ss.take k) ++ [10]))) w := hadd _ [10] (by simp; omega)
        have hb := hadd (joinNL (ss.take k) ++ [10]) s (by rw [List.length_append]; simp; omega)
        have HJ1 := Lib.hid hj1
        have hk0 : decide ((0 : Int) < (k : Int)) = true := by simp; omega
        clear hadd hj1 HJ
        go_wp2
        go_roundw
        case rel => exact ⟨k + 1, by omega, by go_num, by rw [HJ1.out]; simp, by first | trivial | rfl⟩
        case measure => simp [intOf]; omega
    · obtain rfl : k = n := by omega
      rw [List.take_of_length_le (by omega)]
      go_wp2
      go_ret
      first | exact ⟨rfl, rfl⟩ | simp

set_option maxRecDepth 100000 in
set_option maxHeartbeats 1000000 in
theorem zzFits2_w (a : Option Addr) (n cap : Nat) (ss : List (List UInt8)) (w : World) (hn : ss.length = n) (hnm : n ≤ 9223372036854775807) (ht : Texts w a ss) (hm : ∀ s ∈ ss, s.length ≤ 9223372036854775807) :
    Calls Tryz.prog 12 #[.slice a n cap] w fun e w' => (∃ b : Bool, e = .returned (.bool b)) ∧ w = w' := by
  by_cases hbig : 2147483647 < n
  · go_enter Tryz.func12, Tryz.ntmps12
    go_wp2
    go_ret
    exact ⟨⟨_, rfl⟩, rfl⟩
  · go_enter Tryz.func12, Tryz.ntmps12
    go_wp2
    go_loopw [10] (fun i wr => ∃ k : Nat, k ≤ n ∧ i = .int .i64 k ∧ w = wr) (fun i _ => n - (intOf i).toNat)
    case atStart => exact ⟨0, Nat.zero_le _, rfl, rfl⟩
    case round =>
      obtain ⟨k, hk, rfl, rfl⟩ := hrel
      by_cases hlt : k < n
      · obtain ⟨b, off, rfl, hcell⟩ := ht k (by omega)
        have hlk : k < ss.length := by omega
        have hle2 := hm ss[k] (List.getElem_mem hlk)
        generalize ss[k] = s at hcell hle2
        have hz : (B.bs s).size = s.length := rfl
        by_cases hs : 2147483647 < s.length
        · go_wp2
          go_ret
          exact ⟨⟨_, rfl⟩, rfl⟩
        · go_wp2
          go_roundw
          case rel => exact ⟨k + 1, by omega, by go_num, by first | trivial | rfl⟩
          case measure => simp [intOf]; omega
      · obtain rfl : k = n := by omega
        go_wp2
        go_ret
        exact ⟨⟨_, rfl⟩, rfl⟩

theorem Texts.below {W w : World} {a : Option Addr} {ss : List (List UInt8)} (h : Texts W a ss) (hb : Below W.heap.size W w) : Texts w a ss := fun i hi => by
  obtain ⟨b, off, ha, hc⟩ := h i hi
  exact ⟨b, off, ha, (hb.cell (p := ⟨b, off + i, none⟩) (World.block_lt_of_cell? W _ hc)).trans hc⟩

def indWant (ss : List (List UInt8)) : List UInt8 := [60, 112, 114, 101, 62, 60, 99, 111, 100, 101, 62] ++ htmlPairs.esc (joinNL ss) ++ [10, 60, 47, 99, 111, 100, 101, 62, 60, 47, 112, 114, 101, 62, 10]

theorem codeLines_join : ∀ (ss : List (List UInt8)), ss ≠ [] → codeLines ss = htmlPairs.esc (joinNL ss) ++ [10]
  | [], h => absurd rfl h
  | [a], _ => by simp [codeLines, joinNL]
  | a :: b :: t, _ => by
    have ih := codeLines_join (b :: t) (by simp)
    show htmlPairs.esc a ++ [10] ++ codeLines (b :: t) = htmlPairs.esc (a ++ 10 :: joinNL (b :: t)) ++ [10]
    rw [ih]
    unfold Pairs.esc
    rw [List.flatMap_append, List.flatMap_cons]
    rw [show htmlPairs.put 10 = [10] from by rw [html_put]; rfl]
    simp

theorem indWant_eq (ss : List (List UInt8)) (h : ss ≠ []) : codeHTML ss = indWant ss := by
  unfold codeHTML indWant
  rw [codeLines_join ss h]
  simp [codeHead, codeFoot]

theorem ascii_mem {s : List UInt8} (h : asciiB false s = true) : ∀ c ∈ s, 32 ≤ c ∧ c ≤ 126 := by
  intro c hc
  have := List.all_eq_true.1 h c hc
  simpa using this

/-- The text of the law prints the code. -/
theorem indText_prints (ss : List (List UInt8)) (hn : ss.length ≤ 50) (hne : ss ≠ []) (ha : ∀ s ∈ ss, asciiB false s = true ∧ s.length ≤ 200) (h0 : ∃ s, ss.head? = some s ∧ inkedB s = true) (h1 : ∃ s, ss.getLast? = some s ∧ inkedB s = true) :
    Prints (B.bs (joinNL (ss.map indL))) (B.bs (indWant ss)) := by
  have hink : ∀ s ∈ ss, inkedB s = true → ∃ c ∈ s, c ≠ 32 ∧ c ≠ 9 := by
    intro s hs hi
    obtain ⟨c, hc, h2⟩ := List.any_eq_true.1 hi
    have h3 := ascii_mem (ha s hs).1 c hc
    exact ⟨c, hc, by simpa using h2, by rintro rfl; exact absurd h3.1 (by decide)⟩
  have hmem : ∀ t ∈ ss.map indL, ∀ c ∈ t, 32 ≤ c ∧ c ≤ 126 := by
    intro t ht c hc
    obtain ⟨s, hs, rfl⟩ := List.mem_map.1 ht
    unfold indL at hc
    split at hc
    · cases hc
    · rcases List.mem_append.1 hc with hc | hc
      · rw [List.eq_of_mem_replicate hc]; decide
      · exact ascii_mem (ha s hs).1 c hc
  obtain ⟨s1, e1, i1⟩ := h1
  have hm1 : s1 ∈ ss := List.mem_of_getLast? e1
  have hlast : (ss.map indL).getLast? = some (indL s1) := by rw [List.getLast?_map, e1]; rfl
  have hlines : B.lines (joinNL (ss.map indL)) = nlLines (ss.map indL) := by
    refine lines_join _ (fun t ht => ⟨fun hc => ?_, fun hc => ?_⟩) ?_
    · exact absurd (hmem t ht 10 hc).1 (by decide)
    · exact absurd (hmem t ht 13 hc).1 (by decide)
    · rw [hlast]
      intro e
      have : indL s1 = [] := Option.some.inj e
      have h2 := indL_drop s1
      rw [this] at h2
      obtain ⟨c, hc, _⟩ := hink s1 hm1 i1
      rw [← h2] at hc; cases hc
  have hfst := nlLines_fst (ss.map indL)
  have htxt : (B.lines (joinNL (ss.map indL))).map (fun l => l.1.drop 4) = ss := by
    rw [hlines]
    have h3 : (nlLines (ss.map indL)).map (fun l => l.1.drop 4) = ((nlLines (ss.map indL)).map (·.1)).map (·.drop 4) := by rw [List.map_map]; rfl
    rw [h3, hfst, List.map_map]
    conv => rhs; rw [← List.map_id ss]
    exact List.map_congr_left fun s _ => indL_drop s
  have hall : ∀ l ∈ nlLines (ss.map indL), ∃ s ∈ ss, l.1 = indL s := by
    intro l hl
    have : l.1 ∈ (nlLines (ss.map indL)).map (·.1) := List.mem_map.2 ⟨l, hl, rfl⟩
    rw [hfst] at this
    obtain ⟨s, hs, e⟩ := List.mem_map.1 this
    exact ⟨s, hs, e.symm⟩
  have hllen : (nlLines (ss.map indL)).length = ss.length := by
    have := congrArg List.length hfst
    simpa using this
  have hind : IndText (B.lines (joinNL (ss.map indL))) := by
    rw [hlines]
    refine ⟨?_, ?_, by omega, ?_⟩
    · obtain ⟨s0, e0, i0⟩ := h0
      cases hss : ss with
      | nil => exact absurd hss hne
      | cons a t =>
        rw [hss] at e0
        obtain rfl : a = s0 := by simpa using e0
        have hma : a ∈ ss := by rw [hss]; simp
        cases t with
        | nil => exact ⟨a, 0, [], rfl, hink a hma i0⟩
        | cons b t => exact ⟨a, 10, nlLines ((b :: t).map indL), rfl, hink a hma i0⟩
    · intro l hl
      obtain ⟨s, hs, e⟩ := hall l hl
      exact ⟨s, l.2, by rw [← e], by have := (ha s hs).2; omega⟩
    · have hnn : nlLines (ss.map indL) ≠ [] := by
        intro e
        rw [e] at hllen
        exact hne (List.eq_nil_of_length_eq_zero hllen.symm)
      refine ⟨s1, ((nlLines (ss.map indL)).getLast hnn).2, ?_, hink s1 hm1 i1⟩
      rw [List.getLast?_eq_some_getLast hnn]
      have h4 : ((nlLines (ss.map indL)).map (·.1)).getLast? = some (indL s1) := by rw [hfst]; exact hlast
      rw [List.getLast?_map, List.getLast?_eq_some_getLast hnn] at h4
      have h5 : ((nlLines (ss.map indL)).getLast hnn).1 = indL s1 := by simpa using h4
      rw [← h5]
  have hlen1 : (joinNL (ss.map indL)).length ≤ 20000 := by
    have h2 := joinNL_len (ss.map indL)
    have h3 : totalLen (ss.map indL) ≤ 204 * (ss.map indL).length := totalLen_le fun t ht => by
      obtain ⟨s, hs, rfl⟩ := List.mem_map.1 ht
      have := indL_len s
      have := (ha s hs).2
      omega
    rw [List.length_map] at h2 h3
    omega
  have hlen2 : (joinNL ss).length ≤ 20000 := by
    have h2 := joinNL_len ss
    have h3 : totalLen ss ≤ 200 * ss.length := totalLen_le fun s hs => (ha s hs).2
    omega
  have hnul : (0 : UInt8) ∉ joinNL (ss.map indL) := by
    intro hc
    rcases joinNL_mem hc with h | ⟨t, ht, hc⟩
    · exact absurd h (by decide)
    · exact absurd (hmem t ht 0 hc).1 (by decide)
  rw [← indWant_eq ss hne]
  refine ind_prints (joinNL (ss.map indL)) ss hind htxt (by omega) hnul ?_
  rw [indWant_eq ss hne]
  have := html_esc_len (joinNL ss)
  unfold indWant
  simp only [List.length_append]
  simp
  omega

end Go.Proofs.YtigcmibkgcmfcaaGreatDoor
