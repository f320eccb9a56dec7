/- The law FnIndented: its walk. -/
import Derived.Test.YtigcmibkgcmfcaaGreatDoorLi
import Derived.Test.YtigcmibkgcmfcaaGreatDoorN11
namespace Go.Proofs.YtigcmibkgcmfcaaGreatDoor
open Go.RowKit Sl

theorem strCells_snoc (l : List (List UInt8)) (s : List UInt8) : strCells (l ++ [s]) = strCells l ++ [.string (B.bs s)] := by unfold strCells; rw [List.map_append]; rfl

theorem bs_empty (s : List UInt8) : (B.bs s).toList.isEmpty = decide (s = []) := by
  rw [Lib.toList_data, B.bs_data]
  cases s <;> simp

set_option maxRecDepth 100000 in
set_option maxHeartbeats 2000000 in
theorem FnIndented_w (a : Option Addr) (n cap : Nat) (ss : List (List UInt8)) (W : World) (hn : ss.length = n) (hnm : n ≤ 9223372036854775807) (ht : Texts W a ss) (hm : ∀ s ∈ ss, s.length ≤ 9223372036854775807) :
    Calls Tryz.prog 4 #[.slice a n cap] W fun e w' => e = .returned (.bool true) ∧ Below W.heap.size W w' := by
  have hz2 := zzFits2_w a n cap ss W hn hnm ht hm
  have HZ2 := Lib.hid hz2
  clear hz2
  by_cases hn0 : n = 0
  · subst hn0
    go_enter Tryz.func4, Tryz.ntmps4
    go_wp2_with fail
    refine HZ2.out.mono ?_
    rintro e w' ⟨⟨b, rfl⟩, rfl⟩
    cases b
    all_goals
      go_wp2
      go_ret
      exact ⟨rfl, Below.refl _ _⟩
  by_cases hbig : 50 < n
  · go_enter Tryz.func4, Tryz.ntmps4
    go_wp2_with fail
    refine HZ2.out.mono ?_
    rintro e w' ⟨⟨b, rfl⟩, rfl⟩
    cases b
    all_goals
      go_wp2
      go_ret
      exact ⟨rfl, Below.refl _ _⟩
  obtain ⟨i0, hi, hz0, hz1, hz2⟩ := info_parts info_string
  have hs0 : Sat W (arr 9 1 (⟨none, 0, 0⟩ : SV).v 0 (strCells ((ss.take 0).map indL)) * Sl.old W) := by
    rw [show arr 9 1 (⟨none, 0, 0⟩ : SV).v 0 (strCells ((ss.take 0).map indL)) = emp from arr_nil _ _, emp_star]
    exact Sat.old W
  have hnd : decide ((50 : Int) < (n : Int)) = false := by simp; omega
  have hne0 : ((n : Int) == 0) = false := by simp; omega
  go_enter Tryz.func4, Tryz.ntmps4
  go_wp2_with fail
  refine HZ2.out.mono ?_
  rintro e w' ⟨⟨b, rfl⟩, rfl⟩
  cases b
  · go_wp2
    go_ret
    exact ⟨rfl, Below.refl _ _⟩
  go_wp2_with fail
  go_loopw [3, 19] (fun v i wr => ∃ (k : Nat) (t : SV), k ≤ n ∧ i = .int .i64 k ∧ v = .slice t.a t.len t.cap ∧ t.len = k ∧ Sat wr (arr 9 1 t.v k (strCells ((ss.take k).map indL)) * Sl.old W) ∧ ∀ (j : Nat) (_ : j < k) (h : j < ss.length), asciiB false ss[j] = true ∧ (ss[j]).length ≤ 200) (fun _ i _ => n - (intOf i).toNat)
  case atStart => exact ⟨0, ⟨none, 0, 0⟩, Nat.zero_le _, rfl, rfl, rfl, hs0, fun j hj => by omega⟩
  case round =>
    obtain ⟨k, t, hk, rfl, rfl, htk, hs, hchk⟩ := hrel
    have hT := ht.below hs.below
    by_cases hlt : k < n
    · obtain ⟨b, off, rfl, hcell⟩ := hT k (by omega)
      have hlk : k < ss.length := by omega
      have hle2 := hm ss[k] (List.getElem_mem hlk)
      have htake : (ss.take (k + 1)).map indL = (ss.take k).map indL ++ [indL ss[k]] := by rw [List.take_succ_eq_append_getElem hlk, List.map_append]; rfl
      generalize hsk : ss[k] = s at hcell hle2 htake
      have hzs : (B.bs s).size = s.length := rfl
      have HCHK := Lib.hid hchk
      have HSK := Lib.hid hsk
      have HS := Lib.hid hs
      have HTA := Lib.hid htake
      clear hchk hsk hs htake hT hs0 ht
      go_wp2_with fail
      refine (ascii_w s false wr hle2).mono ?_
      rintro e w' ⟨rfl, rfl⟩
      cases has : asciiB false s
      · go_wp2
        go_ret
        exact ⟨rfl, HS.out.below⟩
      by_cases hl200 : 200 < s.length
      · go_wp2
        go_ret
        exact ⟨rfl, HS.out.below⟩
      have hd200 : decide ((200 : Int) < (s.length : Int)) = false := by simp; omega
      have he := bs_empty s
      have hadd : (Op.stringOp .add ⟨#[32, 32, 32, 32]⟩ (B.bs s)).run Tryz.prog wr = .ok (.string (B.bs (List.replicate 4 32 ++ s))) wr := by
        have := run_string_add_sum (P := Tryz.prog) wr (B.bs (List.replicate 4 32)) (B.bs s) (by rw [B.bs_size, B.bs_size]; simp; omega)
        rw [B.append] at this
        exact this
      have hsB := ((HS.out.new [.string (B.bs (indL s))] 9 rfl).cast (show _ = arr 9 1 t.v k (strCells ((ss.take k).map indL)) * (row wr.heap.size 9 [.string (B.bs (indL s))] * Sl.old W) from by ac_rfl))
      have fin : ∀ (g c : Nat) (w1 : World), Sat w1 (arr 9 1 (.slice (some ⟨g, 0, none⟩) (k + 1) c) (k + 1) (strCells ((ss.take k).map indL) ++ [.string (B.bs (indL s))]) * (row wr.heap.size 9 [.string (B.bs (indL s))] * Sl.old W)) →
          ∃ (k' : Nat) (t' : SV), k' ≤ n ∧ Value.int .i64 (k + 1) = .int .i64 k' ∧ Value.slice (some ⟨g, 0, none⟩) (k + 1) c = .slice t'.a t'.len t'.cap ∧ t'.len = k' ∧ Sat w1 (arr 9 1 t'.v k' (strCells ((ss.take k').map indL)) * Sl.old W) ∧ ∀ (j : Nat) (_ : j < k') (h : j < ss.length), asciiB false ss[j] = true ∧ (ss[j]).length ≤ 200 := by
        intro g c w1 h1
        refine ⟨k + 1, ⟨some ⟨g, 0, none⟩, k + 1, c⟩, by omega, rfl, rfl, rfl, ?_, fun j hj h => ?_⟩
        · rw [HTA.out, strCells_snoc]
          exact h1.drop2
        · by_cases hjk : j = k
          · subst hjk; rw [HSK.out]; exact ⟨has, by omega⟩
          · exact HCHK.out j (by omega) h
      generalize hu : indL s = u at fin hsB
      generalize strCells ((ss.take k).map indL) = cs at fin hsB
      have FIN := Lib.hid fin
      have HB := Lib.hid hsB
      clear fin hsB
      by_cases hse : s = []
      · have hind : u = [] := by rw [← hu]; exact if_pos hse
        subst hse
        subst hind
        clear hadd hu
        go_wp2_with (at_builtin; refine wpList_append_sl (F := row wr.heap.size 9 [.string (B.bs [])] * Sl.old W) rfl (.tmp 35) (.tmp 37) 29 rfl 9 i0 (.string ⟨#[]⟩) 1 16 Tryz.underlying29 hi hz0 hz1 hz2 rfl t.v k cs ?cv HB.out ⟨wr.heap.size, 0, none⟩ 1 1 [.string (B.bs [])] rfl rfl ?c1 ?c2 ?c3 ?c4 (by decide) ?_)
        case cv => first | rfl | (unfold SV.v; rw [htk]; rfl)
        case c1 => exact cells_new _ [_] _
        case c2 => intro v hv; simp at hv; subst hv; rfl
        case c3 => unfold maxLen; omega
        case c4 => omega
        intro g c w1 hs1 hz9
        have f1 := FIN.out g c w1 hs1
        have F1 := Lib.hid f1
        clear f1 hs1
        go_wp2
        go_roundw
        case rel => exact F1.out
        case measure => simp [intOf]; omega
      · have hind : List.replicate 4 32 ++ s = u := by rw [← hu]; exact (if_neg hse).symm
        rw [hind] at hadd
        rw [decide_eq_false hse] at he
        clear hind hu
        go_wp2_with (at_builtin; refine wpList_append_sl (F := row wr.heap.size 9 [.string (B.bs u)] * Sl.old W) rfl (.tmp 35) (.tmp 37) 29 rfl 9 i0 (.string ⟨#[]⟩) 1 16 Tryz.underlying29 hi hz0 hz1 hz2 rfl t.v k cs ?cv HB.out ⟨wr.heap.size, 0, none⟩ 1 1 [.string (B.bs u)] rfl rfl ?c1 ?c2 ?c3 ?c4 (by decide) ?_)
        case cv => first | rfl | (unfold SV.v; rw [htk]; rfl)
        case c1 => exact cells_new _ [_] _
        case c2 => intro v hv; simp at hv; subst hv; rfl
        case c3 => unfold maxLen; omega
        case c4 => omega
        intro g c w1 hs1 hz9
        have f1 := FIN.out g c w1 hs1
        have F1 := Lib.hid f1
        clear f1 hs1
        go_wp2
        go_roundw
        case rel => exact F1.out
        case measure => simp [intOf]; omega
    · obtain rfl : k = n := by omega
      obtain ⟨b, off, ha0, c0⟩ := hT 0 (by omega)
      obtain ⟨b', off', ha1, c1⟩ := hT (k - 1) (by omega)
      have hab : b' = b ∧ off' = off := by
        rw [ha0] at ha1
        have := Option.some.inj ha1
        injection this with e1 e2
        exact ⟨e1.symm, e2.symm⟩
      obtain ⟨rfl, rfl⟩ := hab
      subst ha0
      clear ha1
      have hl0 := hm ss[0] (List.getElem_mem (by omega))
      have hl1 := hm ss[k - 1] (List.getElem_mem (by omega))
      have hsub : (k : Int) - 1 = ((k - 1 : Nat) : Int) := by omega
      have hall : ∀ s ∈ ss, asciiB false s = true ∧ s.length ≤ 200 := by
        intro s hs
        obtain ⟨j, hj, rfl⟩ := List.getElem_of_mem hs
        exact hchk j (by omega) hj
      have hhead : ss.head? = some (ss[0]'(by omega)) := by
        rw [List.head?_eq_getElem?]; simp
      have hlast : ss.getLast? = some (ss[k - 1]'(by omega)) := by
        rw [List.getLast?_eq_getElem?]; simp only [hn]; simp [show k - 1 < ss.length by omega]
      have hprint := indText_prints ss (by omega) (by rintro rfl; simp at hn; omega) hall
      rw [List.take_of_length_le (by omega)] at hs
      have c00 : wr.cell? ⟨b', off', none⟩ = some (.string (B.bs (ss[0]'(by omega)))) := c0
      clear c0
      generalize hs0 : ss[0]'(by omega) = s0 at c00 hl0 hhead
      generalize hs1 : ss[k - 1]'(by omega) = s1 at c1 hl1 hlast
      have HPR := Lib.hid hprint
      have HHD := Lib.hid hhead
      have HLS := Lib.hid hlast
      have HAL := Lib.hid hall
      have HS := Lib.hid hs
      have HT2 := Lib.hid hT
      clear hprint hhead hlast hall hs hT hchk ht
      go_wp2_with fail
      refine (inked_w s0 wr hl0).mono ?_
      rintro e w' ⟨rfl, rfl⟩
      cases hi0 : inkedB s0
      · go_wp2
        go_ret
        exact ⟨rfl, HS.out.below⟩
      go_wp2_with fail
      refine (inked_w s1 wr hl1).mono ?_
      rintro e w' ⟨rfl, rfl⟩
      cases hi1 : inkedB s1
      · go_wp2
        go_ret
        exact ⟨rfl, HS.out.below⟩
      have hps := HPR.out ⟨s0, HHD.out, hi0⟩ ⟨s1, HLS.out, hi1⟩
      have HPS := Lib.hid hps
      have hTx : ∀ w', Below wr.heap.size wr w' → Texts w' t.a (ss.map indL) := by
        intro w' hb' i hi2
        rcases HS.out.arr_cases with ⟨_, h0, _⟩ | ⟨g, cap', junk, hv, _, _, _, _, hr⟩
        · omega
        · have hta : t.a = some ⟨g, 0, none⟩ := by
            unfold SV.v at hv
            injection hv
          refine ⟨g, 0, hta, ?_⟩
          rw [Nat.zero_add]
          refine (hb'.cell (p := ⟨g, i, none⟩) hr.row_lt).trans (hr.cell i ?_)
          rw [List.getElem?_append_left (by simpa [strCells] using hi2)]
          unfold strCells
          rw [List.getElem?_map, List.getElem?_eq_getElem hi2]; rfl
      have HTX := Lib.hid hTx
      clear hps hTx c00 c1
      go_wp2_with fail
      refine (plain_w wr).mono ?_
      rintro e w1 ⟨rfl, hb1⟩
      go_wp2_with fail
      refine (joined_w t.a k t.cap (ss.map indL) w1 (by rw [List.length_map]; exact hn) (by omega) (fun x hx => ?_) (HTX.out w1 hb1)).mono ?_
      · obtain ⟨s, hs, rfl⟩ := List.mem_map.1 hx
        have h1 := indL_len s
        have h2 := (HAL.out s hs).2
        omega
      rintro e w' ⟨rfl, rfl⟩
      go_wp2_with fail
      refine (HTML_b plainO rfl _ _ HPS.out w1).mono ?_
      rintro e w2 ⟨rfl, hb2⟩
      have hb3 := hb1.trans (hb2.mono hb1.size)
      go_wp2_with fail
      refine (joined_w _ k cap ss w2 hn (by omega) (fun x hx => by have := (HAL.out x hx).2; omega) (HT2.out.below hb3)).mono ?_
      rintro e w' ⟨rfl, rfl⟩
      have hjl : (joinNL ss).length ≤ 20000 := by
        have h2 := joinNL_len ss
        have h3 : totalLen ss ≤ 200 * ss.length := totalLen_le fun s hs => (HAL.out s hs).2
        omega
      go_wp2_with fail
      refine (EscapeHTML_w (joinNL ss) w2 (by omega)).mono ?_
      rintro e w' ⟨rfl, rfl⟩
      have hel := html_esc_len (joinNL ss)
      have h1 : (Op.stringOp .add ⟨#[60, 112, 114, 101, 62, 60, 99, 111, 100, 101, 62]⟩ (B.bs (htmlPairs.esc (joinNL ss)))).run Tryz.prog w2 = .ok (.string (B.bs ([60, 112, 114, 101, 62, 60, 99, 111, 100, 101, 62] ++ htmlPairs.esc (joinNL ss)))) w2 := by
        have := run_string_add_sum (P := Tryz.prog) w2 (B.bs [60, 112, 114, 101, 62, 60, 99, 111, 100, 101, 62]) (B.bs (htmlPairs.esc (joinNL ss))) (by rw [B.bs_size, B.bs_size]; simp; omega)
        rw [B.append] at this
        exact this
      have h2 : (Op.stringOp .add (B.bs ([60, 112, 114, 101, 62, 60, 99, 111, 100, 101, 62] ++ htmlPairs.esc (joinNL ss))) ⟨#[10, 60, 47, 99, 111, 100, 101, 62, 60, 47, 112, 114, 101, 62, 10]⟩).run Tryz.prog w2 = .ok (.string (B.bs (indWant ss))) w2 := by
        have := run_string_add_sum (P := Tryz.prog) w2 (B.bs ([60, 112, 114, 101, 62, 60, 99, 111, 100, 101, 62] ++ htmlPairs.esc (joinNL ss))) (B.bs [10, 60, 47, 99, 111, 100, 101, 62, 60, 47, 112, 114, 101, 62, 10]) (by rw [B.bs_size, B.bs_size]; simp; omega)
        rw [B.append] at this
        exact this
      generalize [60, 112, 114, 101, 62, 60, 99, 111, 100, 101, 62] ++ htmlPairs.esc (joinNL ss) = y at h1 h2
      generalize indWant ss = z at h2 ⊢
      clear hel
      go_wp2
      go_ret
      exact ⟨rfl, HS.out.below.trans (hb3.mono HS.out.below.size)⟩

end Go.Proofs.YtigcmibkgcmfcaaGreatDoor
