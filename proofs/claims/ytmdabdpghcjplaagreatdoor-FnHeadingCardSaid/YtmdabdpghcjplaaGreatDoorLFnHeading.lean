/- slashed. -/
import Derived.Test.YtmdabdpghcjplaaGreatDoorI2
import Derived.Test.YtmdabdpghcjplaaGreatDoorIy
import Derived.Test.YtmdabdpghcjplaaGreatDoorH6
import Derived.Test.YtmdabdpghcjplaaGreatDoorTl
import Derived.Test.YtmdabdpghcjplaaGreatDoorEn
namespace Go.Proofs.YtmdabdpghcjplaaGreatDoor
open Go.RowKit Sl

theorem slashed_take {s : List UInt8} {k : Nat} {c : UInt8} (hk : s[k]? = some c) : slashed (s.take (k + 1)) = slashed (s.take k) ++ (if isP c then [92, c] else [c]) := by
  rw [List.take_add_one, hk, slashed_append]
  show _ ++ slashed [c] = _
  rw [slashed_one]

set_option maxRecDepth 100000 in
set_option maxHeartbeats 2000000 in
theorem slashed_w (s : List UInt8) (w : World) (F : HP) (hl : s.length ≤ 1000000000) (hs : Sat w F) :
    Calls Tryz.prog 22 #[.string (B.bs s)] w fun e w' => e = .returned (.string (B.bs (slashed s))) ∧ Sat w' F := by
  obtain ⟨i0, hi, hz0, hz1, hz2⟩ := info_parts info_byte
  have hz : (B.bs s).size = s.length := rfl
  have hs0 : Sat (w.alloc (.cells #[] 5)) (arr 5 1 (.slice (some ⟨w.heap.size, 0, none⟩) 0 0) 0 ((slashed (s.take 0)).map fun c => .int .u8 c.toNat) * F) := by
    refine arr_mk (junk := []) rfl (Nat.zero_le _) (by decide) rfl ?_
    exact hs.new (d := w.heap.size) [] 5 rfl
  go_enter Tryz.func22, Tryz.ntmps22
  go_wp2_with fail
  go_loopw [3, 4] (fun v i wr => ∃ (k g cp : Nat), k ≤ s.length ∧ i = .int .i64 (k : Int) ∧ v = .slice (some ⟨g, 0, none⟩) (slashed (s.take k)).length cp ∧ Sat wr (arr 5 1 v (slashed (s.take k)).length ((slashed (s.take k)).map fun c => .int .u8 c.toNat) * F)) (fun _ i _ => s.length - (intOf i).toNat)
  case atStart => exact ⟨0, _, _, Nat.zero_le _, rfl, rfl, hs0⟩
  case round =>
    obtain ⟨k, g, cp, hk, rfl, rfl, h⟩ := hrel
    by_cases hlt : k < s.length
    · obtain ⟨c, hc⟩ : ∃ c, s[k]? = some c := ⟨_, List.getElem?_eq_getElem hlt⟩
      have hat : ∀ h, (B.bs s)[k]'h = c := fun _ => by
        have := List.getElem?_eq_getElem hlt
        rw [hc] at this
        exact (Option.some.inj this).symm
      have hsu := slashed_take hc
      have hlen := (slashed_len (s.take k)).2
      rw [List.length_take, Nat.min_eq_left hk] at hlen
      generalize hA : slashed (s.take k) = A at h hsu hlen
      clear hA hs0 hs
      cases hp : isP c
      · rw [hp] at hsu
        simp only [Bool.false_eq_true, if_false] at hsu
        have HSU := Lib.hid hsu
        have HC := Lib.hid hc
        clear hsu hc
        go_wp2_with fail
        refine (IsPunct_w c wr).mono ?_
        rintro e w1 ⟨rfl, rfl⟩
        rw [hp]
        go_wp2_with (at_builtin; refine wpList_append_sl (F := row wr.heap.size 5 [.int .u8 c.toNat] * F) rfl (.tmp 19) (.tmp 23) 56 rfl 5 i0 (.int .u8 0) 1 1 Tryz.underlying56 hi hz0 hz1 hz2 rfl (.slice (some ⟨g, 0, none⟩) A.length cp) A.length (A.map fun c => .int .u8 c.toNat) rfl ?c0 ⟨wr.heap.size, 0, none⟩ 1 1 [.int .u8 c.toNat] rfl rfl ?c1 ?c2 ?c3 ?c4 (by decide) ?_)
        case c0 => exact (h.new (d := wr.heap.size) [.int .u8 c.toNat] 5 rfl).swap
        case c1 => exact cells_new _ [_] _
        case c2 => intro u hu; simp only [List.mem_singleton] at hu; subst hu; rfl
        case c3 => unfold maxLen; omega
        case c4 => omega
        intro g2 c2 w2 hs2 _
        have H2 := Lib.hid hs2
        clear hs2 h
        go_wp2
        go_roundw
        case rel =>
          refine ⟨k + 1, g2, c2, by omega, rfl, ?_, ?_⟩
          · rw [HSU.out, List.length_append]; rfl
          · rw [HSU.out, List.length_append, List.map_append]
            exact H2.out.drop2
        case measure => simp [intOf]; omega
      · rw [hp] at hsu
        simp only [if_true] at hsu
        have HSU := Lib.hid hsu
        have HC := Lib.hid hc
        clear hsu hc
        go_wp2_with fail
        refine (IsPunct_w c wr).mono ?_
        rintro e w1 ⟨rfl, rfl⟩
        rw [hp]
        go_wp2_with (at_builtin; refine wpList_append_sl (F := row wr.heap.size 5 [.int .u8 92] * F) rfl (.tmp 16) (.tmp 17) 56 rfl 5 i0 (.int .u8 0) 1 1 Tryz.underlying56 hi hz0 hz1 hz2 rfl (.slice (some ⟨g, 0, none⟩) A.length cp) A.length (A.map fun c => .int .u8 c.toNat) rfl ?c0 ⟨wr.heap.size, 0, none⟩ 1 1 [.int .u8 92] rfl rfl ?c1 ?c2 ?c3 ?c4 (by decide) ?_)
        case c0 => exact (h.new (d := wr.heap.size) [.int .u8 92] 5 rfl).swap
        case c1 => exact cells_new _ [_] _
        case c2 => intro u hu; simp only [List.mem_singleton] at hu; subst hu; rfl
        case c3 => unfold maxLen; omega
        case c4 => omega
        intro g2 c2 w2 hs2 _
        have hs3 : Sat w2 (arr 5 1 (.slice (some ⟨g2, 0, none⟩) (A.length + 1) c2) (A.length + 1) ((A ++ [92]).map fun c : UInt8 => .int .u8 c.toNat) * F) := by
          rw [List.map_append]
          exact hs2.drop2
        clear hs2 h
        go_wp2_with (at_builtin; refine wpList_append_sl (F := row w2.heap.size 5 [.int .u8 c.toNat] * F) rfl (.tmp 19) (.tmp 23) 56 rfl 5 i0 (.int .u8 0) 1 1 Tryz.underlying56 hi hz0 hz1 hz2 rfl (.slice (some ⟨g2, 0, none⟩) (A.length + 1) c2) (A.length + 1) ((A ++ [92]).map fun c : UInt8 => .int .u8 c.toNat) rfl ?d0 ⟨w2.heap.size, 0, none⟩ 1 1 [.int .u8 c.toNat] rfl rfl ?d1 ?d2 ?d3 ?d4 (by decide) ?_)
        case d0 => exact (hs3.new (d := w2.heap.size) [.int .u8 c.toNat] 5 rfl).swap
        case d1 => exact cells_new _ [_] _
        case d2 => intro u hu; simp only [List.mem_singleton] at hu; subst hu; rfl
        case d3 => unfold maxLen; omega
        case d4 => omega
        intro g4 c4 w4 hs4 _
        have H4 := Lib.hid hs4
        clear hs4 hs3
        go_wp2
        go_roundw
        case rel =>
          refine ⟨k + 1, g4, c4, by omega, rfl, ?_, ?_⟩
          · rw [HSU.out]; simp
          · have := H4.out.drop2
            rw [HSU.out]
            simpa [List.append_assoc] using this
        case measure => simp [intOf]; omega
    · obtain rfl : k = s.length := by omega
      rw [List.take_length] at h
      obtain ⟨hb, hg⟩ := h.bytesR
      have hcv := conv_bytesR (c := cp) rfl hb
      generalize hA : slashed s = A at *
      rw [List.take_length, hA]
      generalize A.length = n at *
      have H := Lib.hid h
      clear h
      go_wp2
      go_ret
      exact ⟨by rw [hA]; rfl, H.out.drop1⟩

end Go.Proofs.YtmdabdpghcjplaaGreatDoor

/- The law FnHeading: its walk. -/
namespace Go.Proofs.YtmdabdpghcjplaaGreatDoor
open Go.RowKit Sl

theorem addB (x y : List UInt8) (w : World) (h : x.length + y.length ≤ 1000000000) : (Op.stringOp .add (B.bs x) (B.bs y)).run Tryz.prog w = .ok (.string (B.bs (x ++ y))) w := by
  have := run_string_add_sum (P := Tryz.prog) w (B.bs x) (B.bs y) (by rw [B.bs_size, B.bs_size]; omega)
  rw [B.append] at this
  exact this

theorem asciiB_mem : ∀ {s : List UInt8}, asciiB false s = true → ∀ c ∈ s, 32 ≤ c ∧ c ≤ 126
  | [], _, c, hc => by cases hc
  | a :: t, h, c, hc => by
    have h' : (((decide (32 ≤ a) && decide (a ≤ 126)) || (false && a == 10)) && asciiB false t) = true := h
    rw [Bool.false_and, Bool.or_false, Bool.and_eq_true, Bool.and_eq_true, decide_eq_true_eq, decide_eq_true_eq] at h'
    rcases List.mem_cons.1 hc with rfl | hc
    · exact h'.1
    · exact asciiB_mem h'.2 c hc

theorem full_of {s : List UInt8} (h1 : fullB s = true) (h2 : asciiB false s = true) : Full s := by
  unfold fullB at h1
  rw [Bool.and_eq_true, Bool.and_eq_true, decide_eq_true_eq, decide_eq_true_eq, decide_eq_true_eq] at h1
  exact ⟨h1.1.1, h1.1.2, h1.2, asciiB_mem h2⟩

theorem lev_cut : ∀ r : Nat, r < 6 → (⟨#[49, 50, 51, 52, 53, 54]⟩ : ByteArray).extract r (1 + r) = B.bs [levC (1 + r)] := by
  intro r hr
  have h : r = 0 ∨ r = 1 ∨ r = 2 ∨ r = 3 ∨ r = 4 ∨ r = 5 := by omega
  rcases h with rfl | rfl | rfl | rfl | rfl | rfl <;> rfl

set_option maxRecDepth 100000 in
set_option maxHeartbeats 4000000 in
theorem FnHeading_w (s : List UInt8) (level closing : Nat) (W : World) (hm : level < 256) (hst : closing < 256) (hs : s.length ≤ 9223372036854775807) :
    Calls Tryz.prog 6 #[.int .u8 level, .int .u8 closing, .string (B.bs s)] W fun e w' => e = .returned (.bool true) ∧ Below W.heap.size W w' := by
  have hz : (B.bs s).size = s.length := rfl
  by_cases hbig : 2147483647 < s.length
  · go_enter Tryz.func6, Tryz.ntmps6
    go_wp2
    all_goals
      go_ret
      exact ⟨rfl, Below.refl _ _⟩
  have hd1 : decide (2147483647 < s.length) = false := by simp; omega
  have hfull := full_w s
  have HFU := Lib.hid hfull
  have hasc := ascii_w s
  have HA := Lib.hid hasc
  clear hfull hasc
  cases hfb : fullB s
  · go_enter Tryz.func6, Tryz.ntmps6
    go_wp2_with fail
    refine (HFU.out W hs).mono ?_
    rintro e w1 ⟨rfl, rfl⟩
    rw [hfb]
    go_wp2
    go_ret
    exact ⟨rfl, Below.refl _ _⟩
  cases hab : asciiB false s
  · go_enter Tryz.func6, Tryz.ntmps6
    go_wp2_with fail
    refine (HFU.out W hs).mono ?_
    rintro e w1 ⟨rfl, rfl⟩
    rw [hfb]
    go_wp2_with fail
    refine (HA.out false W hs).mono ?_
    rintro e w1 ⟨rfl, rfl⟩
    rw [hab]
    go_wp2
    go_ret
    exact ⟨rfl, Below.refl _ _⟩
  by_cases hlen : 2000 < s.length
  · go_enter Tryz.func6, Tryz.ntmps6
    go_wp2_with fail
    refine (HFU.out W hs).mono ?_
    rintro e w1 ⟨rfl, rfl⟩
    rw [hfb]
    go_wp2_with fail
    refine (HA.out false W hs).mono ?_
    rintro e w1 ⟨rfl, rfl⟩
    rw [hab]
    go_wp2
    go_ret
    exact ⟨rfl, Below.refl _ _⟩
  have hl : s.length ≤ 2000 := by omega
  have hF := full_of hfb hab
  obtain ⟨r, hr1, hr2⟩ : ∃ r : Nat, (level : Int) % 6 = (r : Int) ∧ r = level % 6 := ⟨_, by omega, rfl⟩
  obtain ⟨j, hj1, hj2⟩ : ∃ j : Nat, (closing : Int) % 8 = (j : Int) ∧ j = closing % 8 := ⟨_, by omega, rfl⟩
  have hr : r < 6 := by omega
  have hj : j < 8 := by omega
  have hP := hF.prints hl (n := 1 + r) (m := j) (by omega) (by omega) (by omega) (Sl.old W)
  have HP := Lib.hid hP
  have hsl := (slashed_len s).2
  have hel := html_esc_len s
  have htl : (tailM j).length ≤ 9 := by unfold tailM; split <;> simp; omega
  have ht := fun n w hn => times1_w 35 ⟨#[35]⟩ rfl n w hn
  have HT := Lib.hid ht
  have hsw := slashed_w s
  have HS := Lib.hid hsw
  have hcut := lev_cut r hr
  have a1 : ∀ w, (Op.stringOp .add (B.bs (List.replicate (1 + r) 35)) ⟨#[32]⟩).run Tryz.prog w = .ok (.string (B.bs (List.replicate (1 + r) 35 ++ [32]))) w := fun w => addB _ [32] w (by simp; omega)
  have a2 : ∀ w, (Op.stringOp .add (B.bs (List.replicate (1 + r) 35 ++ [32])) (B.bs (slashed s))).run Tryz.prog w = .ok (.string (B.bs (List.replicate (1 + r) 35 ++ [32] ++ slashed s))) w := fun w => addB _ _ w (by simp; omega)
  have a3 : ∀ w, (Op.stringOp .add (B.bs (List.replicate (1 + r) 35 ++ [32] ++ slashed s)) (B.bs (tailM j))).run Tryz.prog w = .ok (.string (B.bs (headTxt (1 + r) j s))) w := fun w => by
    have := addB (List.replicate (1 + r) 35 ++ [32] ++ slashed s) (tailM j) w (by simp; omega)
    rw [show List.replicate (1 + r) 35 ++ [32] ++ slashed s ++ tailM j = headTxt (1 + r) j s by simp [headTxt]] at this
    exact this
  have c0 : ∀ w, (Op.stringOp .add ⟨#[104]⟩ (B.bs [levC (1 + r)])).run Tryz.prog w = .ok (.string (B.bs [104, levC (1 + r)])) w := fun w => addB [104] _ w (by simp)
  have c1 : ∀ w, (Op.stringOp .add ⟨#[60]⟩ (B.bs [104, levC (1 + r)])).run Tryz.prog w = .ok (.string (B.bs [60, 104, levC (1 + r)])) w := fun w => addB [60] _ w (by simp)
  have c2 : ∀ w, (Op.stringOp .add (B.bs [60, 104, levC (1 + r)]) ⟨#[62]⟩).run Tryz.prog w = .ok (.string (B.bs [60, 104, levC (1 + r), 62])) w := fun w => addB _ [62] w (by simp)
  have c3 : ∀ w, (Op.stringOp .add (B.bs [60, 104, levC (1 + r), 62]) (B.bs (htmlPairs.esc s))).run Tryz.prog w = .ok (.string (B.bs ([60, 104, levC (1 + r), 62] ++ htmlPairs.esc s))) w := fun w => addB _ _ w (by simp; omega)
  have c4 : ∀ w, (Op.stringOp .add (B.bs ([60, 104, levC (1 + r), 62] ++ htmlPairs.esc s)) ⟨#[60, 47]⟩).run Tryz.prog w = .ok (.string (B.bs ([60, 104, levC (1 + r), 62] ++ htmlPairs.esc s ++ [60, 47]))) w := fun w => addB _ [60, 47] w (by simp; omega)
  have c5 : ∀ w, (Op.stringOp .add (B.bs ([60, 104, levC (1 + r), 62] ++ htmlPairs.esc s ++ [60, 47])) (B.bs [104, levC (1 + r)])).run Tryz.prog w = .ok (.string (B.bs ([60, 104, levC (1 + r), 62] ++ htmlPairs.esc s ++ [60, 47, 104, levC (1 + r)]))) w := fun w => by
    have := addB ([60, 104, levC (1 + r), 62] ++ htmlPairs.esc s ++ [60, 47]) [104, levC (1 + r)] w (by simp; omega)
    rw [List.append_assoc _ [60, 47]] at this
    exact this
  have c6 : ∀ w, (Op.stringOp .add (B.bs ([60, 104, levC (1 + r), 62] ++ htmlPairs.esc s ++ [60, 47, 104, levC (1 + r)])) ⟨#[62, 10]⟩).run Tryz.prog w = .ok (.string (B.bs (headHTML (1 + r) (htmlPairs.esc s)))) w := fun w => by
    have := addB ([60, 104, levC (1 + r), 62] ++ htmlPairs.esc s ++ [60, 47, 104, levC (1 + r)]) [62, 10] w (by simp; omega)
    rw [List.append_assoc _ [60, 47, 104, levC (1 + r)]] at this
    exact this
  have e0 : ∀ w, (Op.stringOp .add ⟨#[32]⟩ (B.bs (List.replicate j 35))).run Tryz.prog w = .ok (.string (B.bs (32 :: List.replicate j 35))) w := fun w => addB [32] _ w (by simp; omega)
  have hE := fun w => EscapeHTML_w s w (by omega)
  have HE := Lib.hid hE
  have htail : tailM j = if j = 0 then [] else 32 :: List.replicate j 35 := rfl
  generalize headTxt (1 + r) j s = T1 at *
  generalize B.bs (headHTML (1 + r) (htmlPairs.esc s)) = out at *
  generalize [60, 104, levC (1 + r), 62] ++ htmlPairs.esc s ++ [60, 47, 104, levC (1 + r)] = y5 at *
  generalize [60, 104, levC (1 + r), 62] ++ htmlPairs.esc s ++ [60, 47] = y4 at *
  generalize [60, 104, levC (1 + r), 62] ++ htmlPairs.esc s = y3 at *
  generalize [60, 104, levC (1 + r), 62] = y2 at *
  generalize [60, 104, levC (1 + r)] = y1 at *
  generalize [104, levC (1 + r)] = y0 at *
  generalize List.replicate (1 + r) 35 ++ [32] ++ slashed s = x2 at *
  generalize List.replicate (1 + r) 35 ++ [32] = x1 at *
  generalize B.bs [levC (1 + r)] = lv at *
  clear hP hr2 hj2 ht hsw hE hF hsl hel
  have hd2 : decide (2000 < s.length) = false := by simp; omega
  by_cases hj0 : j = 0
  · subst hj0
    rw [if_pos rfl] at htail
    rw [htail] at a3
    have hnil : (⟨#[]⟩ : ByteArray) = B.bs [] := rfl
    go_enter Tryz.func6, Tryz.ntmps6
    go_wp2_with fail
    refine (HFU.out W hs).mono ?_
    rintro e w1 ⟨rfl, rfl⟩
    rw [hfb]
    go_wp2_with fail
    refine (HA.out false W hs).mono ?_
    rintro e w1 ⟨rfl, rfl⟩
    rw [hab]
    go_wp2_with fail
    refine (plain_w W).mono ?_
    rintro e w2 ⟨rfl, hb2⟩
    go_wp2_with fail
    refine (HT.out (1 + r) w2 (by omega)).mono ?_
    rintro e w3 ⟨rfl, rfl⟩
    generalize B.bs (List.replicate (1 + r) 35) = x0 at *
    have hs2 := (Sat.old W).ext hb2
    go_wp2_with fail
    refine (HS.out w2 (Sl.old W) (by omega) hs2).mono ?_
    rintro e w3 ⟨rfl, hs3⟩
    have hb3 : Below W.heap.size W w3 := Sat.below (P := Sl.emp) (hs3.cast (emp_star _).symm)
    clear hs2 hs3
    go_wp2_with fail
    refine (HTMLP_b plainO rfl _ _ w3 W hb3 HP.out).mono ?_
    rintro e w4 ⟨rfl, hb4⟩
    go_wp2_with fail
    refine (HE.out w4).mono ?_
    rintro e w5 ⟨rfl, rfl⟩
    generalize B.bs (htmlPairs.esc s) = es at *
    go_wp2
    go_ret
    exact ⟨rfl, hb4⟩
  · have hj1' : decide ((0 : Int) < (j : Int)) = true := by simp; omega
    rw [if_neg hj0] at htail
    rw [htail] at a3
    generalize B.bs (32 :: List.replicate j 35) = tl at *
    clear htl htail
    go_enter Tryz.func6, Tryz.ntmps6
    go_wp2_with fail
    refine (HFU.out W hs).mono ?_
    rintro e w1 ⟨rfl, rfl⟩
    rw [hfb]
    go_wp2_with fail
    refine (HA.out false W hs).mono ?_
    rintro e w1 ⟨rfl, rfl⟩
    rw [hab]
    go_wp2_with fail
    refine (HT.out j W (by omega)).mono ?_
    rintro e w3 ⟨rfl, rfl⟩
    generalize B.bs (List.replicate j 35) = jl at *
    go_wp2_with fail
    refine (plain_w W).mono ?_
    rintro e w2 ⟨rfl, hb2⟩
    go_wp2_with fail
    refine (HT.out (1 + r) w2 (by omega)).mono ?_
    rintro e w3 ⟨rfl, rfl⟩
    generalize B.bs (List.replicate (1 + r) 35) = x0 at *
    have hs2 := (Sat.old W).ext hb2
    go_wp2_with fail
    refine (HS.out w2 (Sl.old W) (by omega) hs2).mono ?_
    rintro e w3 ⟨rfl, hs3⟩
    have hb3 : Below W.heap.size W w3 := Sat.below (P := Sl.emp) (hs3.cast (emp_star _).symm)
    clear hs2 hs3
    go_wp2_with fail
    refine (HTMLP_b plainO rfl _ _ w3 W hb3 HP.out).mono ?_
    rintro e w4 ⟨rfl, hb4⟩
    go_wp2_with fail
    refine (HE.out w4).mono ?_
    rintro e w5 ⟨rfl, rfl⟩
    generalize B.bs (htmlPairs.esc s) = es at *
    go_wp2
    go_ret
    exact ⟨rfl, hb4⟩

end Go.Proofs.YtmdabdpghcjplaaGreatDoor

/- FnHeading: its contract over what its arguments read as. -/
namespace Go.Proofs.YtmdabdpghcjplaaGreatDoor.fnHeading
open Go.ChangeShapes Go.WideShapes Go.ChangeAt Go.RowKit

theorem spec_at {H : Type} {enc : TypeId × Value → H} {W : World} {args : Array Value} {ds : List (DataW H)} {p : List MemPlace}
    (h : DataW.TrodAll enc Tryz.prog W 0 (fun _ => true) true Tryz.f6.params.toList args.toList ds p) : Rows.fnHeadingSpec.fn H ds = { results := [.lit (.bool true)], args := ds } := by
  rw [Tryz.params6] at h
  obtain ⟨v0, vs0, d0, ds0, p0, q0, hargs, rfl, rfl, h0, r0⟩ := trodAll_cons h
  obtain ⟨v1, vs1, d1, ds1, p1, q1, hargs1, rfl, rfl, h1, r1⟩ := trodAll_cons r0
  obtain ⟨v2, vs2, d2, ds2, p2, q2, hargs2, rfl, rfl, h2, r2⟩ := trodAll_cons r1
  obtain ⟨rfl, rfl, rfl⟩ := trodAll_nil r2
  rfl

set_option maxRecDepth 100000 in
theorem contract (H : Type) (enc : TypeId × Value → H) (W : World) (base : Nat) (args : Array Value) (ds gs : List (DataW H)) (before : List MemPlace)
    (hval : ∀ (j : Nat) t v, Tryz.f6.params[j]? = some t → args[j]? = some v → Value.okWide Tryz.prog W .any base t v)
    (hW : DataW.Whole enc Tryz.prog Tryz.f6.params.toList Rows.fnHeadingSpec.vars false W args.toList ds gs before) :
    Calls Tryz.prog 6 args W fun e W' => e = .returned (.bool true) ∧ Below W.heap.size W W' := by
  obtain ⟨p, q, hA0, hV, rfl, hfz, hnd⟩ := hW
  have hA : DataW.TrodAll enc Tryz.prog W 0 (fun _ => true) true Tryz.f6.params.toList args.toList ds p := hA0
  rw [Tryz.params6] at hA
  obtain ⟨v0, vs0, d0, ds0, p0, q0, hargs, rfl, rfl, h0, r0⟩ := trodAll_cons hA
  obtain ⟨v1, vs1, d1, ds1, p1, q1, hargs1, rfl, rfl, h1, r1⟩ := trodAll_cons r0
  obtain ⟨v2, vs2, d2, ds2, p2, q2, hargs2, rfl, rfl, ⟨n2, h2⟩, r2⟩ := trodAll_cons r1
  obtain ⟨rfl, rfl, rfl⟩ := trodAll_nil r2
  obtain rfl : args = #[v0, v1, v2] := by cases args; simp_all
  obtain ⟨x, rfl, rfl, rfl, wx⟩ := open_int Tryz.underlying5 (hval 0 5 v0 rfl rfl) h0
  obtain ⟨y, rfl, rfl, rfl, wy⟩ := open_int Tryz.underlying5 (hval 1 5 v1 rfl rfl) h1
  obtain ⟨s, rfl⟩ := okWide_string Tryz.underlying9 (hval 2 9 v2 rfl rfl)
  obtain ⟨s', e0, _, hsz⟩ := DataW.trod_string Tryz.underlying9 h2
  simp [Value.cells] at e0
  subst e0
  have bx := Go.bounds_u8 wx
  have b_y := Go.bounds_u8 wy
  obtain ⟨X, rfl⟩ := Int.eq_ofNat_of_zero_le bx.1
  obtain ⟨Y, rfl⟩ := Int.eq_ofNat_of_zero_le b_y.1
  have hmx : maxLen = 9223372036854775807 := rfl
  have h := FnHeading_w s.data.toList X Y W (by omega) (by omega) (by rw [← B.size_data]; omega)
  rw [bs_toList] at h
  exact h
end Go.Proofs.YtmdabdpghcjplaaGreatDoor.fnHeading
