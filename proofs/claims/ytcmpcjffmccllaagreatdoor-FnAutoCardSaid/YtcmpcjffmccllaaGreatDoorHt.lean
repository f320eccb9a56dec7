/- Automatic links: an address that begins with http. -/
import Derived.Test.YtcmpcjffmccllaaGreatDoorAv
import Derived.Test.YtcmpcjffmccllaaGreatDoorSu
import Derived.Test.YtcmpcjffmccllaaGreatDoorIx
namespace Go.Proofs.YtcmpcjffmccllaaGreatDoor
open Go.RowKit Sl

/-- Where an address stands in a text: it begins at I, its domain at S, the domain's full stop at D, the slash behind it at E; it ends at K. -/
structure HttpAt (s : List UInt8) (I S D E K : Nat) : Prop where
  i0 : 0 < I
  is : I < S
  sd : S < D
  de : D + 1 < E
  ek : E < K
  len : K < s.length
  small : s.length ≤ 100000000
  sp : s[I - 1]? = some 32
  dom : ∀ k, S ≤ k → k < D → ∃ c, s[k]? = some c ∧ alnum c = true
  dot : s[D]? = some 46
  tl : ∀ k, D < k → k < E → ∃ c, s[k]? = some c ∧ alnum c = true
  sl : s[E]? = some 47
  path : ∀ k, E < k → k < K → ∃ c, s[k]? = some c ∧ (c = 97 ∨ c = 98 ∨ c = 47)
  se : s[K]? = some 32

set_option maxRecDepth 100000 in
set_option maxHeartbeats 2000000 in
theorem validDomain_w (v : Nat) (s : List UInt8) (I S D E K : Nat) (h : HttpAt s I S D E K) (w : World) (F : HP) (hs : Sat w (row v 275 [.string (B.bs s), .int .i64 0] * F)) :
    Calls Tryz.prog 206 #[.pointer (some ⟨v, 0, none⟩), .int .i64 S] w fun e w' => e = .returned (.tuple #[.int .i64 ((E : Int) - (S : Int)), .bool true]) ∧ w = w' := by
  have hz : (B.bs s).size = s.length := rfl
  obtain ⟨i0, is, sd, de, ek, hlen, hsm, hsp, hdom, hdot, htl, hsl, hpath, hse⟩ := h
  have hget : ∀ k c, s[k]? = some c → ∀ hh, (B.bs s)[k]'hh = c := fun k c hk hh => (List.getElem?_eq_some_iff.1 hk).2
  have XD := Lib.hid (hget _ _ hdot)
  have XE := Lib.hid (hget _ _ hsl)
  have HL := Lib.hid (fun c w => ldh_w c w)
  have HDO := Lib.hid (fun k h1 h2 => (hdom k h1 h2).imp fun c hc => (⟨hget k c hc.1, hc.2⟩ : (∀ hh, (B.bs s)[k]'hh = c) ∧ alnum c = true))
  have HTL := Lib.hid (fun k h1 h2 => (htl k h1 h2).imp fun c hc => (⟨hget k c hc.1, hc.2⟩ : (∀ hh, (B.bs s)[k]'hh = c) ∧ alnum c = true))
  have c0 : w.cell? ⟨v, 0, none⟩ = some (.string (B.bs s)) := hs.cell 0 rfl
  have c1 : w.cell? ⟨v, 1, none⟩ = some (.int .i64 0) := hs.cell 1 rfl
  clear hdom htl hdot hsl hpath hse hsp hget hs
  go_enter Tryz.func206, Tryz.ntmps206
  go_wp2_with fail
  go_loopw [6, 7] (fun a b wr => ∃ k : Nat, S ≤ k ∧ k ≤ E ∧ a = .int .i64 (k : Int) ∧ b = .int .i64 (if k ≤ D then 0 else 1) ∧ w = wr) (fun a _ _ => s.length - (intOf a).toNat)
  case atStart => exact ⟨S, Nat.le_refl _, by omega, rfl, by rw [if_pos (by omega)], rfl⟩
  case round =>
    obtain ⟨k, hk1, hk2, rfl, rfl, rfl⟩ := hrel
    by_cases hkD : k ≤ D
    · rw [if_pos hkD]
      by_cases hlt : k < D
      · obtain ⟨c, hix, hb⟩ := HDO.out k hk1 hlt
        obtain ⟨n1, n2, n3⟩ := alnum_int hb
        have hx := HL.out c w
        rw [show ldh c = true by unfold ldh; rw [hb]; rfl] at hx
        have HX := Lib.hid hx
        clear hx
        go_wp2_with fail
        refine HX.out.mono ?_
        rintro e w1 ⟨rfl, rfl⟩
        clear HX
        go_wp2_with fail
        go_roundw
        case rel => exact ⟨k + 1, by omega, by omega, by go_num, by rw [if_pos (by omega)], by first | trivial | rfl⟩
        case measure => simp [intOf]; omega
      · obtain rfl : k = D := by omega
        have xD := XD.out
        go_wp2_with fail
        go_roundw
        case rel => exact ⟨k + 1, by omega, by omega, by go_num, by rw [if_neg (by omega)], by first | trivial | rfl⟩
        case measure => simp [intOf]; omega
    · rw [if_neg hkD]
      by_cases hlt : k < E
      · obtain ⟨c, hix, hb⟩ := HTL.out k (by omega) hlt
        obtain ⟨n1, n2, n3⟩ := alnum_int hb
        have hx := HL.out c w
        rw [show ldh c = true by unfold ldh; rw [hb]; rfl] at hx
        have HX := Lib.hid hx
        clear hx
        go_wp2_with fail
        refine HX.out.mono ?_
        rintro e w1 ⟨rfl, rfl⟩
        clear HX
        go_wp2_with fail
        go_roundw
        case rel => exact ⟨k + 1, by omega, by omega, by go_num, by rw [if_neg (by omega)], by first | trivial | rfl⟩
        case measure => simp [intOf]; omega
      · obtain rfl : k = E := by omega
        have xE := XE.out
        have hx := HL.out 47 w
        rw [show ldh 47 = false by decide] at hx
        have HX := Lib.hid hx
        clear hx
        have hgt : S < k := by omega
        go_wp2_with fail
        refine HX.out.mono ?_
        rintro e w1 ⟨rfl, rfl⟩
        clear HX
        go_wp2_with fail
        exact bodyPost_ret (v := .tuple #[.int .i64 ((k : Int) - (S : Int)), .bool true]) (by simp [results, Tryz.results206, go_sem]) rfl ⟨rfl, rfl⟩

def uniS (c : UInt8) : Bool := decide (c.toNat = 32) || (decide (c.toNat = 9) || (decide (c.toNat = 12) || decide (c.toNat = 10)))

set_option maxRecDepth 100000 in
set_option maxHeartbeats 1000000 in
theorem uniSpace_w (c : UInt8) (hc : c.toNat < 128) (w : World) : Calls Tryz.prog 107 #[.int .i32 c.toNat] w fun e w' => e = .returned (.bool (uniS c)) ∧ w = w' := by
  go_enter Tryz.func107, Tryz.ntmps107
  go_wp2
  all_goals
    go_ret
    refine ⟨ret_bool ?_, rfl⟩
    unfold uniS
    rw [Bool.eq_iff_iff]
    simp
    try omega

/-- The bytes of an address's path. -/
theorem path_int {c : UInt8} (h : c = 97 ∨ c = 98 ∨ c = 47) : uniS c = false ∧ c.toNat < 128 ∧ ((c.toNat : Int) == 60) = false ∧ ((c.toNat : Int) == 40) = false ∧ ((c.toNat : Int) == 41) = false ∧ ((c.toNat : Int) == 63) = false ∧ ((c.toNat : Int) == 33) = false ∧ ((c.toNat : Int) == 46) = false ∧ ((c.toNat : Int) == 44) = false ∧
    ((c.toNat : Int) == 58) = false ∧ ((c.toNat : Int) == 64) = false ∧ ((c.toNat : Int) == 95) = false ∧ ((c.toNat : Int) == 126) = false ∧ ((c.toNat : Int) == 59) = false := by
  rcases h with rfl | rfl | rfl <;> decide

theorem cut_join (s : List UInt8) {I S k : Nat} (h1 : I ≤ S) (h2 : S ≤ k) : (s.take S).drop I ++ (s.take k).drop S = (s.take k).drop I := by
  rw [← List.take_append_drop (S - I) ((s.take k).drop I)]
  congr 1
  · rw [List.drop_take, List.drop_take, List.take_take, Nat.min_eq_left (by omega)]
  · rw [List.drop_drop, show I + (S - I) = S by omega]

set_option maxRecDepth 100000 in
set_option maxHeartbeats 4000000 in
theorem parseAutoHTTP_w (p : Option Addr) (v : Nat) (s : List UInt8) (I S D E K : Nat) (h : HttpAt s I S D E K) (w : World) (F : HP) (hs : Sat w (row v 275 [.string (B.bs s), .int .i64 0] * F)) :
    Calls Tryz.prog 195 #[.pointer p, .string (B.bs ((s.take S).drop I)), .string (B.bs s), .int .i64 I, .int .i64 S, .int .i64 (S + 1 : Nat), .pointer (some ⟨v, 0, none⟩)] w fun e w' => ∃ d, e = .returned (.tuple #[.pointer (some ⟨d, 0, none⟩), .string (B.bs (s.drop K)), .bool true]) ∧
      Sat w' (TokAt (.iface 141 (.pointer (some ⟨d, 0, none⟩))) (.link ((s.take K).drop I) ((s.take K).drop I)) * (row v 275 [.string (B.bs s), .int .i64 0] * F)) := by
  have hz : (B.bs s).size = s.length := rfl
  have HVD := Lib.hid (validDomain_w v s I S D E K h w F hs)
  obtain ⟨i0, is, sd, de, ek, hlen, hsm, hsp, hdom, hdot, htl, hsl, hpath, hse⟩ := h
  have hget : ∀ k c, s[k]? = some c → ∀ hh, (B.bs s)[k]'hh = c := fun k c hk hh => (List.getElem?_eq_some_iff.1 hk).2
  have hpa : ∀ k, E ≤ k → k < K → ∃ c, s[k]? = some c ∧ (c = 97 ∨ c = 98 ∨ c = 47) := by
    intro k k1 k2
    by_cases he : k = E
    · subst he; exact ⟨47, hsl, .inr (.inr rfl)⟩
    · exact hpath k (by omega) k2
  have hdec : ∀ (k : Nat) (c : UInt8), s[k]? = some c → c.toNat < 128 → ∀ w, Calls Tryz.prog 106 #[.string (B.bs (s.drop k))] w fun e w' => e = .returned (.tuple #[.int .i32 c.toNat, .int .i64 1]) ∧ w = w' := by
    intro k c hk hc w
    refine (Su.utf8_DecodeRuneInString_ascii (B.bs (s.drop k)) c w (by rw [B.bs_data, List.getElem?_drop]; exact hk) hc).mono ?_
    rintro e w' ⟨rfl, rfl⟩
    exact ⟨rfl, rfl⟩
  have hext : ∀ k, k ≤ s.length → (B.bs s).extract k s.length = B.bs (s.drop k) := by
    intro k hk
    rw [B.extract_bs, B.bs_data]
    congr 1
    exact List.take_of_length_le (by rw [List.length_drop]; omega)
  have HPA := Lib.hid hpa
  have HDEC := Lib.hid hdec
  have HEXT := Lib.hid hext
  have HGET := Lib.hid hget
  have HSE := Lib.hid hse
  have HS := Lib.hid hs
  have HUS := Lib.hid (fun c hc w => uniSpace_w c hc w)
  have hSE : wrap64 ((S : Int) + ((E : Int) - (S : Int))) = (E : Int) := by rw [wrap64_small (by omega) (by omega)]; omega
  have hSE2 : (S : Int) + ((E : Int) - (S : Int)) = (E : Int) := by omega
  clear hpa hdec hext hget hse hs hsp hdom hdot htl hsl hpath
  go_enter Tryz.func195, Tryz.ntmps195
  have HSE3 := Lib.hid hSE
  have HSE4 := Lib.hid hSE2
  clear hSE hSE2
  go_wp2_with fail
  go_step3
  go_wp2_with fail
  refine HVD.out.mono ?_
  rintro e w1 ⟨rfl, rfl⟩
  have hSE2 := HSE4.out
  have hSE := HSE3.out
  go_wp2_with fail
  clear hSE hSE2
  go_loopw [19, 21] (fun a b wr => ∃ k : Nat, E ≤ k ∧ k ≤ K ∧ a = .int .i64 (k : Int) ∧ b = .int .i64 0 ∧ w = wr) (fun a _ _ => s.length - (intOf a).toNat)
  case atStart => exact ⟨E, Nat.le_refl _, by omega, rfl, rfl, rfl⟩
  case round =>
    obtain ⟨k, hk1, hk2, rfl, rfl, rfl⟩ := hrel
    have hks : k ≤ s.length := by omega
    have he1 := HEXT.out k hks
    by_cases hlt : k < K
    · obtain ⟨c, hix, hc⟩ := HPA.out k hk1 hlt
      obtain ⟨hu, h128, n1, n2, n3, _⟩ := path_int hc
      have hd := HDEC.out k c hix h128 w
      have hus := HUS.out c h128 w
      rw [hu] at hus
      have HD := Lib.hid hd
      have HU := Lib.hid hus
      clear hd hus hix hc
      go_wp2_with fail
      refine HD.out.mono ?_
      rintro e w1 ⟨rfl, rfl⟩
      go_wp2_with fail
      refine HU.out.mono ?_
      rintro e w1 ⟨rfl, rfl⟩
      go_wp2_with fail
      go_roundw
      case rel => exact ⟨k + 1, by omega, by omega, by go_num, rfl, by first | trivial | rfl⟩
      case measure => simp [intOf]; omega
    · obtain rfl : k = K := by omega
      have hd := HDEC.out k 32 HSE.out (by decide) w
      have hus := HUS.out 32 (by decide) w
      rw [show uniS 32 = true by decide] at hus
      have HD := Lib.hid hd
      have HU := Lib.hid hus
      clear hd hus
      go_wp2_with fail
      refine HD.out.mono ?_
      rintro e w1 ⟨rfl, rfl⟩
      go_wp2_with fail
      refine HU.out.mono ?_
      rintro e w1 ⟨rfl, rfl⟩
      go_wp2_with fail
      refine wp_label ?_
      rename_i hk
      refine hk _ _ ?_
      clear hk
      obtain ⟨c, hg, hc⟩ := HPA.out (k - 1) (by omega) (by omega)
      have hix := HGET.out _ _ hg
      obtain ⟨_, _, _, _, n5, n6, n7, n8, n9, m1, m2, m3, m4, m5⟩ := path_int hc
      have hgt : S + 1 < k := by omega
      have hne : ((I : Int) == (S : Int)) = false := by simp; omega
      clear hg hc HD HU
      go_wp2_with fail
      refine wp_loop_once ?_
      go_wp2_with fail
      clear n5 n6 n7 n8 n9 m1 m2 m3 m4 m5 hix hne
      have hcut1 : (B.bs s).extract I k = B.bs ((s.take k).drop I) := by rw [B.extract_bs, B.bs_data, List.drop_take]
      have hcut2 : (B.bs s).extract S k = B.bs ((s.take k).drop S) := by rw [B.extract_bs, B.bs_data, List.drop_take]
      have a1 : ∀ w, (Op.stringOp .add (B.bs ((s.take S).drop I)) (B.bs ((s.take k).drop S))).run Tryz.prog w = .ok (.string (B.bs ((s.take k).drop I))) w := fun w => by
        have := addB ((s.take S).drop I) ((s.take k).drop S) w (by simp only [List.length_drop, List.length_take]; omega)
        rw [cut_join s (by omega) (by omega)] at this
        exact this
      have q1 : I ≤ k := by omega
      have q2 : S ≤ k := by omega
      obtain ⟨t, ht⟩ : ∃ t, t = (s.take k).drop I := ⟨_, rfl⟩
      rw [← ht] at a1 hcut1
      have fin : ∀ (W9 : World) (d : Nat) (F : HP), Sat W9 (TokAt (.iface 141 (.pointer (some ⟨d, 0, none⟩))) (.link t t) * F) → Sat W9 (TokAt (.iface 141 (.pointer (some ⟨d, 0, none⟩))) (.link ((s.take k).drop I) ((s.take k).drop I)) * F) := by
        intro W9 d F h
        rw [ht] at h
        exact h
      have FIN := Lib.hid fin
      clear fin ht
      generalize (s.take k).drop S = m1 at *
      generalize (s.take S).drop I = m2 at *
      go_region_law (fail)
      all_goals
        go_wp2
        go_region_law (fail)
        go_wp2
        rw [Exit.noGoto_ret]
        refine bodyPost_ret (v := .tuple #[.pointer (some ⟨w.heap.size + 1 + 1, 0, none⟩), .string (B.bs (s.drop k)), .bool true]) (by simp [results, Tryz.results195, go_sem]) rfl ⟨w.heap.size + 1 + 1, rfl, ?_⟩
        have h5 := (((HS.out.new (d := w.heap.size) [.string (B.bs t)] 138 (by simp)).new (d := w.heap.size + 1) [.iface 157 (.pointer (some ⟨w.heap.size, 0, none⟩))] 133 (by simp)).new (d := w.heap.size + 1 + 1) [.slice (some ⟨w.heap.size + 1, 0, none⟩) 1 1, .string (B.bs t), .string ⟨#[]⟩, .int .u8 0, .bool false] 145 (by simp)).drew.drew
        exact FIN.out _ _ _ (link_mk (d := w.heap.size + 1 + 1) (g := w.heap.size + 1) (i := w.heap.size) (h5.cast (by ac_rfl)))
end Go.Proofs.YtcmpcjffmccllaaGreatDoor
