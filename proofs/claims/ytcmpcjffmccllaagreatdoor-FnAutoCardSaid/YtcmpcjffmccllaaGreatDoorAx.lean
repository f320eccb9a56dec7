/- Automatic links: the inlines of a text that holds an address. -/
import Derived.Test.YtcmpcjffmccllaaGreatDoorAv
namespace Go.Proofs.YtcmpcjffmccllaaGreatDoor
open Go.RowKit Sl

theorem typeAssert_plain (d : Nat) (w : World) : (Instr.typeAssert (.iface 157 (.pointer (some ⟨d, 0, none⟩))) 133 157 true).run Tryz.prog w = .ok (.tuple #[.pointer (some ⟨d, 0, none⟩), .bool true]) w := by kernel_rfl

set_option maxRecDepth 100000 in
set_option maxHeartbeats 4000000 in
theorem autoOf_mail (o : Opt) (ho : o.auto = true) (s : List UInt8) (A I D K : Nat) (h : MailAt s A I D K) (hc : Calm s) (h64 : ∀ k c, s[k]? = some c → k ≠ I → ((c.toNat : Int) == 64) = false) :
    AutoOf o [.plain s] [.plain (s.take A), .link (mailto ++ (s.take K).drop A) ((s.take K).drop A), .plain (s.drop K)] := by
  intro p pb g k cap x vs junk F w hx hk hv hcm hcap hs
  have hAP := fun w F hs => autoLinkPlain_w (some ⟨p, 0, none⟩) s A I D K h hc h64 w F hs
  generalize hT : [Tok.plain (s.take A), .link (mailto ++ (s.take K).drop A) ((s.take K).drop A), .plain (s.drop K)] = us at *
  have hus : us.length = 3 := by rw [← hT]; rfl
  clear hT
  have hlen := toksAt_len (hs.cast (show _ = ToksAt vs [.plain s] * (row p 96 x.cells * (row pb 78 o.pcells * (row g 133 (vs ++ junk) * F))) from by ac_rfl))
  obtain ⟨v, rfl⟩ : ∃ v, vs = [v] := by
    match vs, hlen with
    | [v], _ => exact ⟨v, rfl⟩
  obtain rfl : k = 1 := hk
  rw [toksAt_single] at hs
  obtain ⟨d, h1⟩ := (hs.cast (show _ = TokAt v (.plain s) * (row p 96 x.cells * (row pb 78 o.pcells * (row g 133 ([v] ++ junk) * F))) from by
    generalize TokAt v (.plain s) = Y
    ac_rfl)).ex
  obtain ⟨rfl, h2⟩ := (h1.cast (star_assoc _ _ _)).pur
  have hS := h2.cast (show _ = row p 96 x.cells * (row pb 78 o.pcells * (row g 133 ([.iface 157 (.pointer (some ⟨d, 0, none⟩))] ++ junk) * (row d 138 [.string (B.bs s)] * F))) from by ac_rfl)
  obtain ⟨f0, f1, f2, f3, f4, f5, f6, f7, f8, f9, f10, f11, fz, hlp⟩ := PSt.facts hS
  rw [hx] at f0
  have c3 : w.cell? ⟨pb, 3, none⟩ = some (.bool true) := hS.swap.cell 3 (by simp [Opt.pcells, ho])
  have g0 : w.cell? ⟨g, 0, none⟩ = some (.iface 157 (.pointer (some ⟨d, 0, none⟩))) := hS.third.cell 0 rfl
  have d0 : w.cell? ⟨d, 0, none⟩ = some (.string (B.bs s)) := h2.cell 0 rfl
  have ta := typeAssert_plain d
  obtain ⟨i0, hi0, hz0, hz1, hz2⟩ := info_parts info_Inline
  have HS := Lib.hid hS
  have HAP := Lib.hid hAP
  have HUS := Lib.hid hus
  have HCAP := Lib.hid hcap
  clear f1 f2 f3 f4 f5 f6 f7 f8 f9 f10 f11 fz hlp hs h1 h2 hS hAP hus hcap hlen h hc h64
  go_enter Tryz.func84, Tryz.ntmps84
  go_wp2_with fail
  go_loopw [5, 24] (fun y i wr => (y = .slice none 0 0 ∧ i = .int .i64 0 ∧ w = wr) ∨ (i = .int .i64 1 ∧ ∃ g4 c4, y = .slice (some ⟨g4, 0, none⟩) 3 c4 ∧ Sat wr (row p 96 x.cells * (InlsAt ⟨some ⟨g4, 0, none⟩, 3, c4⟩ us * (row pb 78 o.pcells * F))))) (fun _ i _ => 1 - (intOf i).toNat)
  case atStart => exact .inl ⟨rfl, rfl, rfl⟩
  case round =>
    rcases hrel with ⟨rfl, rfl, rfl⟩ | ⟨rfl, g4, c4, rfl, s4⟩
    · go_wp2_with fail
      refine (HAP.out w _ HS.out).mono ?_
      rintro e w2 ⟨L, rfl, hL3, s2⟩
      obtain ⟨vs3, hL, s3⟩ := inlsAt_iff.1 s2
      rw [hL3] at s3
      rcases s3.arr_cases with ⟨_, h0, _, _⟩ | ⟨g3, cap3, junk3, hLv, hxx, _, hcm3, hcs3, s5⟩
      · exact absurd h0 (by decide)
      rw [hLv]
      have n1 := neq_inls ⟨g3, 0, none⟩ 3 cap3
      have n2 := eq_inls_nil
      obtain ⟨y1, y2, y3, rfl⟩ : ∃ y1 y2 y3, vs3 = [y1, y2, y3] := by
        match vs3, hxx with
        | [y1, y2, y3], _ => exact ⟨y1, y2, y3, rfl⟩
      have htk := toksAt_is (s5.cast (show _ = ToksAt [y1, y2, y3] us * (row g3 133 ([y1, y2, y3] ++ junk3) * (row p 96 x.cells * (row pb 78 o.pcells * (row g 133 ([.iface 157 (.pointer (some ⟨d, 0, none⟩))] ++ junk) * (row d 138 [.string (B.bs s)] * F))))) from by
        generalize ToksAt [y1, y2, y3] us = Y
        ac_rfl))
      have hB : Sat w2 (arr 133 1 (.slice none 0 0) 0 [] * (row g3 133 ([y1, y2, y3] ++ junk3) * (ToksAt [y1, y2, y3] us * (row p 96 x.cells * (row pb 78 o.pcells * (row g 133 ([.iface 157 (.pointer (some ⟨d, 0, none⟩))] ++ junk) * (row d 138 [.string (B.bs s)] * F))))))) := s5.cast (by rw [arr_nil, emp_star])
      have HB := Lib.hid hB
      have HTK := Lib.hid htk
      have hnews : ∀ (j : Nat) (u : Value), [y1, y2, y3][j]? = some u → w2.cell? ((⟨g3, 0, none⟩ : Addr).add j) = some u := by
        intro j u hu
        have hc := hB.swap.cell j (show ([y1, y2, y3] ++ junk3)[j]? = some u by
          rw [List.getElem?_append_left (List.getElem?_eq_some_iff.1 hu).1]; exact hu)
        rw [show (⟨g3, 0, none⟩ : Addr).add j = ⟨g3, j, none⟩ by simp [Addr.add]; exact fun h => h.symm]
        exact hc
      have HNE := Lib.hid hnews
      clear hB s5 s3 s2 hL htk hLv hL3 hxx hcs3 hnews
      go_wp2_with (at_builtin; refine wpList_append_sl rfl (.tmp 48) (.tmp 49) 89 rfl 133 i0 .nilIface 1 16 Tryz.underlying89 hi0 hz0 hz1 hz2 rfl (.slice none 0 0) 0 [] rfl HB.out ⟨g3, 0, none⟩ 3 cap3 [y1, y2, y3] rfl rfl HNE.out (fun u hu => (HTK.out u hu).one) (by decide) (by decide) (by decide) ?_)
      intro g4 c4 w4 s4 z4
      have s5 : Sat w4 (arr 133 1 (.slice (some ⟨g4, 0, none⟩) 3 c4) 3 [y1, y2, y3] * (row g3 133 ([y1, y2, y3] ++ junk3) * (ToksAt [y1, y2, y3] us * (row p 96 x.cells * (row pb 78 o.pcells * (row g 133 ([.iface 157 (.pointer (some ⟨d, 0, none⟩))] ++ junk) * (row d 138 [.string (B.bs s)] * F))))))) := s4
      have s6 := (s5.drop2.cast (show _ = row g 133 ([.iface 157 (.pointer (some ⟨d, 0, none⟩))] ++ junk) * (row d 138 [.string (B.bs s)] * (arr 133 1 (.slice (some ⟨g4, 0, none⟩) 3 c4) 3 [y1, y2, y3] * (ToksAt [y1, y2, y3] us * (row p 96 x.cells * (row pb 78 o.pcells * F))))) from by
        generalize ToksAt [y1, y2, y3] us = Y
        ac_rfl)).drop1.drop1
      have s7 : Sat w4 (InlsAt ⟨some ⟨g4, 0, none⟩, 3, c4⟩ us * _) := inlsAt_iff.2 ⟨[y1, y2, y3], rfl, s6⟩
      have H7 := Lib.hid s7.swap
      clear s4 s5 s6 s7 z4 HB HTK HNE
      go_wp2_with fail
      go_roundw
      case rel => exact .inr ⟨rfl, g4, c4, rfl, H7.out⟩
      case measure => simp [intOf]
    · have q1 := eq_inls ⟨g4, 0, none⟩ 3 c4
      have S4 := Lib.hid s4
      clear s4
      go_wp2_with fail
      go_ret
      exact ⟨⟨some ⟨g4, 0, none⟩, 3, c4⟩, rfl, S4.out⟩
end Go.Proofs.YtcmpcjffmccllaaGreatDoor
