/- Automatic links: the schemes. -/
import Derived.Test.YtcmpcjffmccllaaGreatDoorHt
namespace Go.Proofs.YtcmpcjffmccllaaGreatDoor
open Go.RowKit Sl

def httpS (sec : Bool) : List UInt8 := if sec then [104, 116, 116, 112, 115, 58, 47, 47] else [104, 116, 116, 112, 58, 47, 47]

set_option maxRecDepth 100000 in
set_option maxHeartbeats 4000000 in
theorem parseAutoProto_w (p : Option Addr) (v : Nat) (s r : List UInt8) (sec : Bool) (I D E K : Nat) (h : HttpAt s I (I + (httpS sec).length) D E K) (hd : s.drop I = httpS sec ++ r) (w : World) (F : HP) (hs : Sat w (row v 275 [.string (B.bs s), .int .i64 0] * F)) :
    Calls Tryz.prog 173 #[.pointer p, .string (B.bs s), .int .i64 I, .pointer (some ⟨v, 0, none⟩)] w fun e w' => ∃ d, e = .returned (.tuple #[.pointer (some ⟨d, 0, none⟩), .string (B.bs (s.drop K)), .bool true]) ∧
      Sat w' (TokAt (.iface 141 (.pointer (some ⟨d, 0, none⟩))) (.link ((s.take K).drop I) ((s.take K).drop I)) * (row v 275 [.string (B.bs s), .int .i64 0] * F)) := by
  have hz : (B.bs s).size = s.length := rfl
  have hh := parseAutoHTTP_w p v s I _ D E K h w F hs
  have hlen := h.len
  have hsm := h.small
  have hek := h.ek
  have hde := h.de
  have hsd := h.sd
  have hI : I < s.length := by omega
  have h0 : s[I]? = some 104 := by
    have : (s.drop I)[0]? = some 104 := by rw [hd]; cases sec <;> rfl
    rw [List.getElem?_drop] at this
    exact this
  have hix : ∀ hh, (B.bs s)[I]'hh = 104 := fun hh => (List.getElem?_eq_some_iff.1 h0).2
  have he : (B.bs s).toList.isEmpty = false := by
    rw [Lib.toList_data, B.bs_data]
    cases s with
    | nil => simp at hI
    | cons => rfl
  have hext : (B.bs s).extract I s.length = B.bs (s.drop I) := by
    rw [B.extract_bs, B.bs_data]
    congr 1
    exact List.take_of_length_le (by rw [List.length_drop]; omega)
  have hbs : (B.bs (s.drop I)).size ≤ 1000000000000 := by rw [B.bs_size, List.length_drop]; omega
  have hp1 := fun w => hasPrefix_w (B.bs (s.drop I)) ⟨#[104, 116, 116, 112, 115, 58, 47, 47]⟩ w hbs (by decide)
  have hp2 := fun w => hasPrefix_w (B.bs (s.drop I)) ⟨#[104, 116, 116, 112, 58, 47, 47]⟩ w hbs (by decide)
  obtain ⟨x0, hx0⟩ : ∃ x, x = (s.take (I + (httpS sec).length)).drop I := ⟨_, rfl⟩
  rw [← hx0] at hh
  cases sec with
  | true =>
    have e1 : ((ByteArray.mk #[104, 116, 116, 112, 115, 58, 47, 47]).data.toList.isPrefixOf (B.bs (s.drop I)).data.toList) = true := by rw [B.bs_data, hd]; rfl
    rw [e1] at hp1
    have HP1 := Lib.hid hp1
    have hcut : (B.bs s).extract I (I + 8) = B.bs x0 := by
      rw [B.extract_bs, B.bs_data, hx0]
      show _ = B.bs ((s.take (I + 8)).drop I)
      rw [List.drop_take]
    rw [show ((I + (httpS true).length : Nat) : Int) = (I : Int) + 8 from by simp [httpS], show ((I + (httpS true).length + 1 : Nat) : Int) = (I : Int) + 8 + 1 from by simp [httpS]] at hh
    have HH := Lib.hid hh
    have HX0 := Lib.hid hx0
    have hsd' : I + 8 < D := hsd
    have hIn : I + 8 ≤ s.length := by omega
    have hII : I ≤ I + 8 := by omega
    clear hh hs h h0 hd hbs hx0 hsd
    clear hp1 hp2 e1
    go_enter Tryz.func173, Tryz.ntmps173
    go_wp2_with fail
    refine (HP1.out w).mono ?_
    rintro e w1 ⟨rfl, rfl⟩
    go_wp2_with fail
    refine HH.out.mono ?_
    rintro e w2 ⟨d, rfl, s2⟩
    go_wp2_with fail
    exact bodyPost_ret (v := .tuple #[.pointer (some ⟨d, 0, none⟩), .string (B.bs (s.drop K)), .bool true]) (by simp [results, Tryz.results173, go_sem]) rfl ⟨d, rfl, s2⟩
  | false =>
    have e1 : ((ByteArray.mk #[104, 116, 116, 112, 115, 58, 47, 47]).data.toList.isPrefixOf (B.bs (s.drop I)).data.toList) = false := by rw [B.bs_data, hd]; rfl
    have e2 : ((ByteArray.mk #[104, 116, 116, 112, 58, 47, 47]).data.toList.isPrefixOf (B.bs (s.drop I)).data.toList) = true := by rw [B.bs_data, hd]; rfl
    rw [e1] at hp1
    rw [e2] at hp2
    have HP1 := Lib.hid hp1
    have HP2 := Lib.hid hp2
    have hcut : (B.bs s).extract I (I + 7) = B.bs x0 := by
      rw [B.extract_bs, B.bs_data, hx0]
      show _ = B.bs ((s.take (I + 7)).drop I)
      rw [List.drop_take]
    rw [show ((I + (httpS false).length : Nat) : Int) = (I : Int) + 7 from by simp [httpS], show ((I + (httpS false).length + 1 : Nat) : Int) = (I : Int) + 7 + 1 from by simp [httpS]] at hh
    have HH := Lib.hid hh
    have HX0 := Lib.hid hx0
    have hsd' : I + 7 < D := hsd
    have hIn : I + 7 ≤ s.length := by omega
    have hII : I ≤ I + 7 := by omega
    clear hh hs h h0 hd hbs hx0 hsd
    clear hp1 hp2 e1 e2
    go_enter Tryz.func173, Tryz.ntmps173
    go_wp2_with fail
    refine (HP1.out w).mono ?_
    rintro e w1 ⟨rfl, rfl⟩
    go_wp2_with fail
    refine (HP2.out w).mono ?_
    rintro e w1 ⟨rfl, rfl⟩
    go_wp2_with fail
    refine HH.out.mono ?_
    rintro e w2 ⟨d, rfl, s2⟩
    go_wp2_with fail
    exact bodyPost_ret (v := .tuple #[.pointer (some ⟨d, 0, none⟩), .string (B.bs (s.drop K)), .bool true]) (by simp [results, Tryz.results173, go_sem]) rfl ⟨d, rfl, s2⟩
end Go.Proofs.YtcmpcjffmccllaaGreatDoor
