/- Automatic links: a plain text that holds an address that begins with http; its inlines. -/
import Derived.Test.YtcmpcjffmccllaaGreatDoorHp
namespace Go.Proofs.YtcmpcjffmccllaaGreatDoor
open Go.RowKit Sl

def letter (c : UInt8) : Bool := decide (65 ≤ c.toNat ∧ c.toNat ≤ 90) || decide (97 ≤ c.toNat ∧ c.toNat ≤ 122)

set_option maxRecDepth 100000 in
set_option maxHeartbeats 1000000 in
theorem isLetter_w (c : UInt8) (w : World) : Calls Tryz.prog 143 #[.int .u8 c.toNat] w fun e w' => e = .returned (.bool (letter c)) ∧ w = w' := by
  go_enter Tryz.func143, Tryz.ntmps143
  go_wp2
  all_goals
    go_ret
    refine ⟨ret_bool ?_, rfl⟩
    unfold letter
    rw [Bool.eq_iff_iff]
    simp only [Bool.or_eq_true, decide_eq_true_eq, true_iff, Bool.false_eq_true, false_iff, eq_self]
    omega

/-- A byte at which no address begins. -/
def Rest (c : UInt8) : Prop := ((c.toNat : Int) == 104) = false ∧ ((c.toNat : Int) == 109) = false ∧ ((c.toNat : Int) == 120) = false ∧ ((c.toNat : Int) == 119) = false ∧ ((c.toNat : Int) == 64) = false

set_option maxRecDepth 100000 in
set_option maxHeartbeats 4000000 in
theorem autoLinkHttp_w (p : Option Addr) (s : List UInt8) (sec : Bool) (r : List UInt8) (I D E K : Nat) (h : HttpAt s I (I + (httpS sec).length) D E K) (hd : s.drop I = httpS sec ++ r) (hq : ∀ (k : Nat) (c : UInt8), s[k]? = some c → k < I ∨ K ≤ k → Rest c) (w : World) (F : HP) (hs : Sat w F) :
    Calls Tryz.prog 124 #[.pointer p, .string (B.bs s)] w fun e w' => ∃ L : SV, e = .returned L.v ∧ L.len = 3 ∧ Sat w' (InlsAt L [.plain (s.take I), .link ((s.take K).drop I) ((s.take K).drop I), .plain (s.drop K)] * F) := by
  have hz : (B.bs s).size = s.length := rfl
  have hPE := fun v w F hs => parseAutoProto_w p v s r sec I D E K h hd w F hs
  have hIK : I < K := by have := h.sd; have := h.de; have := h.ek; omega
  have hK := h.len
  have h0 := h.i0
  have hsm := h.small
  have hAl : (s.take I).length = I := by rw [List.length_take]; omega
  have hKl : (s.drop K).length + K = s.length := by rw [List.length_drop]; have := h.len; omega
  obtain ⟨pre, hpre⟩ : ∃ x, x = s.take I := ⟨_, rfl⟩
  obtain ⟨post, hpost⟩ : ∃ x, x = s.drop K := ⟨_, rfl⟩
  obtain ⟨mm, hmm⟩ : ∃ x, x = (s.take K).drop I := ⟨_, rfl⟩
  rw [← hpre] at hAl
  rw [← hpost] at hKl
  simp only [← hpre, ← hpost, ← hmm] at hPE ⊢
  have HPE := Lib.hid hPE
  have HPO := Lib.hid hKl
  have HPL := Lib.hid hAl
  have HPOST := Lib.hid hpost
  have hPC : ∀ (k : Nat) (c : UInt8), post[k]? = some c → Rest c := by
    intro k c hk
    rw [hpost, List.getElem?_drop] at hk
    exact hq _ _ hk (.inr (by omega))
  have hh : s[I]? = some 104 := by
    have : (s.drop I)[0]? = some 104 := by rw [hd]; cases sec <;> rfl
    rw [List.getElem?_drop] at this
    exact this
  have hsp := h.sp
  have hcutI : (B.bs s).extract 0 I = B.bs pre := by rw [hpre, B.extract_bs, B.bs_data]; simp
  have HQ := Lib.hid (fun (k : Nat) (c : UInt8) (h1 : s[k]? = some c) (h2 : k < I) => hq k c h1 (.inl h2))
  have HH := Lib.hid hh
  have HSP := Lib.hid hsp
  have HCUT := Lib.hid hcutI
  have HPC := Lib.hid hPC
  clear hPE hKl hAl hpre hpost hmm hPC hq hh hsp hcutI h hd
  have hI : I < s.length := by omega
  have HS := Lib.hid hs
  clear hs
  go_enter Tryz.func124, Tryz.ntmps124
  go_wp2
  refine wp_scope_label 0 (fun n a w' => (n = 1 ∧ PFrame (.pointer p) (.string (B.bs s)) (.slice none 0 0) (.pointer (some ⟨w.heap.size, 0, none⟩)) (.slice none 0 0) a ∧ Sat w' (row w.heap.size 275 [.string (B.bs s), .int .i64 0] * F)) ∨
    (n = 0 ∧ ∃ (g cap : Nat) (x1 x2 : Value), PFrame (.pointer p) (.string (B.bs post)) (.slice none 0 0) (.pointer (some ⟨w.heap.size, 0, none⟩)) (.slice (some ⟨g, 0, none⟩) 2 cap) a ∧
      Sat w' (arr 133 1 (.slice (some ⟨g, 0, none⟩) 2 cap) 2 [x1, x2] * (ToksAt [x1, x2] [.plain pre, .link mm mm] * F)))) rfl ?_ ?_
  · rintro n a w1 (⟨rfl, hf, s1⟩ | ⟨rfl, g, cap, x1, x2, hf, s1⟩)
    · obtain ⟨u, rfl⟩ := hf.open
      have S1 := Lib.hid s1
      clear s1 hf HS
      go_wp2
      go_loopw [1, 6, 7] (fun y z a wr => y = .string (B.bs s) ∧ z = .slice none 0 0 ∧ ∃ k : Nat, k ≤ I ∧ a = .int .i64 (k : Int) ∧ w1 = wr) (fun _ _ a _ => s.length - (intOf a).toNat)
      case atStart => exact ⟨rfl, rfl, 0, Nat.zero_le _, rfl, rfl⟩
      case round =>
        obtain ⟨rfl, rfl, k, hk, rfl, rfl⟩ := hrel
        by_cases hlt : k < I
        · obtain ⟨c, hg⟩ : ∃ c, s[k]? = some c := ⟨_, List.getElem?_eq_getElem (by omega)⟩
          have hx : ∀ hh, (B.bs s)[k]'hh = c := fun hh => (List.getElem?_eq_some_iff.1 hg).2
          obtain ⟨n1, n2, n3, n4, n5⟩ := HQ.out k _ hg hlt
          clear hg
          go_wp2_with fail
          go_roundw
          case rel => exact ⟨rfl, rfl, k + 1, by omega, by go_num, by first | trivial | rfl⟩
          case measure => simp [intOf]; omega
        · obtain rfl : k = I := by omega
          have hx : ∀ hh, (B.bs s)[k]'hh = 104 := fun hh => (List.getElem?_eq_some_iff.1 HH.out).2
          have hx1 : ∀ hh, (B.bs s)[k - 1]'hh = 32 := fun hh => (List.getElem?_eq_some_iff.1 HSP.out).2
          have hk0 : ((k : Int) == 0) = false := by simp; omega
          have hL := isLetter_w 32 w1
          rw [show letter 32 = false by decide] at hL
          have HL := Lib.hid hL
          have HP := Lib.hid (HPE.out _ w1 _ S1.out)
          clear hL
          go_wp2_with fail
          refine HL.out.mono ?_
          rintro e w2 ⟨rfl, rfl⟩
          go_wp2_with fail
          refine HP.out.mono ?_
          rintro e w2 ⟨d, rfl, s2⟩
          have hcutI := HCUT.out
          clear HP HL hx hx1 hk0
          obtain ⟨i0, hi0, hz0, hz1, hz2⟩ := info_parts info_Inline
          obtain ⟨T, hT⟩ : ∃ T, T = TokAt (.iface 141 (.pointer (some ⟨d, 0, none⟩))) (.link mm mm) := ⟨_, rfl⟩
          have s2' : Sat w2 (T * (row w.heap.size 275 [.string (B.bs s), .int .i64 0] * F)) := by rw [hT]; exact s2
          have HT := Lib.hid hT
          clear hT s2
          have hz3 : (B.bs post).size = post.length := rfl
          have hB := ((s2'.new (d := w2.heap.size) [.string (B.bs pre)] 138 (by simp)).new (d := w2.heap.size + 1) [.iface 157 (.pointer (some ⟨w2.heap.size, 0, none⟩))] 133 (by simp)).cast (show _ = arr 133 1 (.slice none 0 0) 0 [] * (row (w2.heap.size + 1) 133 [.iface 157 (.pointer (some ⟨w2.heap.size, 0, none⟩))] * (row w2.heap.size 138 [.string (B.bs pre)] * (T * (row w.heap.size 275 [.string (B.bs s), .int .i64 0] * F)))) from by
            rw [arr_nil, emp_star])
          have HB := Lib.hid hB
          clear hB s2'
          go_wp2_with (at_builtin; refine wpList_append_sl rfl (.tmp 100) (.tmp 107) 89 rfl 133 i0 .nilIface 1 16 Tryz.underlying89 hi0 hz0 hz1 hz2 rfl (.slice none 0 0) 0 [] rfl HB.out ⟨w2.heap.size + 1, 0, none⟩ 1 1 [.iface 157 (.pointer (some ⟨w2.heap.size, 0, none⟩))] rfl rfl (news_one (HB.out.swap.cell 0 rfl)) (by intro u hu; simp at hu; rcases hu with rfl; rfl) (by decide) (by decide) (by decide) ?_)
          intro g3 c3 w3 s3 z3
          have hC : Sat _ (arr 133 1 (.slice (some ⟨g3, 0, none⟩) 1 c3) 1 [.iface 157 (.pointer (some ⟨w2.heap.size, 0, none⟩))] * (row w3.heap.size 133 [.iface 141 (.pointer (some ⟨d, 0, none⟩))] * (row w2.heap.size 138 [.string (B.bs pre)] * (T * (row w.heap.size 275 [.string (B.bs s), .int .i64 0] * F))))) := ((s3.drop2).new (d := w3.heap.size) [.iface 141 (.pointer (some ⟨d, 0, none⟩))] 133 (by simp)).swap
          have HC2 := Lib.hid hC
          clear hC s3 z3 HB
          go_wp2_with (at_builtin; refine wpList_append_sl rfl (.tmp 109) (.tmp 112) 89 rfl 133 i0 .nilIface 1 16 Tryz.underlying89 hi0 hz0 hz1 hz2 rfl (.slice (some ⟨g3, 0, none⟩) 1 c3) 1 [.iface 157 (.pointer (some ⟨w2.heap.size, 0, none⟩))] rfl HC2.out ⟨w3.heap.size, 0, none⟩ 1 1 [.iface 141 (.pointer (some ⟨d, 0, none⟩))] rfl rfl (news_one (HC2.out.swap.cell 0 rfl)) (by intro u hu; simp at hu; rcases hu with rfl; rfl) (by decide) (by decide) (by decide) ?_)
          intro g4 c4 w4 s4 z4
          have hD : Sat w4 (row w.heap.size 275 [.string (B.bs s), .int .i64 0] * (arr 133 1 (.slice (some ⟨g4, 0, none⟩) 2 c4) 2 [.iface 157 (.pointer (some ⟨w2.heap.size, 0, none⟩)), .iface 141 (.pointer (some ⟨d, 0, none⟩))] * (row w2.heap.size 138 [.string (B.bs pre)] * (T * F)))) := (s4.drop2).cast (by
            show arr 133 1 (.slice (some ⟨g4, 0, none⟩) 2 c4) 2 [.iface 157 (.pointer (some ⟨w2.heap.size, 0, none⟩)), .iface 141 (.pointer (some ⟨d, 0, none⟩))] * _ = _
            ac_rfl)
          have hSK := vdSkip_w w.heap.size K s w4 _ (by omega) hsm hD
          rw [← HPOST.out, show ((K : Nat) : Int) = (s.length : Int) - (post.length : Int) by have := HPO.out; omega] at hSK
          have HSK := Lib.hid hSK
          have hwr : wrap64 ((s.length : Int) - (post.length : Int)) = (s.length : Int) - (post.length : Int) := wrap64_small (by have := HPO.out; omega) (by omega)
          clear hSK hD s4 z4 HC2
          go_wp2_with fail
          refine HSK.out.mono ?_
          rintro e w5 ⟨rfl, s5⟩
          go_wp2
          refine wp_goto ?_
          refine ⟨rfl, 0, by decide, .inr ⟨rfl, g4, c4, .iface 157 (.pointer (some ⟨w2.heap.size, 0, none⟩)), .iface 141 (.pointer (some ⟨d, 0, none⟩)), ⟨rfl, rfl, rfl, rfl, rfl, rfl, rfl⟩, ?_⟩⟩
          rw [toksAt_cons, toksAt_single, ← HT.out]
          have s6 := s5.drop1.cast (show _ = row w2.heap.size 138 [.string (B.bs pre)] * (arr 133 1 (.slice (some ⟨g4, 0, none⟩) 2 c4) 2 [.iface 157 (.pointer (some ⟨w2.heap.size, 0, none⟩)), .iface 141 (.pointer (some ⟨d, 0, none⟩))] * (T * F)) from by ac_rfl)
          have s7 : Sat _ (TokAt (.iface 157 (.pointer (some ⟨w2.heap.size, 0, none⟩))) (.plain pre) * _) := Sat.ex_mk w2.heap.size (s6.cast (by rw [pur_star rfl]))
          exact s7.cast (by
            generalize TokAt (.iface 157 (.pointer (some ⟨w2.heap.size, 0, none⟩))) (.plain pre) = Y
            ac_rfl)
    · obtain ⟨u, rfl⟩ := hf.open
      have S1 := Lib.hid s1
      have hpl : post.length ≤ 100000000 := by have := HPO.out; omega
      have hz3 : (B.bs post).size = post.length := rfl
      obtain ⟨i0, hi0, hz0, hz1, hz2⟩ := info_parts info_Inline
      have q1 := eq_inls ⟨g, 0, none⟩ 2 cap
      clear s1 hf HS HPE
      go_wp2
      go_loopw [1, 6, 7] (fun y z a wr => y = .string (B.bs post) ∧ z = .slice (some ⟨g, 0, none⟩) 2 cap ∧ ∃ k : Nat, k ≤ post.length ∧ a = .int .i64 (k : Int) ∧ w1 = wr) (fun _ _ a _ => post.length - (intOf a).toNat)
      case atStart => exact ⟨rfl, rfl, 0, Nat.zero_le _, rfl, rfl⟩
      case round =>
        obtain ⟨rfl, rfl, k, hk, rfl, rfl⟩ := hrel
        by_cases hlt : k < post.length
        · obtain ⟨c, hg⟩ : ∃ c, post[k]? = some c := ⟨_, List.getElem?_eq_getElem hlt⟩
          have hx : ∀ hh, (B.bs post)[k]'hh = c := fun hh => (List.getElem?_eq_some_iff.1 hg).2
          obtain ⟨n1, n2, n3, n4, n5⟩ := HPC.out k _ hg
          clear hg
          go_wp2_with fail
          go_roundw
          case rel => exact ⟨rfl, rfl, k + 1, by omega, by go_num, by first | trivial | rfl⟩
          case measure => simp [intOf]; omega
        · obtain rfl : k = post.length := by omega
          have hB := ((S1.out.new (d := w1.heap.size) [.string (B.bs post)] 138 (by simp)).new (d := w1.heap.size + 1) [.iface 157 (.pointer (some ⟨w1.heap.size, 0, none⟩))] 133 (by simp)).cast (show _ = arr 133 1 (.slice (some ⟨g, 0, none⟩) 2 cap) 2 [x1, x2] * (row (w1.heap.size + 1) 133 [.iface 157 (.pointer (some ⟨w1.heap.size, 0, none⟩))] * (row w1.heap.size 138 [.string (B.bs post)] * (ToksAt [x1, x2] [.plain pre, .link mm mm] * F))) from by ac_rfl)
          have HB := Lib.hid hB
          clear hB
          go_wp2_with (at_builtin; refine wpList_append_sl rfl (.tmp 124) (.tmp 129) 89 rfl 133 i0 .nilIface 1 16 Tryz.underlying89 hi0 hz0 hz1 hz2 rfl (.slice (some ⟨g, 0, none⟩) 2 cap) 2 [x1, x2] rfl HB.out ⟨w1.heap.size + 1, 0, none⟩ 1 1 [.iface 157 (.pointer (some ⟨w1.heap.size, 0, none⟩))] rfl rfl (news_one (HB.out.swap.cell 0 rfl)) (by intro u hu; simp at hu; rcases hu with rfl; rfl) (by decide) (by decide) (by decide) ?_)
          intro g3 c3 w3 s3 z3
          have s4 := s3.drop2
          have hout : Sat w3 (InlsAt ⟨some ⟨g3, 0, none⟩, 3, c3⟩ [.plain pre, .link mm mm, .plain post] * F) := by
            refine inlsAt_iff.2 ⟨[x1, x2, .iface 157 (.pointer (some ⟨w1.heap.size, 0, none⟩))], rfl, ?_⟩
            have s7 : Sat _ (TokAt (.iface 157 (.pointer (some ⟨w1.heap.size, 0, none⟩))) (.plain post) * _) := Sat.ex_mk w1.heap.size (s4.swap.cast (by rw [pur_star rfl]))
            have e3 : ToksAt [x1, x2, .iface 157 (.pointer (some ⟨w1.heap.size, 0, none⟩))] [.plain pre, .link mm mm, .plain post] = ToksAt [x1, x2] [.plain pre, .link mm mm] * TokAt (.iface 157 (.pointer (some ⟨w1.heap.size, 0, none⟩))) (.plain post) := by
              have := toksAt_append [x1, x2] [.iface 157 (.pointer (some ⟨w1.heap.size, 0, none⟩))] [.plain pre, .link mm mm] [.plain post] rfl
              rw [toksAt_single] at this
              exact this
            rw [e3]
            exact s7.cast (by
              generalize TokAt (.iface 157 (.pointer (some ⟨w1.heap.size, 0, none⟩))) (.plain post) = Y
              generalize ToksAt [x1, x2] [.plain pre, .link mm mm] = Z
              show Y * (arr 133 1 (.slice (some ⟨g3, 0, none⟩) 3 c3) 3 [x1, x2, .iface 157 (.pointer (some ⟨w1.heap.size, 0, none⟩))] * (Z * F)) = arr 133 1 (.slice (some ⟨g3, 0, none⟩) 3 c3) 3 [x1, x2, .iface 157 (.pointer (some ⟨w1.heap.size, 0, none⟩))] * (Z * Y * F)
              ac_rfl)
          have HO := Lib.hid hout
          clear hout s3 s4 z3 HB
          go_wp2
          refine jump_ret ?_
          go_ret
          exact ⟨⟨some ⟨g3, 0, none⟩, 3, c3⟩, rfl, rfl, HO.out⟩
  · intro hpass
    go_wp2
    refine wp_label ?_
    rename_i hk
    refine hk _ _ ?_
    refine hpass 1 _ _ (.inl ⟨rfl, ⟨rfl, rfl, rfl, rfl, rfl, rfl, rfl⟩, ?_⟩)
    exact (HS.out.new (d := w.heap.size) [.string (B.bs s), .int .i64 0] 275 (by simp))

end Go.Proofs.YtcmpcjffmccllaaGreatDoor
