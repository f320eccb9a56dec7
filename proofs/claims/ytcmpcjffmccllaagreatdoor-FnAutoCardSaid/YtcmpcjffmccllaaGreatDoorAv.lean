/- Automatic links: a plain text that holds an address. -/
import Derived.Test.YtcmpcjffmccllaaGreatDoorAu
import Derived.Test.YtcmpcjffmccllaaGreatDoorI7
import Derived.ScopeJumps
namespace Go.Proofs.YtcmpcjffmccllaaGreatDoor
open Go.RowKit Sl

set_option maxRecDepth 100000 in
set_option maxHeartbeats 1000000 in
theorem vdSkip_w (v n : Nat) (s : List UInt8) (w : World) (F : HP) (hn : n ≤ s.length) (hl : s.length ≤ 100000000) (hs : Sat w (row v 275 [.string (B.bs s), .int .i64 0] * F)) :
    Calls Tryz.prog 172 #[.pointer (some ⟨v, 0, none⟩), .int .i64 n] w fun e w' => e = .returned (.tuple #[]) ∧ Sat w' (row v 275 [.string (B.bs (s.drop n)), .int .i64 (-n)] * F) := by
  have hz : (B.bs s).size = s.length := rfl
  have c0 : w.cell? ⟨v, 0, none⟩ = some (.string (B.bs s)) := hs.cell 0 rfl
  have c1 : w.cell? ⟨v, 1, none⟩ = some (.int .i64 0) := hs.cell 1 rfl
  have cf := fun i => hs.frozen i
  have cl := hs.row_lt
  have e2 : (B.bs s).extract n s.length = B.bs (s.drop n) := by
    rw [B.extract_bs, B.bs_data]
    congr 1
    exact List.take_of_length_le (by rw [List.length_drop]; omega)
  have h2 := (hs.set 0 (.string (B.bs (s.drop n)))).set 1 (.int .i64 (-n))
  have H2 := Lib.hid h2
  clear h2 hs
  go_enter Tryz.func172, Tryz.ntmps172
  go_wp2
  go_end0
  refine ⟨rfl, ?_⟩
  have := H2.out
  simpa using this

/-- A frame of 132 temporaries, of which 0, 1, 4, 5, 6 are known. -/
def PFrame (v0 v1 v4 v5 v6 : Value) (a : Act) : Prop := a.defers = [] ∧ a.tmps.size = 132 ∧ a.tmps[0]? = some v0 ∧ a.tmps[1]? = some v1 ∧ a.tmps[4]? = some v4 ∧ a.tmps[5]? = some v5 ∧ a.tmps[6]? = some v6

set_option maxRecDepth 100000 in
theorem PFrame.open {v0 v1 v4 v5 v6 : Value} {a : Act} (h : PFrame v0 v1 v4 v5 v6 a) : ∃ u : Nat → Value, a = ⟨#[v0, v1, u 2, u 3, v4, v5, v6, u 7, u 8, u 9, u 10, u 11, u 12, u 13, u 14, u 15, u 16, u 17, u 18, u 19, u 20, u 21, u 22, u 23, u 24, u 25, u 26, u 27, u 28, u 29, u 30, u 31, u 32, u 33, u 34, u 35, u 36, u 37, u 38, u 39, u 40, u 41, u 42, u 43, u 44, u 45, u 46, u 47, u 48, u 49, u 50, u 51, u 52, u 53, u 54, u 55, u 56, u 57, u 58, u 59, u 60, u 61, u 62, u 63, u 64, u 65, u 66, u 67, u 68, u 69, u 70, u 71, u 72, u 73, u 74, u 75, u 76, u 77, u 78, u 79, u 80, u 81, u 82, u 83, u 84, u 85, u 86, u 87, u 88, u 89, u 90, u 91, u 92, u 93, u 94, u 95, u 96, u 97, u 98, u 99, u 100, u 101, u 102, u 103, u 104, u 105, u 106, u 107, u 108, u 109, u 110, u 111, u 112, u 113, u 114, u 115, u 116, u 117, u 118, u 119, u 120, u 121, u 122, u 123, u 124, u 125, u 126, u 127, u 128, u 129, u 130, u 131], []⟩ := by
  obtain ⟨t, d⟩ := a
  obtain ⟨h1, h2, k0, k1, k4, k5, k6⟩ := h
  obtain ⟨l⟩ := t
  have hl : l.length = 132 := h2
  have e := list_range l
  rw [hl] at e
  simp only at h1
  subst h1
  have e0 : l[0]?.getD undef = v0 := by
    have : l[0]? = some v0 := by simpa using k0
    rw [this]; rfl
  have e1 : l[1]?.getD undef = v1 := by
    have : l[1]? = some v1 := by simpa using k1
    rw [this]; rfl
  have e4 : l[4]?.getD undef = v4 := by
    have : l[4]? = some v4 := by simpa using k4
    rw [this]; rfl
  have e5 : l[5]?.getD undef = v5 := by
    have : l[5]? = some v5 := by simpa using k5
    rw [this]; rfl
  have e6 : l[6]?.getD undef = v6 := by
    have : l[6]? = some v6 := by simpa using k6
    rw [this]; rfl
  refine ⟨fun i => l[i]?.getD undef, ?_⟩
  rw [← e0, ← e1, ← e4, ← e5, ← e6]
  have e' : (⟨⟨l⟩, []⟩ : Act) = ⟨((List.range 132).map fun i => l[i]?.getD undef).toArray, []⟩ := by rw [← e]
  exact e'

theorem eq_inls (a : Addr) (n c : Nat) (w : World) : (binOp .eql 89 (.slice (some a) n c) (.slice none 0 0)).run Tryz.prog w = .ok (.bool false) w := by kernel_rfl
theorem neq_inls (a : Addr) (n c : Nat) (w : World) : (binOp .neq 89 (.slice (some a) n c) (.slice none 0 0)).run Tryz.prog w = .ok (.bool true) w := by kernel_rfl
theorem eq_inls_nil (w : World) : (binOp .eql 89 (.slice none 0 0) (.slice none 0 0)).run Tryz.prog w = .ok (.bool true) w := by kernel_rfl

/-- A text without the letters at which an address of another kind begins. -/
def Calm (s : List UInt8) : Prop := ∀ (k : Nat) (c : UInt8), s[k]? = some c → ((c.toNat : Int) == 104) = false ∧ ((c.toNat : Int) == 109) = false ∧ ((c.toNat : Int) == 120) = false ∧ ((c.toNat : Int) == 119) = false

def mailto : List UInt8 := [109, 97, 105, 108, 116, 111, 58]

set_option maxRecDepth 100000 in
set_option maxHeartbeats 4000000 in
theorem autoLinkPlain_w (p : Option Addr) (s : List UInt8) (A I D K : Nat) (h : MailAt s A I D K) (hc : Calm s) (h64 : ∀ k c, s[k]? = some c → k ≠ I → ((c.toNat : Int) == 64) = false) (w : World) (F : HP) (hs : Sat w F) :
    Calls Tryz.prog 124 #[.pointer p, .string (B.bs s)] w fun e w' => ∃ L : SV, e = .returned L.v ∧ L.len = 3 ∧ Sat w' (InlsAt L [.plain (s.take A), .link (mailto ++ (s.take K).drop A) ((s.take K).drop A), .plain (s.drop K)] * F) := by
  have hz : (B.bs s).size = s.length := rfl
  have hPE := fun w F hs => parseAutoEmail_w p s A I D K h w F hs
  have hAl : (s.take A).length = A := by rw [List.length_take]; have := h.ai; have := h.id; have := h.dk; have := h.len; omega
  have hKl : (s.drop K).length + K = s.length := by rw [List.length_drop]; have := h.len; omega
  obtain ⟨pre, hpre⟩ : ∃ x, x = s.take A := ⟨_, rfl⟩
  obtain ⟨post, hpost⟩ : ∃ x, x = s.drop K := ⟨_, rfl⟩
  obtain ⟨mm, hmm⟩ : ∃ x, x = (s.take K).drop A := ⟨_, rfl⟩
  rw [← hpre] at hAl
  rw [← hpost] at hKl
  simp only [← hpre, ← hpost, ← hmm] at hPE ⊢
  have HPE := Lib.hid hPE
  have HPO := Lib.hid hKl
  have HPL := Lib.hid hAl
  have HPOST := Lib.hid hpost
  have hPC : ∀ (k : Nat) (c : UInt8), post[k]? = some c → ((c.toNat : Int) == 104) = false ∧ ((c.toNat : Int) == 109) = false ∧ ((c.toNat : Int) == 120) = false ∧ ((c.toNat : Int) == 119) = false ∧ ((c.toNat : Int) == 64) = false := by
    intro k c hk
    rw [hpost, List.getElem?_drop] at hk
    obtain ⟨n1, n2, n3, n4⟩ := hc _ _ hk
    exact ⟨n1, n2, n3, n4, h64 _ _ hk (by have := h.id; have := h.dk; omega)⟩
  have HPC := Lib.hid hPC
  clear hPE hKl hAl hpre hpost hmm hPC
  have hAK : A < K := by have := h.ai; have := h.id; have := h.dk; omega
  have hK := h.len
  have hI : I < s.length := by have := h.id; have := h.dk; omega
  have hsm := h.small
  have h0 := h.a0
  have HS := Lib.hid hs
  clear hs
  go_enter Tryz.func124, Tryz.ntmps124
  go_wp2
  refine wp_scope_label 0 (fun n a w' => (n = 1 ∧ PFrame (.pointer p) (.string (B.bs s)) (.slice none 0 0) (.pointer (some ⟨w.heap.size, 0, none⟩)) (.slice none 0 0) a ∧ Sat w' (row w.heap.size 275 [.string (B.bs s), .int .i64 0] * F)) ∨
    (n = 0 ∧ ∃ (g cap : Nat) (x1 x2 : Value), PFrame (.pointer p) (.string (B.bs post)) (.slice none 0 0) (.pointer (some ⟨w.heap.size, 0, none⟩)) (.slice (some ⟨g, 0, none⟩) 2 cap) a ∧
      Sat w' (arr 133 1 (.slice (some ⟨g, 0, none⟩) 2 cap) 2 [x1, x2] * (ToksAt [x1, x2] [.plain pre, .link (mailto ++ mm) mm] * F)))) rfl ?_ ?_
  · rintro n a w1 (⟨rfl, hf, s1⟩ | ⟨rfl, g, cap, x1, x2, hf, s1⟩)
    · obtain ⟨u, rfl⟩ := hf.open
      have S1 := Lib.hid s1
      have HC := Lib.hid hc
      have H64 := Lib.hid h64
      clear s1 hc h64 hf HS
      go_wp2
      go_loopw [1, 6, 7] (fun y z a wr => y = .string (B.bs s) ∧ z = .slice none 0 0 ∧ ∃ k : Nat, k ≤ I ∧ a = .int .i64 (k : Int) ∧ w1 = wr) (fun _ _ a _ => s.length - (intOf a).toNat)
      case atStart => exact ⟨rfl, rfl, 0, Nat.zero_le _, rfl, rfl⟩
      case round =>
        obtain ⟨rfl, rfl, k, hk, rfl, rfl⟩ := hrel
        by_cases hlt : k < I
        · obtain ⟨c, hg⟩ : ∃ c, s[k]? = some c := ⟨_, List.getElem?_eq_getElem (by omega)⟩
          have hx : ∀ hh, (B.bs s)[k]'hh = c := fun hh => (List.getElem?_eq_some_iff.1 hg).2
          obtain ⟨n1, n2, n3, n4⟩ := HC.out k _ hg
          have n5 := H64.out k _ hg (by omega)
          clear hg
          go_wp2_with fail
          go_roundw
          case rel => exact ⟨rfl, rfl, k + 1, by omega, by go_num, by first | trivial | rfl⟩
          case measure => simp [intOf]; omega
        · obtain rfl : k = I := by omega
          have hx : ∀ hh, (B.bs s)[k]'hh = 64 := fun hh => (List.getElem?_eq_some_iff.1 h.at_).2
          have HP := Lib.hid (HPE.out w1 _ S1.out)
          go_wp2_with fail
          refine HP.out.mono ?_
          rintro e w2 ⟨d, rfl, s2⟩
          clear HP hx
          obtain ⟨i0, hi0, hz0, hz1, hz2⟩ := info_parts info_Inline
          have he : (B.bs pre).toList.isEmpty = false := by
            rw [Lib.toList_data, B.bs_data]
            cases pre with
            | nil =>
              have := HPL.out
              simp at this
              omega
            | cons => rfl
          obtain ⟨T, hT⟩ : ∃ T, T = TokAt (.iface 141 (.pointer (some ⟨d, 0, none⟩))) (.link (mailto ++ mm) mm) := ⟨_, rfl⟩
          have s2' : Sat w2 (T * (row w.heap.size 275 [.string (B.bs s), .int .i64 0] * F)) := by rw [hT]; exact s2
          have HT := Lib.hid hT
          clear hT s2
          have hz3 : (B.bs post).size = post.length := rfl
          have hB := ((s2'.new (d := w2.heap.size) [.string (B.bs pre)] 138 (by simp)).new (d := w2.heap.size + 1) [.iface 157 (.pointer (some ⟨w2.heap.size, 0, none⟩))] 133 (by simp)).cast (show _ = arr 133 1 (.slice none 0 0) 0 [] * (row (w2.heap.size + 1) 133 [.iface 157 (.pointer (some ⟨w2.heap.size, 0, none⟩))] * (row w2.heap.size 138 [.string (B.bs pre)] * (T * (row w.heap.size 275 [.string (B.bs s), .int .i64 0] * F)))) from by
            rw [arr_nil, emp_star])
          have HB := Lib.hid hB
          clear hB s2'
          go_wp2_with (at_builtin; refine wpList_append_sl rfl (.tmp 42) (.tmp 47) 89 rfl 133 i0 .nilIface 1 16 Tryz.underlying89 hi0 hz0 hz1 hz2 rfl (.slice none 0 0) 0 [] rfl HB.out ⟨w2.heap.size + 1, 0, none⟩ 1 1 [.iface 157 (.pointer (some ⟨w2.heap.size, 0, none⟩))] rfl rfl (news_one (HB.out.swap.cell 0 rfl)) (by intro u hu; simp at hu; rcases hu with rfl; rfl) (by decide) (by decide) (by decide) ?_)
          intro g3 c3 w3 s3 z3
          have hC : Sat _ (arr 133 1 (.slice (some ⟨g3, 0, none⟩) 1 c3) 1 [.iface 157 (.pointer (some ⟨w2.heap.size, 0, none⟩))] * (row w3.heap.size 133 [.iface 141 (.pointer (some ⟨d, 0, none⟩))] * (row w2.heap.size 138 [.string (B.bs pre)] * (T * (row w.heap.size 275 [.string (B.bs s), .int .i64 0] * F))))) := ((s3.drop2).new (d := w3.heap.size) [.iface 141 (.pointer (some ⟨d, 0, none⟩))] 133 (by simp)).swap
          have HC2 := Lib.hid hC
          clear hC s3 z3 HB
          go_wp2_with (at_builtin; refine wpList_append_sl rfl (.tmp 49) (.tmp 52) 89 rfl 133 i0 .nilIface 1 16 Tryz.underlying89 hi0 hz0 hz1 hz2 rfl (.slice (some ⟨g3, 0, none⟩) 1 c3) 1 [.iface 157 (.pointer (some ⟨w2.heap.size, 0, none⟩))] rfl HC2.out ⟨w3.heap.size, 0, none⟩ 1 1 [.iface 141 (.pointer (some ⟨d, 0, none⟩))] rfl rfl (news_one (HC2.out.swap.cell 0 rfl)) (by intro u hu; simp at hu; rcases hu with rfl; rfl) (by decide) (by decide) (by decide) ?_)
          intro g4 c4 w4 s4 z4
          have hD : Sat w4 (row w.heap.size 275 [.string (B.bs s), .int .i64 0] * (arr 133 1 (.slice (some ⟨g4, 0, none⟩) 2 c4) 2 [.iface 157 (.pointer (some ⟨w2.heap.size, 0, none⟩)), .iface 141 (.pointer (some ⟨d, 0, none⟩))] * (row w2.heap.size 138 [.string (B.bs pre)] * (T * F)))) := (s4.drop2).cast (by
            show arr 133 1 (.slice (some ⟨g4, 0, none⟩) 2 c4) 2 [.iface 157 (.pointer (some ⟨w2.heap.size, 0, none⟩)), .iface 141 (.pointer (some ⟨d, 0, none⟩))] * _ = _
            ac_rfl)
          have hSK := vdSkip_w w.heap.size K s w4 _ (by omega) hsm hD
          rw [← HPOST.out, show ((K : Nat) : Int) = (s.length : Int) - (post.length : Int) by have := HPO.out; omega] at hSK
          have HSK := Lib.hid hSK
          have hwr : wrap64 ((s.length : Int) - (post.length : Int)) = (s.length : Int) - (post.length : Int) := wrap64_small (by have := HPO.out; omega) (by omega)
          clear hSK hD s4 z4 HC2
          go_wp2_with fail
          refine HSK.out.mono ?_
          rintro e w5 ⟨rfl, s5⟩
          go_wp2
          refine wp_goto ?_
          refine ⟨rfl, 0, by decide, .inr ⟨rfl, g4, c4, .iface 157 (.pointer (some ⟨w2.heap.size, 0, none⟩)), .iface 141 (.pointer (some ⟨d, 0, none⟩)), ⟨rfl, rfl, rfl, rfl, rfl, rfl, rfl⟩, ?_⟩⟩
          rw [toksAt_cons, toksAt_single, ← HT.out]
          have s6 := s5.drop1.cast (show _ = row w2.heap.size 138 [.string (B.bs pre)] * (arr 133 1 (.slice (some ⟨g4, 0, none⟩) 2 c4) 2 [.iface 157 (.pointer (some ⟨w2.heap.size, 0, none⟩)), .iface 141 (.pointer (some ⟨d, 0, none⟩))] * (T * F)) from by ac_rfl)
          have s7 : Sat _ (TokAt (.iface 157 (.pointer (some ⟨w2.heap.size, 0, none⟩))) (.plain pre) * _) := Sat.ex_mk w2.heap.size (s6.cast (by rw [pur_star rfl]))
          exact s7.cast (by
            generalize TokAt (.iface 157 (.pointer (some ⟨w2.heap.size, 0, none⟩))) (.plain pre) = Y
            ac_rfl)
    · obtain ⟨u, rfl⟩ := hf.open
      have S1 := Lib.hid s1
      have hpl : post.length ≤ 100000000 := by have := HPO.out; omega
      have hz3 : (B.bs post).size = post.length := rfl
      obtain ⟨i0, hi0, hz0, hz1, hz2⟩ := info_parts info_Inline
      have q1 := eq_inls ⟨g, 0, none⟩ 2 cap
      clear s1 hc h64 hf HS HPE
      go_wp2
      go_loopw [1, 6, 7] (fun y z a wr => y = .string (B.bs post) ∧ z = .slice (some ⟨g, 0, none⟩) 2 cap ∧ ∃ k : Nat, k ≤ post.length ∧ a = .int .i64 (k : Int) ∧ w1 = wr) (fun _ _ a _ => post.length - (intOf a).toNat)
      case atStart => exact ⟨rfl, rfl, 0, Nat.zero_le _, rfl, rfl⟩
      case round =>
        obtain ⟨rfl, rfl, k, hk, rfl, rfl⟩ := hrel
        by_cases hlt : k < post.length
        · obtain ⟨c, hg⟩ : ∃ c, post[k]? = some c := ⟨_, List.getElem?_eq_getElem hlt⟩
          have hx : ∀ hh, (B.bs post)[k]'hh = c := fun hh => (List.getElem?_eq_some_iff.1 hg).2
          obtain ⟨n1, n2, n3, n4, n5⟩ := HPC.out k _ hg
          clear hg
          go_wp2_with fail
          go_roundw
          case rel => exact ⟨rfl, rfl, k + 1, by omega, by go_num, by first | trivial | rfl⟩
          case measure => simp [intOf]; omega
        · obtain rfl : k = post.length := by omega
          have hB := ((S1.out.new (d := w1.heap.size) [.string (B.bs post)] 138 (by simp)).new (d := w1.heap.size + 1) [.iface 157 (.pointer (some ⟨w1.heap.size, 0, none⟩))] 133 (by simp)).cast (show _ = arr 133 1 (.slice (some ⟨g, 0, none⟩) 2 cap) 2 [x1, x2] * (row (w1.heap.size + 1) 133 [.iface 157 (.pointer (some ⟨w1.heap.size, 0, none⟩))] * (row w1.heap.size 138 [.string (B.bs post)] * (ToksAt [x1, x2] [.plain pre, .link (mailto ++ mm) mm] * F))) from by ac_rfl)
          have HB := Lib.hid hB
          clear hB
          go_wp2_with (at_builtin; refine wpList_append_sl rfl (.tmp 124) (.tmp 129) 89 rfl 133 i0 .nilIface 1 16 Tryz.underlying89 hi0 hz0 hz1 hz2 rfl (.slice (some ⟨g, 0, none⟩) 2 cap) 2 [x1, x2] rfl HB.out ⟨w1.heap.size + 1, 0, none⟩ 1 1 [.iface 157 (.pointer (some ⟨w1.heap.size, 0, none⟩))] rfl rfl (news_one (HB.out.swap.cell 0 rfl)) (by intro u hu; simp at hu; rcases hu with rfl; rfl) (by decide) (by decide) (by decide) ?_)
          intro g3 c3 w3 s3 z3
          have s4 := s3.drop2
          have hout : Sat w3 (InlsAt ⟨some ⟨g3, 0, none⟩, 3, c3⟩ [.plain pre, .link (mailto ++ mm) mm, .plain post] * F) := by
            refine inlsAt_iff.2 ⟨[x1, x2, .iface 157 (.pointer (some ⟨w1.heap.size, 0, none⟩))], rfl, ?_⟩
            have s7 : Sat _ (TokAt (.iface 157 (.pointer (some ⟨w1.heap.size, 0, none⟩))) (.plain post) * _) := Sat.ex_mk w1.heap.size (s4.swap.cast (by rw [pur_star rfl]))
            have e3 : ToksAt [x1, x2, .iface 157 (.pointer (some ⟨w1.heap.size, 0, none⟩))] [.plain pre, .link (mailto ++ mm) mm, .plain post] = ToksAt [x1, x2] [.plain pre, .link (mailto ++ mm) mm] * TokAt (.iface 157 (.pointer (some ⟨w1.heap.size, 0, none⟩))) (.plain post) := by
              have := toksAt_append [x1, x2] [.iface 157 (.pointer (some ⟨w1.heap.size, 0, none⟩))] [.plain pre, .link (mailto ++ mm) mm] [.plain post] rfl
              rw [toksAt_single] at this
              exact this
            rw [e3]
            exact s7.cast (by
              generalize TokAt (.iface 157 (.pointer (some ⟨w1.heap.size, 0, none⟩))) (.plain post) = Y
              generalize ToksAt [x1, x2] [.plain pre, .link (mailto ++ mm) mm] = Z
              show Y * (arr 133 1 (.slice (some ⟨g3, 0, none⟩) 3 c3) 3 [x1, x2, .iface 157 (.pointer (some ⟨w1.heap.size, 0, none⟩))] * (Z * F)) = arr 133 1 (.slice (some ⟨g3, 0, none⟩) 3 c3) 3 [x1, x2, .iface 157 (.pointer (some ⟨w1.heap.size, 0, none⟩))] * (Z * Y * F)
              ac_rfl)
          have HO := Lib.hid hout
          clear hout s3 s4 z3 HB
          go_wp2
          refine jump_ret ?_
          go_ret
          exact ⟨⟨some ⟨g3, 0, none⟩, 3, c3⟩, rfl, rfl, HO.out⟩
  · intro hpass
    go_wp2
    refine wp_label ?_
    rename_i hk
    refine hk _ _ ?_
    refine hpass 1 _ _ (.inl ⟨rfl, ⟨rfl, rfl, rfl, rfl, rfl, rfl, rfl⟩, ?_⟩)
    exact (HS.out.new (d := w.heap.size) [.string (B.bs s), .int .i64 0] 275 (by simp))

end Go.Proofs.YtcmpcjffmccllaaGreatDoor
