/- Inlines: emit, skip, emph on tokens, autoLinkText without automatic links. -/
import Derived.Test.YtbfmmikllelfeaaGreatDoorG5
import Derived.Test.YtbfmmikllelfeaaGreatDoorSl
import Derived.Test.YtbfmmikllelfeaaGreatDoorSb
import Derived.Deep.RegionLaw
namespace Go.Proofs.YtbfmmikllelfeaaGreatDoor
open Go.RowKit Sl

theorem IsTok.noOpen {v : Value} (h : IsTok v) (w : World) : (Instr.typeAssert v 188 207 true).run Tryz.prog w = .ok (.tuple #[.pointer none, .bool false]) w := by
  obtain ⟨T, d, hT, rfl⟩ := h
  rcases hT with rfl | rfl | rfl | rfl | rfl | rfl | rfl <;> kernel_rfl

theorem IsTok.noEmph {v : Value} (h : IsTok v) (w : World) : (Instr.typeAssert v 188 280 true).run Tryz.prog w = .ok (.tuple #[.pointer none, .bool false]) w := by
  obtain ⟨T, d, hT, rfl⟩ := h
  rcases hT with rfl | rfl | rfl | rfl | rfl | rfl | rfl <;> kernel_rfl

theorem IsTok.one {v : Value} (h : IsTok v) : v.oneCell' = true := by
  obtain ⟨T, d, hT, rfl⟩ := h
  rfl

theorem tokAt_is {w : World} {v : Value} {t : Tok} {F : HP} (h : Sat w (TokAt v t * F)) : IsTok v := by
  cases t with
  | plain s =>
    obtain ⟨d, h⟩ := h.ex
    exact ⟨_, d, .inl rfl, (h.cast (star_assoc _ _ _)).pur.1⟩
  | esc s =>
    obtain ⟨d, h⟩ := h.ex
    exact ⟨_, d, .inr (.inl rfl), (h.cast (star_assoc _ _ _)).pur.1⟩
  | code s =>
    obtain ⟨d, h⟩ := h.ex
    exact ⟨_, d, .inr (.inr (.inl rfl)), (h.cast (star_assoc _ _ _)).pur.1⟩
  | link u t =>
    obtain ⟨x, h⟩ := h.ex
    exact ⟨_, x.1, .inr (.inr (.inr (.inl rfl))), (h.cast (star_assoc _ _ _)).pur.1⟩
  | obj g o => exact (h.cast (star_assoc _ _ _)).pur.1.tok

theorem toksAt_is {w : World} : ∀ {vs : List Value} {ts : List Tok} {F : HP}, Sat w (ToksAt vs ts * F) → ∀ v ∈ vs, IsTok v
  | [], [], _, _, v, hv => by cases hv
  | a :: vs, t :: ts, F, h, v, hv => by
    rw [toksAt_cons] at h
    rcases List.mem_cons.1 hv with rfl | hv
    · exact tokAt_is (h.cast (star_assoc _ _ _))
    · exact toksAt_is (h.cast (show _ = ToksAt vs ts * (TokAt a t * F) from by ac_rfl)) v hv
  | [], _ :: _, _, h, _, _ => (h.pur).1.elim
  | _ :: _, [], _, h, _, _ => (h.pur).1.elim

theorem info_Inline : (Tryz.prog.info? 188).map (fun i => (i.zero, i.size, i.bytes)) = some (some .nilIface, 1, 16) := by kernel_rfl

set_option maxRecDepth 100000 in
set_option maxHeartbeats 1000000 in
theorem skip_w (p : Nat) (i : Int) (x : PSt) (F : HP) (w : World) (hs : Sat w (row p 173 x.cells * F)) :
    Calls Tryz.prog 122 #[.pointer (some ⟨p, 0, none⟩), .int .i64 i] w fun e w' => e = .returned (.tuple #[]) ∧ Sat w' (row p 173 { x with emitted := i }.cells * F) := by
  obtain ⟨f0, f1, f2, f3, f4, f5, f6, f7, f8, f9, f10, f11, fz, hlp⟩ := PSt.facts hs
  clear f0 f1 f2 f3 f4 f5 f6 f7 f9 f10 f11
  go_enter Tryz.func122, Tryz.ntmps122
  go_wp2
  go_end0
  exact ⟨rfl, hs.set 8 _⟩

set_option maxRecDepth 100000 in
set_option maxHeartbeats 2000000 in
theorem emit_w (p i e : Nat) (s : List UInt8) (x : PSt) (vals : List Value) (ts : List Tok) (F : HP) (w : World) (hxs : x.s = B.bs s) (hxe : x.emitted = (e : Int)) (he : e ≤ i) (hi : i ≤ s.length) (_hsl : s.length ≤ 1000000000) (hv : vals.length ≤ 1000000000) (hl : x.list.len = vals.length)
    (hs : Sat w (row p 173 x.cells * (arr 188 1 x.list.v x.list.len vals * (ToksAt vals ts * F)))) :
    Calls Tryz.prog 121 #[.pointer (some ⟨p, 0, none⟩), .int .i64 i] w fun e' w' => e' = .returned (.tuple #[]) ∧ ∃ (L : SV) (vals' : List Value), L.len = vals'.length ∧ vals'.length ≤ vals.length + 1 ∧
      Sat w' (row p 173 { x with emitted := (i : Int), list := L }.cells * (arr 188 1 L.v L.len vals' * (ToksAt vals' (ts ++ flush ((s.take i).drop e)) * F))) := by
  obtain ⟨f0, f1, f2, f3, f4, f5, f6, f7, f8, f9, f10, f11, fz, hlp⟩ := PSt.facts hs
  rw [hxe] at f8
  rw [hxs] at f7
  clear f0 f1 f2 f3 f4 f5 f6 f10 f11
  by_cases hlt : e < i
  · obtain ⟨i0, hi0, hz0, hz1, hz2⟩ := info_parts info_Inline
    have hcut : (B.bs s).extract e i = B.bs ((s.take i).drop e) := by rw [B.extract_bs, B.bs_data, List.drop_take]
    have hz : (B.bs s).size = s.length := rfl
    have h1 := (hs.new (d := w.heap.size) [.string (B.bs ((s.take i).drop e))] 210 (by simp)).new (d := w.heap.size + 1) [.iface 218 (.pointer (some ⟨w.heap.size, 0, none⟩))] 188 (by simp)
    have hA := h1.cast (show _ = arr 188 1 x.list.v x.list.len vals * (row (w.heap.size + 1) 188 [.iface 218 (.pointer (some ⟨w.heap.size, 0, none⟩))] * (row p 173 x.cells * (row w.heap.size 210 [.string (B.bs ((s.take i).drop e))] * (ToksAt vals ts * F)))) from by ac_rfl)
    have HA := Lib.hid hA
    have hvl : x.list.len ≤ 1000000000 := by omega
    have HL := Lib.hid hl
    have hlen := toksAt_len (hs.cast (show _ = ToksAt vals ts * (row p 173 x.cells * (arr 188 1 x.list.v x.list.len vals * F)) from by ac_rfl))
    clear hA h1 hs hl
    have hfl : flush ((s.take i).drop e) = [.plain ((s.take i).drop e)] := by
      unfold flush
      rw [if_neg]
      intro h
      have := congrArg List.length h
      simp only [List.length_drop, List.length_take, List.length_nil] at this
      omega
    have fin : ∀ g7 c7 w7, Sat w7 (arr 188 1 (.slice (some ⟨g7, 0, none⟩) (x.list.len + 1) c7) (x.list.len + 1) (vals ++ [.iface 218 (.pointer (some ⟨w.heap.size, 0, none⟩))]) * (row (w.heap.size + 1) 188 [.iface 218 (.pointer (some ⟨w.heap.size, 0, none⟩))] * (row p 173 x.cells * (row w.heap.size 210 [.string (B.bs ((s.take i).drop e))] * (ToksAt vals ts * F))))) →
        ∃ (L : SV) (vals' : List Value), L.len = vals'.length ∧ vals'.length ≤ vals.length + 1 ∧
          Sat (w7.setCell ⟨p, 9, none⟩ (.slice (some ⟨g7, 0, none⟩) (x.list.len + 1) c7)) (row p 173 { x with list := L }.cells * (arr 188 1 L.v L.len vals' * (ToksAt vals' (ts ++ flush ((s.take i).drop e)) * F))) := by
      intro g7 c7 w7 s7
      refine ⟨⟨some ⟨g7, 0, none⟩, x.list.len + 1, c7⟩, vals ++ [.iface 218 (.pointer (some ⟨w.heap.size, 0, none⟩))], by simp [HL.out], by simp, ?_⟩
      have s8 := (s7.third.set 9 (.slice (some ⟨g7, 0, none⟩) (x.list.len + 1) c7))
      rw [hfl, toksAt_append _ _ _ _ hlen, toksAt_single]
      have s9 := s8.cast (show _ = row (w.heap.size + 1) 188 [.iface 218 (.pointer (some ⟨w.heap.size, 0, none⟩))] * (row w.heap.size 210 [.string (B.bs ((s.take i).drop e))] * (row p 173 (x.cells.set 9 (.slice (some ⟨g7, 0, none⟩) (x.list.len + 1) c7)) * (arr 188 1 (.slice (some ⟨g7, 0, none⟩) (x.list.len + 1) c7) (x.list.len + 1) (vals ++ [.iface 218 (.pointer (some ⟨w.heap.size, 0, none⟩))]) * (ToksAt vals ts * F)))) from by ac_rfl)
      have s10 : Sat _ (TokAt (.iface 218 (.pointer (some ⟨w.heap.size, 0, none⟩))) (.plain ((s.take i).drop e)) * _) := Sat.ex_mk w.heap.size (s9.drop1.cast (by rw [pur_star rfl]))
      exact s10.cast (by
        generalize TokAt (.iface 218 (.pointer (some ⟨w.heap.size, 0, none⟩))) (.plain ((s.take i).drop e)) = H
        show H * (row p 173 { x with list := ⟨some ⟨g7, 0, none⟩, x.list.len + 1, c7⟩ }.cells * (arr 188 1 (.slice (some ⟨g7, 0, none⟩) (x.list.len + 1) c7) (x.list.len + 1) (vals ++ [.iface 218 (.pointer (some ⟨w.heap.size, 0, none⟩))]) * (ToksAt vals ts * F))) = _
        ac_rfl)
    have FIN := Lib.hid fin
    clear fin hlen hxs hxe hfl hv
    go_enter Tryz.func121, Tryz.ntmps121
    go_upto_region 1 with fail
    go_cut [] (fun wx => ∃ (L : SV) (vals' : List Value), L.len = vals'.length ∧ vals'.length ≤ vals.length + 1 ∧
      Sat wx (row p 173 { x with list := L }.cells * (arr 188 1 L.v L.len vals' * (ToksAt vals' (ts ++ flush ((s.take i).drop e)) * F))))
    case first =>
      go_region_law (refine step_append_sl (by rfl) (.tmp 14) (.tmp 28) 119 (by rfl) 188 i0 .nilIface 1 16 Tryz.underlying119 hi0 hz0 hz1 hz2 rfl x.list.v x.list.len vals (by rfl) HA.out.drew ⟨w.heap.size + 1, 0, none⟩ 1 1 [.iface 218 (.pointer (some ⟨w.heap.size, 0, none⟩))] (by rfl) rfl (news_one (HA.out.drew.swap.cell 0 rfl)) (by intro u hu; simp at hu; rcases hu with rfl; rfl) (by unfold maxLen; omega) (by omega) (by decide) ?_; intro g7 c7 w7 s7 z7; have k9 : w7.cell? ⟨p, 9, none⟩ = some x.list.v := s7.third.cell 9 rfl; have kf := fun i => s7.third.frozen i)
      all_goals
        go_wp2
        go_meet
        exact FIN.out _ _ _ s7
    case rest =>
      obtain ⟨L, vals', q1, q2, s9⟩ := hcut
      obtain ⟨f0, f1, f2, f3, f4, f5, f6, f7, f8, f9, f10, f11, fz, hlp⟩ := PSt.facts s9
      clear f0 f1 f2 f3 f4 f5 f6 f7 f9 f10 f11
      go_wp2
      go_end0
      exact ⟨rfl, L, vals', q1, q2, s9.set 8 _⟩
  · obtain rfl : e = i := by omega
    go_enter Tryz.func121, Tryz.ntmps121
    go_wp2
    go_end0
    refine ⟨rfl, x.list, vals, hl, by omega, ?_⟩
    rw [show flush ((s.take e).drop e) = [] from by rw [List.drop_eq_nil_of_le (by rw [List.length_take]; omega)]; rfl, List.append_nil, ← hxe]
    exact hs

set_option maxRecDepth 100000 in
set_option maxHeartbeats 1000000 in
theorem noAuto_w (p pb : Nat) (L : SV) (x : PSt) (oc : List Value) (F : HP) (w : World) (hx : x.parser = some ⟨pb, 0, none⟩) (ho : oc[3]? = some (.bool false)) (hs : Sat w (row p 173 x.cells * (row pb 105 oc * F))) :
    Calls Tryz.prog 127 #[.pointer (some ⟨p, 0, none⟩), L.v] w fun e w' => e = .returned L.v ∧ w = w' := by
  obtain ⟨f0, f1, f2, f3, f4, f5, f6, f7, f8, f9, f10, f11, fz, hlp⟩ := PSt.facts hs
  have c3 : w.cell? ⟨pb, 3, none⟩ = some (.bool false) := hs.swap.cell 3 ho
  rw [hx] at f0
  clear f1 f2 f3 f4 f5 f6 f7 f8 f9 f10 f11
  unfold SV.v
  go_enter Tryz.func127, Tryz.ntmps127
  go_wp2
  go_ret
  exact ⟨rfl, rfl⟩

end Go.Proofs.YtbfmmikllelfeaaGreatDoor

/- Inlines: emph and autoLinkText where only tokens are. -/
namespace Go.Proofs.YtbfmmikllelfeaaGreatDoor
open Go.RowKit Sl

theorem toksAt_one {w : World} {vs : List Value} {ts : List Tok} {F : HP} (h : Sat w (ToksAt vs ts * F)) : ∀ (k : Nat) (v : Value), vs[k]? = some v → IsTok v := fun _ v hk => toksAt_is h v (List.mem_of_getElem? hk)

theorem set_same {l : List Value} {k : Nat} {v : Value} (h : l[k]? = some v) : l.set k v = l := by
  obtain ⟨hk, rfl⟩ := List.getElem?_eq_some_iff.1 h
  exact List.set_getElem_self hk

theorem info_Inlines : (Tryz.prog.info? 119).map (fun i => (i.zero, i.size, i.bytes)) = some (some (.slice none 0 0), 1, 24) := by kernel_rfl

/-- A frame of 436 temporaries, of which 2, 4, 10 are known. -/
def EFrame (v2 v4 v10 : Value) (a : Act) : Prop := a.defers = [] ∧ a.tmps.size = 436 ∧ a.tmps[2]? = some v2 ∧ a.tmps[4]? = some v4 ∧ a.tmps[10]? = some v10

set_option maxRecDepth 100000 in
theorem EFrame.open {v2 v4 v10 : Value} {a : Act} (h : EFrame v2 v4 v10 a) : ∃ u : Nat → Value, a = ⟨#[u 0, u 1, v2, u 3, v4, u 5, u 6, u 7, u 8, u 9, v10, u 11, u 12, u 13, u 14, u 15, u 16, u 17, u 18, u 19, u 20, u 21, u 22, u 23, u 24, u 25, u 26, u 27, u 28, u 29, u 30, u 31, u 32, u 33, u 34, u 35, u 36, u 37, u 38, u 39, u 40, u 41, u 42, u 43, u 44, u 45, u 46, u 47, u 48, u 49, u 50, u 51, u 52, u 53, u 54, u 55, u 56, u 57, u 58, u 59, u 60, u 61, u 62, u 63, u 64, u 65, u 66, u 67, u 68, u 69, u 70, u 71, u 72, u 73, u 74, u 75, u 76, u 77, u 78, u 79, u 80, u 81, u 82, u 83, u 84, u 85, u 86, u 87, u 88, u 89, u 90, u 91, u 92, u 93, u 94, u 95, u 96, u 97, u 98, u 99, u 100, u 101, u 102, u 103, u 104, u 105, u 106, u 107, u 108, u 109, u 110, u 111, u 112, u 113, u 114, u 115, u 116, u 117, u 118, u 119, u 120, u 121, u 122, u 123, u 124, u 125, u 126, u 127, u 128, u 129, u 130, u 131, u 132, u 133, u 134, u 135, u 136, u 137, u 138, u 139, u 140, u 141, u 142, u 143, u 144, u 145, u 146, u 147, u 148, u 149, u 150, u 151, u 152, u 153, u 154, u 155, u 156, u 157, u 158, u 159, u 160, u 161, u 162, u 163, u 164, u 165, u 166, u 167, u 168, u 169, u 170, u 171, u 172, u 173, u 174, u 175, u 176, u 177, u 178, u 179, u 180, u 181, u 182, u 183, u 184, u 185, u 186, u 187, u 188, u 189, u 190, u 191, u 192, u 193, u 194, u 195, u 196, u 197, u 198, u 199, u 200, u 201, u 202, u 203, u 204, u 205, u 206, u 207, u 208, u 209, u 210, u 211, u 212, u 213, u 214, u 215, u 216, u 217, u 218, u 219, u 220, u 221, u 222, u 223, u 224, u 225, u 226, u 227, u 228, u 229, u 230, u 231, u 232, u 233, u 234, u 235, u 236, u 237, u 238, u 239, u 240, u 241, u 242, u 243, u 244, u 245, u 246, u 247, u 248, u 249, u 250, u 251, u 252, u 253, u 254, u 255, u 256, u 257, u 258, u 259, u 260, u 261, u 262, u 263, u 264, u 265, u 266, u 267, u 268, u 269, u 270, u 271, u 272, u 273, u 274, u 275, u 276, u 277, u 278, u 279, u 280, u 281, u 282, u 283, u 284, u 285, u 286, u 287, u 288, u 289, u 290, u 291, u 292, u 293, u 294, u 295, u 296, u 297, u 298, u 299, u 300, u 301, u 302, u 303, u 304, u 305, u 306, u 307, u 308, u 309, u 310, u 311, u 312, u 313, u 314, u 315, u 316, u 317, u 318, u 319, u 320, u 321, u 322, u 323, u 324, u 325, u 326, u 327, u 328, u 329, u 330, u 331, u 332, u 333, u 334, u 335, u 336, u 337, u 338, u 339, u 340, u 341, u 342, u 343, u 344, u 345, u 346, u 347, u 348, u 349, u 350, u 351, u 352, u 353, u 354, u 355, u 356, u 357, u 358, u 359, u 360, u 361, u 362, u 363, u 364, u 365, u 366, u 367, u 368, u 369, u 370, u 371, u 372, u 373, u 374, u 375, u 376, u 377, u 378, u 379, u 380, u 381, u 382, u 383, u 384, u 385, u 386, u 387, u 388, u 389, u 390, u 391, u 392, u 393, u 394, u 395, u 396, u 397, u 398, u 399, u 400, u 401, u 402, u 403, u 404, u 405, u 406, u 407, u 408, u 409, u 410, u 411, u 412, u 413, u 414, u 415, u 416, u 417, u 418, u 419, u 420, u 421, u 422, u 423, u 424, u 425, u 426, u 427, u 428, u 429, u 430, u 431, u 432, u 433, u 434, u 435], []⟩ := by
  obtain ⟨t, d⟩ := a
  obtain ⟨h1, h2, k2, k4, k10⟩ := h
  obtain ⟨l⟩ := t
  have hl : l.length = 436 := h2
  have e := list_range l
  rw [hl] at e
  simp only at h1
  subst h1
  have e2 : l[2]?.getD undef = v2 := by
    have : l[2]? = some v2 := by simpa using k2
    rw [this]; rfl
  have e4 : l[4]?.getD undef = v4 := by
    have : l[4]? = some v4 := by simpa using k4
    rw [this]; rfl
  have e10 : l[10]?.getD undef = v10 := by
    have : l[10]? = some v10 := by simpa using k10
    rw [this]; rfl
  refine ⟨fun i => l[i]?.getD undef, ?_⟩
  rw [← e2, ← e4, ← e10]
  have e' : (⟨⟨l⟩, []⟩ : Act) = ⟨((List.range 436).map fun i => l[i]?.getD undef).toArray, []⟩ := by rw [← e]
  exact e'

set_option maxRecDepth 100000 in
set_option maxHeartbeats 2000000 in
theorem emph_w (p : Option Addr) (g cap : Nat) (vals junk : List Value) (ts : List Tok) (F : HP) (w : World) (hcap : cap = (vals ++ junk).length) (hv : vals.length ≤ 1000000000)
    (hs : Sat w (row g 188 (vals ++ junk) * (ToksAt vals ts * F))) :
    Calls Tryz.prog 125 #[.pointer p, .slice (some ⟨g, 0, none⟩) 0 cap, .slice (some ⟨g, 0, none⟩) vals.length cap] w fun e w' => e = .returned (.slice (some ⟨g, 0, none⟩) vals.length cap) ∧ Sat w' (row g 188 (vals ++ junk) * (ToksAt vals ts * F)) := by
  have htok := toksAt_one hs.swap
  obtain ⟨i0, hi0, hz0, hz1, hz2⟩ := info_parts info_Inline
  obtain ⟨n, hn⟩ : ∃ n, n = vals.length := ⟨_, rfl⟩
  have hcap2 : n ≤ cap := by rw [hcap, List.length_append]; omega
  have hget : ∀ k, k < n → ∃ v, vals[k]? = some v ∧ (vals ++ junk)[k]? = some v ∧ IsTok v := fun k hk => by
    have hk' : k < vals.length := by omega
    refine ⟨vals[k], by simp [hk'], by rw [List.getElem?_append_left hk']; simp [hk'], htok k _ (by simp [hk'])⟩
  have HG := Lib.hid hget
  have HC := Lib.hid hcap
  have hn2 : n ≤ 1000000000 := by omega
  rw [← hn]
  generalize hL : vals ++ junk = L at *
  have h1 := hs.new (d := w.heap.size) [.slice (some ⟨g, 0, none⟩) 0 cap] 119 rfl
  clear hget htok hcap hs hL hv hn
  go_enter Tryz.func125, Tryz.ntmps125
  go_wp2
  go_step3
  go_wp2
  refine wp_label ?_
  rename_i hk
  refine hk _ _ ?_
  clear hk
  have H1 := Lib.hid (fun o => (h1.alloc o).right)
  go_wp2
  refine wp_loop (fun a wr => ∃ k : Nat, k ≤ n ∧ EFrame (.slice (some ⟨g, 0, none⟩) n cap) (.pointer (some ⟨w.heap.size, 0, none⟩)) (.int .i64 k) a ∧ Sat wr (row w.heap.size 119 [.slice (some ⟨g, 0, none⟩) k cap] * (row g 188 L * (ToksAt vals ts * F))))
    (fun a _ => n - (intOf (a.tmps.getD 10 undef)).toNat) ⟨0, Nat.zero_le _, ⟨rfl, rfl, rfl, rfl, rfl⟩, H1.out _⟩ ?_
  rintro a wr ⟨k, hk, ha, h⟩
  clear H1
  obtain ⟨u, rfl⟩ := ha.open
  clear ha
  have c0 : wr.cell? ⟨w.heap.size, 0, none⟩ = some (.slice (some ⟨g, 0, none⟩) k cap) := h.cell 0 rfl
  by_cases hlt : k < n
  · obtain ⟨v, hv1, hv2, hv3⟩ := HG.out k hlt
    have ck : wr.cell? ⟨g, k, none⟩ = some v := h.swap.cell k hv2
    have no := hv3.noOpen
    have ne := hv3.noEmph
    obtain ⟨T, d, _, rfl⟩ := id hv3
    have hA := (h.new (d := wr.heap.size) [.iface T (.pointer (some ⟨d, 0, none⟩))] 188 rfl).cast (show _ = row g 188 L * (row wr.heap.size 188 [.iface T (.pointer (some ⟨d, 0, none⟩))] * (row w.heap.size 119 [.slice (some ⟨g, 0, none⟩) k cap] * (ToksAt vals ts * F))) from by ac_rfl)
    have hbl := h.row_lt
    have hgl := h.swap.row_lt
    have HA := Lib.hid hA
    have HV := Lib.hid (set_same hv2)
    have hv4 := hv3.one
    have hkc : k < cap := by omega
    have fin : ∀ w7, Sat w7 (row g 188 (L.set k (.iface T (.pointer (some ⟨d, 0, none⟩)))) * (row wr.heap.size 188 [.iface T (.pointer (some ⟨d, 0, none⟩))] * (row w.heap.size 119 [.slice (some ⟨g, 0, none⟩) k cap] * (ToksAt vals ts * F)))) →
        Sat (w7.setCell ⟨w.heap.size, 0, none⟩ (.slice (some ⟨g, 0, none⟩) (k + 1) cap)) (row w.heap.size 119 [.slice (some ⟨g, 0, none⟩) (k + 1) cap] * (row g 188 L * (ToksAt vals ts * F))) := fun w7 s7 => by
      rw [HV.out] at s7
      exact ((s7.third.set 0 (.slice (some ⟨g, 0, none⟩) (k + 1) cap)).cast (show _ = row wr.heap.size 188 [.iface T (.pointer (some ⟨d, 0, none⟩))] * (row w.heap.size 119 [.slice (some ⟨g, 0, none⟩) (k + 1) cap] * (row g 188 L * (ToksAt vals ts * F))) from by
        rw [show ([.slice (some ⟨g, 0, none⟩) k cap] : List Value).set 0 (.slice (some ⟨g, 0, none⟩) (k + 1) cap) = [.slice (some ⟨g, 0, none⟩) (k + 1) cap] from rfl]; ac_rfl)).drop1
    have FIN := Lib.hid fin
    clear hA h hv1 hv2 hv3 fin
    go_wp2_with fail
    go_region_law (refine step_append_into (by rfl) (.tmp 55) (.tmp 60) 119 (by rfl) 188 i0 Tryz.underlying119 hi0 hz1 g k cap L (by rfl) HA.out.drew HC.out hkc ⟨wr.heap.size, 0, none⟩ 1 (.iface T (.pointer (some ⟨d, 0, none⟩))) (by rfl) (HA.out.drew.swap.cell 0 rfl) hv4 ?_; intro w7 s7 z7; have k0 : w7.cell? ⟨w.heap.size, 0, none⟩ = some (.slice (some ⟨g, 0, none⟩) k cap) := s7.third.cell 0 rfl; have kf := fun i => s7.third.frozen i)
    all_goals
      go_wp2
      refine ⟨⟨k + 1, by omega, ⟨rfl, rfl, rfl, rfl, rfl⟩, FIN.out _ s7⟩, ?_⟩
      show n - ((k : Int) + 1).toNat < n - (k : Int).toNat
      omega
  · obtain rfl : k = n := by omega
    go_wp2
    rw [Exit.noGoto_ret]
    go_ret
    exact ⟨rfl, h.drop1⟩

end Go.Proofs.YtbfmmikllelfeaaGreatDoor
