/- Inlines: emit, skip, emph on tokens, autoLinkText without automatic links. -/
import Derived.Test.YtmdabdpghcjplaaGreatDoorG5
import Derived.Test.YtmdabdpghcjplaaGreatDoorAp
import Derived.Test.YtmdabdpghcjplaaGreatDoorAr
import Derived.Test.YtmdabdpghcjplaaGreatDoorI2
import Derived.Deep.RegionLaw
namespace Go.Proofs.YtmdabdpghcjplaaGreatDoor
open Go.RowKit Sl

/-- A value that is a token's object. -/
def IsTok (v : Value) : Prop := ∃ (T : TypeId) (d : Nat), (T = 157 ∨ T = 177 ∨ T = 183) ∧ v = .iface T (.pointer (some ⟨d, 0, none⟩))

theorem IsTok.noOpen {v : Value} (h : IsTok v) (w : World) : (Instr.typeAssert v 133 135 true).run Tryz.prog w = .ok (.tuple #[.pointer none, .bool false]) w := by
  obtain ⟨T, d, hT, rfl⟩ := h
  rcases hT with rfl | rfl | rfl <;> kernel_rfl

theorem IsTok.noEmph {v : Value} (h : IsTok v) (w : World) : (Instr.typeAssert v 133 191 true).run Tryz.prog w = .ok (.tuple #[.pointer none, .bool false]) w := by
  obtain ⟨T, d, hT, rfl⟩ := h
  rcases hT with rfl | rfl | rfl <;> kernel_rfl

theorem IsTok.one {v : Value} (h : IsTok v) : v.oneCell' = true := by
  obtain ⟨T, d, hT, rfl⟩ := h
  rfl

theorem tokAt_is {w : World} {v : Value} {t : Tok} {F : HP} (h : Sat w (TokAt v t * F)) : IsTok v := by
  cases t with
  | plain s =>
    obtain ⟨d, h⟩ := h.ex
    exact ⟨_, d, .inl rfl, (h.cast (star_assoc _ _ _)).pur.1⟩
  | esc s =>
    obtain ⟨d, h⟩ := h.ex
    exact ⟨_, d, .inr (.inl rfl), (h.cast (star_assoc _ _ _)).pur.1⟩
  | code s =>
    obtain ⟨d, h⟩ := h.ex
    exact ⟨_, d, .inr (.inr rfl), (h.cast (star_assoc _ _ _)).pur.1⟩

theorem toksAt_is {w : World} : ∀ {vs : List Value} {ts : List Tok} {F : HP}, Sat w (ToksAt vs ts * F) → ∀ v ∈ vs, IsTok v
  | [], [], _, _, v, hv => by cases hv
  | a :: vs, t :: ts, F, h, v, hv => by
    rw [toksAt_cons] at h
    rcases List.mem_cons.1 hv with rfl | hv
    · exact tokAt_is (h.cast (star_assoc _ _ _))
    · exact toksAt_is (h.cast (show _ = ToksAt vs ts * (TokAt a t * F) from by ac_rfl)) v hv
  | [], _ :: _, _, h, _, _ => (h.pur).1.elim
  | _ :: _, [], _, h, _, _ => (h.pur).1.elim

theorem info_Inline : (Tryz.prog.info? 133).map (fun i => (i.zero, i.size, i.bytes)) = some (some .nilIface, 1, 16) := by kernel_rfl

set_option maxRecDepth 100000 in
set_option maxHeartbeats 1000000 in
theorem skip_w (p : Nat) (i : Int) (x : PSt) (F : HP) (w : World) (hs : Sat w (row p 96 x.cells * F)) :
    Calls Tryz.prog 80 #[.pointer (some ⟨p, 0, none⟩), .int .i64 i] w fun e w' => e = .returned (.tuple #[]) ∧ Sat w' (row p 96 { x with emitted := i }.cells * F) := by
  obtain ⟨f0, f1, f2, f3, f4, f5, f6, f7, f8, f9, f10, f11, fz, hlp⟩ := PSt.facts hs
  clear f0 f1 f2 f3 f4 f5 f6 f7 f9 f10 f11
  go_enter Tryz.func80, Tryz.ntmps80
  go_wp2
  go_end0
  exact ⟨rfl, hs.set 8 _⟩

set_option maxRecDepth 100000 in
set_option maxHeartbeats 2000000 in
theorem emit_w (p i e : Nat) (s : List UInt8) (x : PSt) (vals : List Value) (ts : List Tok) (F : HP) (w : World) (hxs : x.s = B.bs s) (hxe : x.emitted = (e : Int)) (he : e ≤ i) (hi : i ≤ s.length) (_hsl : s.length ≤ 1000000000) (hv : vals.length ≤ 1000000000) (hl : x.list.len = vals.length)
    (hs : Sat w (row p 96 x.cells * (arr 133 1 x.list.v x.list.len vals * (ToksAt vals ts * F)))) :
    Calls Tryz.prog 79 #[.pointer (some ⟨p, 0, none⟩), .int .i64 i] w fun e' w' => e' = .returned (.tuple #[]) ∧ ∃ (L : SV) (vals' : List Value), L.len = vals'.length ∧ vals'.length ≤ vals.length + 1 ∧
      Sat w' (row p 96 { x with emitted := (i : Int), list := L }.cells * (arr 133 1 L.v L.len vals' * (ToksAt vals' (ts ++ flush ((s.take i).drop e)) * F))) := by
  obtain ⟨f0, f1, f2, f3, f4, f5, f6, f7, f8, f9, f10, f11, fz, hlp⟩ := PSt.facts hs
  rw [hxe] at f8
  rw [hxs] at f7
  clear f0 f1 f2 f3 f4 f5 f6 f10 f11
  by_cases hlt : e < i
  · obtain ⟨i0, hi0, hz0, hz1, hz2⟩ := info_parts info_Inline
    have hcut : (B.bs s).extract e i = B.bs ((s.take i).drop e) := by rw [B.extract_bs, B.bs_data, List.drop_take]
    have hz : (B.bs s).size = s.length := rfl
    have h1 := (hs.new (d := w.heap.size) [.string (B.bs ((s.take i).drop e))] 138 (by simp)).new (d := w.heap.size + 1) [.iface 157 (.pointer (some ⟨w.heap.size, 0, none⟩))] 133 (by simp)
    have hA := h1.cast (show _ = arr 133 1 x.list.v x.list.len vals * (row (w.heap.size + 1) 133 [.iface 157 (.pointer (some ⟨w.heap.size, 0, none⟩))] * (row p 96 x.cells * (row w.heap.size 138 [.string (B.bs ((s.take i).drop e))] * (ToksAt vals ts * F)))) from by ac_rfl)
    have HA := Lib.hid hA
    have hvl : x.list.len ≤ 1000000000 := by omega
    have HL := Lib.hid hl
    have hlen := toksAt_len (hs.cast (show _ = ToksAt vals ts * (row p 96 x.cells * (arr 133 1 x.list.v x.list.len vals * F)) from by ac_rfl))
    clear hA h1 hs hl
    have hfl : flush ((s.take i).drop e) = [.plain ((s.take i).drop e)] := by
      unfold flush
      rw [if_neg]
      intro h
      have := congrArg List.length h
      simp only [List.length_drop, List.length_take, List.length_nil] at this
      omega
    have fin : ∀ g7 c7 w7, Sat w7 (arr 133 1 (.slice (some ⟨g7, 0, none⟩) (x.list.len + 1) c7) (x.list.len + 1) (vals ++ [.iface 157 (.pointer (some ⟨w.heap.size, 0, none⟩))]) * (row (w.heap.size + 1) 133 [.iface 157 (.pointer (some ⟨w.heap.size, 0, none⟩))] * (row p 96 x.cells * (row w.heap.size 138 [.string (B.bs ((s.take i).drop e))] * (ToksAt vals ts * F))))) →
        ∃ (L : SV) (vals' : List Value), L.len = vals'.length ∧ vals'.length ≤ vals.length + 1 ∧
          Sat (w7.setCell ⟨p, 9, none⟩ (.slice (some ⟨g7, 0, none⟩) (x.list.len + 1) c7)) (row p 96 { x with list := L }.cells * (arr 133 1 L.v L.len vals' * (ToksAt vals' (ts ++ flush ((s.take i).drop e)) * F))) := by
      intro g7 c7 w7 s7
      refine ⟨⟨some ⟨g7, 0, none⟩, x.list.len + 1, c7⟩, vals ++ [.iface 157 (.pointer (some ⟨w.heap.size, 0, none⟩))], by simp [HL.out], by simp, ?_⟩
      have s8 := (s7.third.set 9 (.slice (some ⟨g7, 0, none⟩) (x.list.len + 1) c7))
      rw [hfl, toksAt_append _ _ _ _ hlen, toksAt_single]
      have s9 := s8.cast (show _ = row (w.heap.size + 1) 133 [.iface 157 (.pointer (some ⟨w.heap.size, 0, none⟩))] * (row w.heap.size 138 [.string (B.bs ((s.take i).drop e))] * (row p 96 (x.cells.set 9 (.slice (some ⟨g7, 0, none⟩) (x.list.len + 1) c7)) * (arr 133 1 (.slice (some ⟨g7, 0, none⟩) (x.list.len + 1) c7) (x.list.len + 1) (vals ++ [.iface 157 (.pointer (some ⟨w.heap.size, 0, none⟩))]) * (ToksAt vals ts * F)))) from by ac_rfl)
      have s10 : Sat _ (TokAt (.iface 157 (.pointer (some ⟨w.heap.size, 0, none⟩))) (.plain ((s.take i).drop e)) * _) := Sat.ex_mk w.heap.size (s9.drop1.cast (by rw [pur_star rfl]))
      exact s10.cast (by
        generalize TokAt (.iface 157 (.pointer (some ⟨w.heap.size, 0, none⟩))) (.plain ((s.take i).drop e)) = H
        show H * (row p 96 { x with list := ⟨some ⟨g7, 0, none⟩, x.list.len + 1, c7⟩ }.cells * (arr 133 1 (.slice (some ⟨g7, 0, none⟩) (x.list.len + 1) c7) (x.list.len + 1) (vals ++ [.iface 157 (.pointer (some ⟨w.heap.size, 0, none⟩))]) * (ToksAt vals ts * F))) = _
        ac_rfl)
    have FIN := Lib.hid fin
    clear fin hlen hxs hxe hfl hv
    go_enter Tryz.func79, Tryz.ntmps79
    go_upto_region 1 with fail
    go_cut [] (fun wx => ∃ (L : SV) (vals' : List Value), L.len = vals'.length ∧ vals'.length ≤ vals.length + 1 ∧
      Sat wx (row p 96 { x with list := L }.cells * (arr 133 1 L.v L.len vals' * (ToksAt vals' (ts ++ flush ((s.take i).drop e)) * F))))
    case first =>
      go_region_law (refine step_append_sl (by rfl) (.tmp 14) (.tmp 28) 89 (by rfl) 133 i0 .nilIface 1 16 Tryz.underlying89 hi0 hz0 hz1 hz2 rfl x.list.v x.list.len vals (by rfl) HA.out.drew ⟨w.heap.size + 1, 0, none⟩ 1 1 [.iface 157 (.pointer (some ⟨w.heap.size, 0, none⟩))] (by rfl) rfl (news_one (HA.out.drew.swap.cell 0 rfl)) (by intro u hu; simp at hu; rcases hu with rfl; rfl) (by unfold maxLen; omega) (by omega) (by decide) ?_; intro g7 c7 w7 s7 z7; have k9 : w7.cell? ⟨p, 9, none⟩ = some x.list.v := s7.third.cell 9 rfl; have kf := fun i => s7.third.frozen i)
      all_goals
        go_wp2
        go_meet
        exact FIN.out _ _ _ s7
    case rest =>
      obtain ⟨L, vals', q1, q2, s9⟩ := hcut
      obtain ⟨f0, f1, f2, f3, f4, f5, f6, f7, f8, f9, f10, f11, fz, hlp⟩ := PSt.facts s9
      clear f0 f1 f2 f3 f4 f5 f6 f7 f9 f10 f11
      go_wp2
      go_end0
      exact ⟨rfl, L, vals', q1, q2, s9.set 8 _⟩
  · obtain rfl : e = i := by omega
    go_enter Tryz.func79, Tryz.ntmps79
    go_wp2
    go_end0
    refine ⟨rfl, x.list, vals, hl, by omega, ?_⟩
    rw [show flush ((s.take e).drop e) = [] from by rw [List.drop_eq_nil_of_le (by rw [List.length_take]; omega)]; rfl, List.append_nil, ← hxe]
    exact hs

set_option maxRecDepth 100000 in
set_option maxHeartbeats 1000000 in
theorem noAuto_w (p pb : Nat) (L : SV) (x : PSt) (oc : List Value) (F : HP) (w : World) (hx : x.parser = some ⟨pb, 0, none⟩) (ho : oc[3]? = some (.bool false)) (hs : Sat w (row p 96 x.cells * (row pb 78 oc * F))) :
    Calls Tryz.prog 85 #[.pointer (some ⟨p, 0, none⟩), L.v] w fun e w' => e = .returned L.v ∧ w = w' := by
  obtain ⟨f0, f1, f2, f3, f4, f5, f6, f7, f8, f9, f10, f11, fz, hlp⟩ := PSt.facts hs
  have c3 : w.cell? ⟨pb, 3, none⟩ = some (.bool false) := hs.swap.cell 3 ho
  rw [hx] at f0
  clear f1 f2 f3 f4 f5 f6 f7 f8 f9 f10 f11
  unfold SV.v
  go_enter Tryz.func85, Tryz.ntmps85
  go_wp2
  go_ret
  exact ⟨rfl, rfl⟩

end Go.Proofs.YtmdabdpghcjplaaGreatDoor
