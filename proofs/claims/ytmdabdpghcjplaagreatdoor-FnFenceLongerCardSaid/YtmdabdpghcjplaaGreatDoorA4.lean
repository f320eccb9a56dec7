/- addLine where a leaf is open in the root, and it goes on with the whole line. -/
import Derived.Test.YtmdabdpghcjplaaGreatDoorA1
import Derived.Deep.RegionLaw
import Derived.Deep.RegionHeld3
import Derived.Deep.DeepCutAuto
import Derived.Deep.LoopGhost
namespace Go.Proofs.YtmdabdpghcjplaaGreatDoor
open Go.RowKit Sl

/-- The open block (T, q) goes on with the line l, and takes it whole. -/
structure Ext (p : Nat) (T : TypeId) (q : Addr) (R R' : HP) (l : Ln) : Prop where
  run : ∃ f : FuncId, (∀ w, (method 477 T (.pointer (some q)) "pub-paratext/pub/rscmarkdown.extend").run Tryz.prog w = .ok (f, .pointer (some q)) w) ∧
    (∀ w, (nilAhead 477 T (.pointer (some q)) "pub-paratext/pub/rscmarkdown.extend").run Tryz.prog w = .ok (some false) w) ∧ (∀ (args : Array Value) (w : World), (callFunc f args).run Tryz.prog w = .ok (.enter f args) w) ∧
    ∀ (x : PSt) (w : World) (F : HP), Sat w (row p 96 x.cells * (R * F)) → Calls Tryz.prog f #[.pointer (some q), .pointer (some ⟨p, 0, none⟩), l.agg] w fun e w' =>
      e = .returned (.tuple #[Ln.zero.agg, .bool true]) ∧ ∃ c : Bool, Sat w' (row p 96 { x with corner := c }.cells * (R' * F))

/-- how many blocks are still to be asked, where one is open in the root -/
def depthLeft (p : Nat) (w : World) : Nat := match w.cell? ⟨p, 5, none⟩ with
  | some (.int _ z) => (1 - z).toNat
  | _ => 0

set_option maxRecDepth 100000 in
set_option maxHeartbeats 2000000 in
theorem addLine_leaf (p g cap : Nat) (l : Ln) (x : PSt) (T : TypeId) (q : Addr) (b0 i0 s0 e0 inn2 : Value) (st en : Int) (R R' F : HP) (w : World) (hl : l.OK) (hx : x.stack = ⟨some ⟨g, 0, none⟩, 2, cap⟩) (hext : Ext p T q R R' l)
    (hs : Sat w (row p 96 x.cells * (arr 122 4 (.slice (some ⟨g, 0, none⟩) 2 cap) 2 [b0, i0, s0, e0, .iface T (.pointer (some q)), inn2, .int .i64 st, .int .i64 en] * (R * F)))) :
    Calls Tryz.prog 55 #[.pointer (some ⟨p, 0, none⟩), l.agg] w fun e w' => e = .returned (.tuple #[]) ∧ ∃ (c : Bool) (en' : Int),
      Sat w' (row p 96 { x with depth := 1, corner := c }.cells * (arr 122 4 (.slice (some ⟨g, 0, none⟩) 2 cap) 2 [b0, i0, s0, e0, .iface T (.pointer (some q)), inn2, .int .i64 st, .int .i64 en'] * (R' * F))) := by
  obtain ⟨f, hm, hna, hen, hrun⟩ := hext
  obtain ⟨junk, h1, h2, h3, h4, hr⟩ := hs.swap.arr_row
  obtain ⟨f0, f1, f2, f3, f4, f5, f6, f7, f8, f9, f10, f11, fz, hlp⟩ := PSt.facts hs
  rw [hx] at f4
  clear f0 f1 f2 f6 f7 f8 f9 f10 f11 h1
  have g4 : w.cell? ⟨g, 4, none⟩ = some (.iface T (.pointer (some q))) := hr.cell 4 rfl
  have hlg := hr.row_lt
  have hs0 := ((hr.swap.set 5 (.int .i64 0)).new l.cells 105 (d := w.heap.size) (by simp))
  have HS := Lib.hid hs0
  have HR := Lib.hid (show ∀ (x : PSt) (w : World) (F : HP), Sat w (row p 96 x.cells * (R * F)) → Calls Tryz.prog f #[.pointer (some q), .pointer (some ⟨p, 0, none⟩), l.agg] w fun e w' =>
      e = .returned (.tuple #[.agg #[.int .i64 0, .int .i64 0, .int .i64 0, .string ⟨#[]⟩, .int .u8 0], .bool true]) ∧ ∃ c : Bool, Sat w' (row p 96 { x with corner := c }.cells * (R' * F)) from by simpa [Ln.agg, Ln.zero] using hrun)
  clear hs hr hs0 hrun
  have hw1 : IntKind.i64.wrap 1 = 1 := by decide
  unfold Ln.agg
  go_enter Tryz.func55, Tryz.ntmps55
  go_wp2
  go_step3
  go_wp2
  obtain ⟨P0, hP0⟩ : ∃ P : World → Prop, P = fun wr => Sat wr (row w.heap.size 105 l.cells * (row p 96 { x with depth := 0 }.cells * (row g 122 ([b0, i0, s0, e0, .iface T (.pointer (some q)), inn2, .int .i64 st, .int .i64 en] ++ junk) * (R * F)))) := ⟨_, rfl⟩
  obtain ⟨P1, hP1⟩ : ∃ P : World → Prop, P = fun wr => ∃ (c : Bool) (en' : Int), Sat wr (row w.heap.size 105 Ln.zero.cells * (row p 96 { x with depth := 1, corner := c }.cells * (row g 122 ([b0, i0, s0, e0, .iface T (.pointer (some q)), inn2, .int .i64 st, .int .i64 en'] ++ junk) * (R' * F)))) := ⟨_, rfl⟩
  go_loopw [] (fun wr => P0 wr ∨ P1 wr) (fun wr => depthLeft p wr)
  case atStart => exact .inl (by rw [hP0]; exact HS.out.cast (by rw [show x.cells.set 5 (.int .i64 0) = { x with depth := 0 }.cells from rfl]))
  case round =>
    rcases hrel with h0 | h0
    · rw [hP0] at h0
      clear HS f3 f4 f5 g4
      obtain ⟨f0, f1, f2, f3, f4, f5, f6, f7, f8, f9, f10, f11, fz, hlp⟩ := PSt.facts h0.swap
      simp only at f4 f5
      rw [hx] at f4
      clear f0 f1 f2 f3 f6 f7 f8 f9 f10 f11
      have H0 := Lib.hid h0
      have H50 := Lib.hid (show wr.cell? ⟨p, 5, none⟩ = some (.int .i64 0) from f5)
      clear h0
      go_wp2
      go_quiet (fail)
      have h0 := H0.out.drewN nq
      generalize wr.drewN nq = wq at h0 ⊢
      clear H0 f4 f5 fz hlp
      obtain ⟨c0, c1, c2, c3, c4, cf⟩ := line_cells h0
      have cl := h0.row_lt
      obtain ⟨f0, f1, f2, f3, f4, f5, f6, f7, f8, f9, f10, f11, fz, hlp⟩ := PSt.facts h0.swap
      simp only at f3 f4 f5
      rw [hx] at f4
      clear f0 f1 f2 f6 f7 f8 f9 f10 f11
      have g4 : wq.cell? ⟨g, 4, none⟩ = some (.iface T (.pointer (some q))) := h0.third.cell 4 rfl
      have hlg := h0.third.row_lt
      have H0 := Lib.hid h0
      clear h0
      go_upto_region 6 with fail
      have h1 := (H0.out.new (d := wq.heap.size) l.cells 105 rfl).cast (show _ = row p 96 { x with depth := 0 }.cells * (R * (row w.heap.size 105 l.cells * (row wq.heap.size 105 l.cells *
        (row g 122 ([b0, i0, s0, e0, .iface T (.pointer (some q)), inn2, .int .i64 st, .int .i64 en] ++ junk) * F)))) from by ac_rfl)
      have H1 := Lib.hid h1
      clear h1
      go_cut [5] (fun t5 wx => t5 = .bool true ∧ ∃ c : Bool, Sat wx (row w.heap.size 105 Ln.zero.cells * (row wq.heap.size 105 l.cells * (row p 96 { x with depth := 0, corner := c }.cells *
        (row g 122 ([b0, i0, s0, e0, .iface T (.pointer (some q)), inn2, .int .i64 st, .int .i64 en] ++ junk) * (R' * F))))))
      case first =>
        go_region_law (go_simp; (first | refine (HR.out { x with depth := 0 } _ _ H1.out.drew).mono ?_ | refine (HR.out { x with depth := 0 } _ _ (H1.out.drewN _)).mono ?_); rintro e w6 ⟨rfl, c6, s6⟩; have s7 := s6.cast (show _ = row w.heap.size 105 l.cells * (row wq.heap.size 105 l.cells * (row p 96 { x with depth := 0, corner := c6 }.cells * (row g 122 ([b0, i0, s0, e0, .iface T (.pointer (some q)), inn2, .int .i64 st, .int .i64 en] ++ junk) * (R' * F)))) from by ac_rfl); obtain ⟨d0, d1, d2, d3, d4, df⟩ := line_cells s7)
        all_goals
          go_wp2
          go_meet
          exact ⟨rfl, c6, ((((s7.set 0 (.int .i64 0)).set 1 (.int .i64 0)).set 2 (.int .i64 0)).set 3 (.string ⟨#[]⟩)).set 4 (.int .u8 0)⟩
      case rest =>
        obtain ⟨rfl, c, s7⟩ := hcut
        clear H1 H0 HR c0 c1 c2 c3 c4 cf cl f3 f4 f5 fz hlp g4 hlg
        obtain ⟨d0, d1, d2, d3, d4, df⟩ := line_cells s7.swap
        have s8 := s7.cast (show _ = row p 96 { x with depth := 0, corner := c }.cells * (row g 122 ([b0, i0, s0, e0, .iface T (.pointer (some q)), inn2, .int .i64 st, .int .i64 en] ++ junk) * (row w.heap.size 105 Ln.zero.cells * (row wq.heap.size 105 l.cells * (R' * F)))) from by ac_rfl)
        clear s7
        have hbw := isBlank_w wq.heap.size l.i l.text wc hl.i hl.size d3 d1
        cases hbl : (B.trimL (List.drop l.i l.text.data.toList)).isEmpty
        · rw [hbl] at hbw
          have HBW := Lib.hid hbw
          clear hbw
          go_wp2_with fail
          refine HBW.out.mono ?_
          rintro e w2 ⟨rfl, m, rfl⟩
          have s9 := s8.drewN m
          generalize wc.drewN m = w9 at s9 ⊢
          obtain ⟨f0, f1, f2, f3, f4, f5, f6, f7, f8, f9, f10, f11, fz, hlp⟩ := PSt.facts s9
          simp only at f3 f4 f5
          rw [hx] at f4
          clear f0 f1 f2 f6 f7 f8 f9 f10 f11
          have gz := fun i => s9.swap.frozen i
          have g7 : w9.cell? ⟨g, 7, none⟩ = some (.int .i64 en) := s9.swap.cell 7 rfl
          have hlg := s9.swap.row_lt
          have hne := s9.row_ne
          go_wp2_with fail
          have K3 : ∀ v, (w9.setCell ⟨g, 7, none⟩ v).cell? ⟨p, 3, none⟩ = some (.int .i64 x.lineno) := fun v => (s9.swap.set 7 v).swap.cell 3 rfl
          have K4 : ∀ v, (w9.setCell ⟨g, 7, none⟩ v).cell? ⟨p, 4, none⟩ = some (.slice (some ⟨g, 0, none⟩) 2 cap) := fun v => by have := (s9.swap.set 7 v).swap.cell 4 rfl; simp only at this; rw [hx] at this; exact this
          have K5 : ∀ v, (w9.setCell ⟨g, 7, none⟩ v).cell? ⟨p, 5, none⟩ = some (.int .i64 0) := fun v => (s9.swap.set 7 v).swap.cell 5 rfl
          go_region_held3 (fun w' => w'.cell? ⟨p, 3, none⟩ = some (.int .i64 x.lineno) ∧ w'.cell? ⟨p, 4, none⟩ = some (.slice (some ⟨g, 0, none⟩) 2 cap) ∧ w'.cell? ⟨p, 5, none⟩ = some (.int .i64 0)) (first | exact ⟨K3 _, K4 _, K5 _⟩ | go_keep) (fail)
          have s10 : Sat ((w9.setCell ⟨g, 7, none⟩ (.int .i64 x.lineno)).drew) (row p 96 { x with depth := 0, corner := c }.cells * (row g 122 ([b0, i0, s0, e0, .iface T (.pointer (some q)), inn2, .int .i64 st, .int .i64 x.lineno] ++ junk) * (row w.heap.size 105 Ln.zero.cells * (row wq.heap.size 105 l.cells * (R' * F))))) := (s9.swap.set 7 (.int .i64 x.lineno)).swap
          generalize (w9.setCell ⟨g, 7, none⟩ (.int .i64 x.lineno)).drew = w10 at s10 ⊢
          clear K3 K4 K5 f3 f4 f5 fz hlp gz g7 hlg hne s9
          have sf := (s10.set 5 (.int .i64 1)).cast (show _ = (row w.heap.size 105 Ln.zero.cells * (row p 96 { x with depth := 1, corner := c }.cells * (row g 122 ([b0, i0, s0, e0, .iface T (.pointer (some q)), inn2, .int .i64 st, .int .i64 x.lineno] ++ junk) * (R' * F)))) * row wq.heap.size 105 l.cells from by
            rw [show ({ x with depth := 0, corner := c } : PSt).cells.set 5 (.int .i64 1) = { x with depth := 1, corner := c }.cells from rfl]; ac_rfl)
          have SF := Lib.hid sf.left
          clear sf
          obtain ⟨f0, f1, f2, f3, f4, f5, f6, f7, f8, f9, f10, f11, fz, hlp⟩ := PSt.facts s10
          simp only at f5
          clear f0 f1 f2 f3 f4 f6 f7 f8 f9 f10 f11 s10
          go_wp2
          go_roundw
          case rel => exact .inr (by rw [hP1]; exact ⟨c, x.lineno, SF.out⟩)
          case measure =>
            have c51 : (w10.setCell ⟨p, 5, none⟩ (.int .i64 1)).cell? ⟨p, 5, none⟩ = some (.int .i64 1) := SF.out.swap.cell 5 rfl
            have c50 := H50.out
            unfold depthLeft
            rw [c51, c50]
            decide
        · rw [hbl] at hbw
          have HBW := Lib.hid hbw
          clear hbw
          go_wp2_with fail
          refine HBW.out.mono ?_
          rintro e w2 ⟨rfl, m, rfl⟩
          have s10 := s8.drewN m
          generalize wc.drewN m = w10 at s10 ⊢
          have sf := (s10.set 5 (.int .i64 1)).cast (show _ = (row w.heap.size 105 Ln.zero.cells * (row p 96 { x with depth := 1, corner := c }.cells * (row g 122 ([b0, i0, s0, e0, .iface T (.pointer (some q)), inn2, .int .i64 st, .int .i64 en] ++ junk) * (R' * F)))) * row wq.heap.size 105 l.cells from by
            rw [show ({ x with depth := 0, corner := c } : PSt).cells.set 5 (.int .i64 1) = { x with depth := 1, corner := c }.cells from rfl]; ac_rfl)
          have SF := Lib.hid sf.left
          clear sf
          obtain ⟨f0, f1, f2, f3, f4, f5, f6, f7, f8, f9, f10, f11, fz, hlp⟩ := PSt.facts s10
          simp only at f5
          clear f0 f1 f2 f3 f4 f6 f7 f8 f9 f10 f11 s10
          go_wp2
          go_roundw
          case rel => exact .inr (by rw [hP1]; exact ⟨c, en, SF.out⟩)
          case measure =>
            have c51 : (w10.setCell ⟨p, 5, none⟩ (.int .i64 1)).cell? ⟨p, 5, none⟩ = some (.int .i64 1) := SF.out.swap.cell 5 rfl
            have c50 := H50.out
            unfold depthLeft
            rw [c51, c50]
            decide
    · rw [hP1] at h0
      obtain ⟨c, en', s1⟩ := h0
      clear HS f3 f4 f5 g4
      obtain ⟨f0, f1, f2, f3, f4, f5, f6, f7, f8, f9, f10, f11, fz, hlp⟩ := PSt.facts s1.swap
      simp only at f4 f5
      rw [hx] at f4
      clear f0 f1 f2 f3 f6 f7 f8 f9 f10 f11
      have S1 := Lib.hid s1
      clear s1
      go_wp2
      go_quiet (fail)
      have s1 := S1.out.drewN nq
      generalize wr.drewN nq = wq at s1 ⊢
      obtain ⟨d0, d1, d2, d3, d4, df⟩ := line_cells s1
      go_wp2_with fail
      refine (isBlank_w w.heap.size 0 ⟨#[]⟩ wq (Nat.zero_le _) (by decide) d3 d1).mono ?_
      rintro e w2 ⟨rfl, m, rfl⟩
      rw [show (B.trimL (List.drop 0 (⟨#[]⟩ : ByteArray).data.toList)).isEmpty = true from rfl]
      have s2 := s1.drewN m
      generalize wq.drewN m = w9 at s2 ⊢
      clear d0 d1 d2 d3 d4 df s1 S1 f4 f5 fz hlp
      obtain ⟨f0, f1, f2, f3, f4, f5, f6, f7, f8, f9, f10, f11, fz, hlp⟩ := PSt.facts s2.swap
      simp only at f4 f5
      rw [hx] at f4
      clear f0 f1 f2 f3 f6 f7 f8 f9 f10 f11
      have ht := trimStack_noop p 2 cap (some ⟨g, 0, none⟩) w9 (by decide) f4
      go_wp2_with fail
      refine ht.mono ?_
      rintro e w' ⟨rfl, rfl⟩
      go_wp2
      rw [Exit.noGoto_ret]
      refine bodyPost_ret (results_none rfl _ _ _) rfl ⟨rfl, c, en', ?_⟩
      exact (Sl.arr_mk (t := 122) (sz := 4) (n := 2) (xs := [b0, i0, s0, e0, .iface T (.pointer (some q)), inn2, .int .i64 st, .int .i64 en']) (junk := junk) rfl h2 h3 (by simpa using h4) s2.drop1.swap).swap

end Go.Proofs.YtmdabdpghcjplaaGreatDoor

/- addLine where a leaf is open in the root, and the line ends it. -/
namespace Go.Proofs.YtmdabdpghcjplaaGreatDoor
open Go.RowKit Sl

/-- The open block (T, q) takes the line l away, and does not go on. -/
structure ExtStop (p : Nat) (T : TypeId) (q : Addr) (R : HP) (l : Ln) : Prop where
  run : ∃ f : FuncId, (∀ w, (method 477 T (.pointer (some q)) "pub-paratext/pub/rscmarkdown.extend").run Tryz.prog w = .ok (f, .pointer (some q)) w) ∧
    (∀ w, (nilAhead 477 T (.pointer (some q)) "pub-paratext/pub/rscmarkdown.extend").run Tryz.prog w = .ok (some false) w) ∧ (∀ (args : Array Value) (w : World), (callFunc f args).run Tryz.prog w = .ok (.enter f args) w) ∧
    ∀ (x : PSt) (w : World) (F : HP), Sat w (row p 96 x.cells * (R * F)) → Calls Tryz.prog f #[.pointer (some q), .pointer (some ⟨p, 0, none⟩), l.agg] w fun e w' =>
      e = .returned (.tuple #[Ln.zero.agg, .bool false]) ∧ Sat w' (row p 96 x.cells * (R * F))

set_option maxRecDepth 100000 in
set_option maxHeartbeats 2000000 in
theorem addLine_close (p g cap : Nat) (l : Ln) (x : PSt) (T : TypeId) (q : Addr) (b0 i0 s0 e0 inn2 : Value) (st en : Int) (R F S2 : HP) (w : World) (hl : l.OK) (hbl : l.blank = false) (hx : x.stack = ⟨some ⟨g, 0, none⟩, 2, cap⟩) (hext : ExtStop p T q R l)
    (hclose : ∀ (en' : Int) (w1 : World) (F1 : HP), Sat w1 (row p 96 { x with depth := 0 }.cells * (arr 122 4 (.slice (some ⟨g, 0, none⟩) 2 cap) 2 [b0, i0, s0, e0, .iface T (.pointer (some q)), inn2, .int .i64 st, .int .i64 en'] * (R * F)) * F1) →
      Calls Tryz.prog 56 #[.pointer (some ⟨p, 0, none⟩), .int .i64 1] w1 fun e w' => e = .returned (.tuple #[]) ∧ Sat w' (S2 * F1))
    (hs : Sat w (row p 96 x.cells * (arr 122 4 (.slice (some ⟨g, 0, none⟩) 2 cap) 2 [b0, i0, s0, e0, .iface T (.pointer (some q)), inn2, .int .i64 st, .int .i64 en] * (R * F)))) :
    Calls Tryz.prog 55 #[.pointer (some ⟨p, 0, none⟩), l.agg] w fun e w' => e = .returned (.tuple #[]) ∧ Sat w' S2 := by
  obtain ⟨f, hm, hna, hen, hrun⟩ := hext
  obtain ⟨junk, h1, h2, h3, h4, hr⟩ := hs.swap.arr_row
  obtain ⟨f0, f1, f2, f3, f4, f5, f6, f7, f8, f9, f10, f11, fz, hlp⟩ := PSt.facts hs
  rw [hx] at f4
  clear f0 f1 f2 f6 f7 f8 f9 f10 f11 h1
  have g4 : w.cell? ⟨g, 4, none⟩ = some (.iface T (.pointer (some q))) := hr.cell 4 rfl
  have hlg := hr.row_lt
  have hs0 := ((hr.swap.set 5 (.int .i64 0)).new l.cells 105 (d := w.heap.size) (by simp))
  have HS := Lib.hid hs0
  have HR := Lib.hid (show ∀ (x : PSt) (w : World) (F : HP), Sat w (row p 96 x.cells * (R * F)) → Calls Tryz.prog f #[.pointer (some q), .pointer (some ⟨p, 0, none⟩), l.agg] w fun e w' =>
      e = .returned (.tuple #[.agg #[.int .i64 0, .int .i64 0, .int .i64 0, .string ⟨#[]⟩, .int .u8 0], .bool false]) ∧ Sat w' (row p 96 x.cells * (R * F)) from by simpa [Ln.agg, Ln.zero] using hrun)
  have HCL := Lib.hid hclose
  clear hs hr hs0 hrun hclose
  have hw1 : IntKind.i64.wrap 1 = 1 := by decide
  have hne : ¬ Ln.zero.text.toList = l.text.toList := by
    have hb : (B.trimL (l.text.data.toList.drop l.i)).isEmpty = false := hbl
    rw [Lib.toList_data, Lib.toList_data]
    intro h
    rw [← h] at hb
    simp [Ln.zero, B.trimL] at hb
  have HNE := Lib.hid hne
  clear hne
  unfold Ln.agg
  go_enter Tryz.func55, Tryz.ntmps55
  go_wp2
  go_step3
  go_wp2
  obtain ⟨P0, hP0⟩ : ∃ P : World → Prop, P = fun wr => Sat wr (row w.heap.size 105 l.cells * (row p 96 { x with depth := 0 }.cells * (row g 122 ([b0, i0, s0, e0, .iface T (.pointer (some q)), inn2, .int .i64 st, .int .i64 en] ++ junk) * (R * F)))) := ⟨_, rfl⟩
  go_loopw [] (fun wr => P0 wr) (fun _ => 0)
  case atStart => rw [hP0]; exact HS.out.cast (by rw [show x.cells.set 5 (.int .i64 0) = { x with depth := 0 }.cells from rfl])
  case round =>
    have h0 := hrel
    rw [hP0] at h0
    clear HS f3 f4 f5 g4 hrel
    obtain ⟨f0, f1, f2, f3, f4, f5, f6, f7, f8, f9, f10, f11, fz, hlp⟩ := PSt.facts h0.swap
    simp only at f4 f5
    rw [hx] at f4
    clear f0 f1 f2 f3 f6 f7 f8 f9 f10 f11
    have H0 := Lib.hid h0
    clear h0
    go_wp2
    go_quiet (fail)
    have h0 := H0.out.drewN nq
    generalize wr.drewN nq = wq at h0 ⊢
    clear H0 f4 f5 fz hlp
    obtain ⟨c0, c1, c2, c3, c4, cf⟩ := line_cells h0
    have cl := h0.row_lt
    obtain ⟨f0, f1, f2, f3, f4, f5, f6, f7, f8, f9, f10, f11, fz, hlp⟩ := PSt.facts h0.swap
    simp only at f3 f4 f5
    rw [hx] at f4
    clear f0 f1 f2 f6 f7 f8 f9 f10 f11
    have g4 : wq.cell? ⟨g, 4, none⟩ = some (.iface T (.pointer (some q))) := h0.third.cell 4 rfl
    have hlg := h0.third.row_lt
    have H0 := Lib.hid h0
    clear h0
    go_upto_region 6 with fail
    have h1 := (H0.out.new (d := wq.heap.size) l.cells 105 rfl).cast (show _ = row p 96 { x with depth := 0 }.cells * (R * (row w.heap.size 105 l.cells * (row wq.heap.size 105 l.cells *
      (row g 122 ([b0, i0, s0, e0, .iface T (.pointer (some q)), inn2, .int .i64 st, .int .i64 en] ++ junk) * F)))) from by ac_rfl)
    have H1 := Lib.hid h1
    clear h1
    go_cut [5] (fun t5 wx => t5 = .bool false ∧ Sat wx (row w.heap.size 105 Ln.zero.cells * (row wq.heap.size 105 l.cells * (row p 96 { x with depth := 0 }.cells *
      (row g 122 ([b0, i0, s0, e0, .iface T (.pointer (some q)), inn2, .int .i64 st, .int .i64 en] ++ junk) * (R * F))))))
    case first =>
      go_region_law (go_simp; (first | refine (HR.out { x with depth := 0 } _ _ H1.out.drew).mono ?_ | refine (HR.out { x with depth := 0 } _ _ (H1.out.drewN _)).mono ?_); rintro e w6 ⟨rfl, s6⟩; have s7 := s6.cast (show _ = row w.heap.size 105 l.cells * (row wq.heap.size 105 l.cells * (row p 96 { x with depth := 0 }.cells * (row g 122 ([b0, i0, s0, e0, .iface T (.pointer (some q)), inn2, .int .i64 st, .int .i64 en] ++ junk) * (R * F)))) from by ac_rfl); obtain ⟨d0, d1, d2, d3, d4, df⟩ := line_cells s7)
      all_goals
        go_wp2
        go_meet
        exact ⟨rfl, ((((s7.set 0 (.int .i64 0)).set 1 (.int .i64 0)).set 2 (.int .i64 0)).set 3 (.string ⟨#[]⟩)).set 4 (.int .u8 0)⟩
    case rest =>
      obtain ⟨rfl, s7⟩ := hcut
      clear H1 H0 HR c0 c1 c2 c3 c4 cf cl f3 f4 f5 fz hlp g4 hlg
      obtain ⟨d0, d1, d2, d3, d4, df⟩ := line_cells s7.swap
      have s8 := s7.cast (show _ = row p 96 { x with depth := 0 }.cells * (row g 122 ([b0, i0, s0, e0, .iface T (.pointer (some q)), inn2, .int .i64 st, .int .i64 en] ++ junk) * (row w.heap.size 105 Ln.zero.cells * (row wq.heap.size 105 l.cells * (R * F)))) from by ac_rfl)
      clear s7
      have hbw := isBlank_w wq.heap.size l.i l.text wc hl.i hl.size d3 d1
      rw [show (B.trimL (List.drop l.i l.text.data.toList)).isEmpty = false from hbl] at hbw
      have HBW := Lib.hid hbw
      clear hbw
      obtain ⟨z0, z1, z2, z3, z4, zf⟩ := line_cells (s8.third)
      have S8 := Lib.hid s8
      clear s8
      go_upto_region 7 with fail
      go_cut [59] (fun t59 wx => t59 = .bool true ∧ ∃ m, wx = wc.drewN m)
      case first =>
        go_wp2_with fail
        refine HBW.out.mono ?_
        rintro e w2 ⟨rfl, m, rfl⟩
        go_wp2
        all_goals first
          | (go_meet; exact ⟨rfl, _, rfl⟩)
          | (exfalso; exact HNE.out (by assumption))
      case rest =>
        obtain ⟨rfl, m, rfl⟩ := hcut
        have s9 := S8.out.drewN m
        generalize wc.drewN m = w9 at s9 ⊢
        clear d0 d1 d2 d3 d4 df z0 z1 z2 z3 z4 zf S8 HBW
        obtain ⟨f0, f1, f2, f3, f4, f5, f6, f7, f8, f9, f10, f11, fz, hlp⟩ := PSt.facts s9
        simp only at f3 f4 f5
        rw [hx] at f4
        clear f0 f1 f2 f6 f7 f8 f9 f10 f11
        have gz := fun i => s9.swap.frozen i
        have g7 : w9.cell? ⟨g, 7, none⟩ = some (.int .i64 en) := s9.swap.cell 7 rfl
        have hlg := s9.swap.row_lt
        have hne := s9.row_ne
        go_wp2_with fail
        have K3 : ∀ v, (w9.setCell ⟨g, 7, none⟩ v).cell? ⟨p, 3, none⟩ = some (.int .i64 x.lineno) := fun v => (s9.swap.set 7 v).swap.cell 3 rfl
        have K4 : ∀ v, (w9.setCell ⟨g, 7, none⟩ v).cell? ⟨p, 4, none⟩ = some (.slice (some ⟨g, 0, none⟩) 2 cap) := fun v => by have := (s9.swap.set 7 v).swap.cell 4 rfl; simp only at this; rw [hx] at this; exact this
        have K5 : ∀ v, (w9.setCell ⟨g, 7, none⟩ v).cell? ⟨p, 5, none⟩ = some (.int .i64 0) := fun v => (s9.swap.set 7 v).swap.cell 5 rfl
        go_region_held3 (fun w' => w'.cell? ⟨p, 3, none⟩ = some (.int .i64 x.lineno) ∧ w'.cell? ⟨p, 4, none⟩ = some (.slice (some ⟨g, 0, none⟩) 2 cap) ∧ w'.cell? ⟨p, 5, none⟩ = some (.int .i64 0)) (first | exact ⟨K3 _, K4 _, K5 _⟩ | go_keep) (fail)
        have s10 : Sat ((w9.setCell ⟨g, 7, none⟩ (.int .i64 x.lineno)).drew) (row p 96 { x with depth := 0 }.cells * (row g 122 ([b0, i0, s0, e0, .iface T (.pointer (some q)), inn2, .int .i64 st, .int .i64 x.lineno] ++ junk) * (row w.heap.size 105 Ln.zero.cells * (row wq.heap.size 105 l.cells * (R * F))))) := (s9.swap.set 7 (.int .i64 x.lineno)).swap
        generalize (w9.setCell ⟨g, 7, none⟩ (.int .i64 x.lineno)).drew = w10 at s10 ⊢
        clear K3 K4 K5 f3 f4 f5 fz hlp gz g7 hlg hne s9
        obtain ⟨d0, d1, d2, d3, d4, df⟩ := line_cells s10.third
        go_wp2_with fail
        refine (isBlank_w w.heap.size 0 ⟨#[]⟩ w10 (Nat.zero_le _) (by decide) d3 d1).mono ?_
        rintro e w2 ⟨rfl, m2, rfl⟩
        rw [show (B.trimL (List.drop 0 (⟨#[]⟩ : ByteArray).data.toList)).isEmpty = true from rfl]
        have s11 := s10.drewN m2
        generalize w10.drewN m2 = w11 at s11 ⊢
        clear d0 d1 d2 d3 d4 df s10
        obtain ⟨f0, f1, f2, f3, f4, f5, f6, f7, f8, f9, f10, f11, fz, hlp⟩ := PSt.facts s11
        simp only at f4 f5
        rw [hx] at f4
        clear f0 f1 f2 f3 f6 f7 f8 f9 f10 f11
        have s12 := (Sl.arr_mk (t := 122) (sz := 4) (n := 2) (xs := [b0, i0, s0, e0, .iface T (.pointer (some q)), inn2, .int .i64 st, .int .i64 x.lineno]) (junk := junk) rfl h2 h3 (by simpa using h4) s11.swap).cast
          (show _ = row p 96 { x with depth := 0 }.cells * (arr 122 4 (.slice (some ⟨g, 0, none⟩) 2 cap) 2 [b0, i0, s0, e0, .iface T (.pointer (some q)), inn2, .int .i64 st, .int .i64 x.lineno] * (R * F)) * (row w.heap.size 105 Ln.zero.cells * row wq.heap.size 105 l.cells) from by ac_rfl)
        have HC := Lib.hid (HCL.out x.lineno w11 _ s12)
        clear s11 s12 HCL
        go_wp2_with fail
        refine HC.out.mono ?_
        rintro e w' ⟨rfl, s13⟩
        go_wp2
        rw [Exit.noGoto_ret]
        refine bodyPost_ret (results_none rfl _ _ _) rfl ⟨rfl, s13.left⟩

end Go.Proofs.YtmdabdpghcjplaaGreatDoor
