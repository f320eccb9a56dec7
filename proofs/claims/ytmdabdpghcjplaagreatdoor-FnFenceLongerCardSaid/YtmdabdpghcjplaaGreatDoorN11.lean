/- newPre where it starts: an indented block of code is opened. -/
import Derived.Test.YtmdabdpghcjplaaGreatDoorN8
import Derived.Test.YtmdabdpghcjplaaGreatDoorAp
import Derived.Deep.RegionLaw
namespace Go.Proofs.YtmdabdpghcjplaaGreatDoor
open Go.RowKit Sl

theorem info_string : (Tryz.prog.info? 9).map (fun i => (i.zero, i.size, i.bytes)) = some (some (.string ⟨#[]⟩), 1, 16) := by kernel_rfl

def preCells (ts : SV) : List Value := [.string ⟨#[]⟩, ts.v]

theorem u8_bool (c : UInt8) : ∃ b : Bool, ((c.toNat : Int) == 10) = b := ⟨_, rfl⟩

set_option maxRecDepth 100000 in
set_option maxHeartbeats 1000000 in
theorem newPre_does (p g cap : Nat) (T : TypeId) (bv st en : Value) (inn : SV) (l l4 : Ln) (x : PSt) (F : HP) (w : World) (hx : x.stack = ⟨some ⟨g, 0, none⟩, 1, cap⟩) (hd : x.depth = 0) (hl : l.OK)
    (h4 : l.trimSpace 4 4 false = some l4) (hb : l4.blank = false)
    (hT : ∀ w, (Instr.typeAssert (.iface T bv) 119 163 true).run Tryz.prog w = .ok (.tuple #[.pointer none, .bool false]) w)
    (hs : Sat w (row p 96 x.cells * (arr 122 4 x.stack.v 1 [.iface T bv, inn.v, st, en] * F))) :
    Calls Tryz.prog 94 #[.pointer (some ⟨p, 0, none⟩), l.agg] w fun e w' => e = .returned (.tuple #[Ln.zero.agg, .bool true]) ∧ ∃ (q g2 cap2 : Nat) (ts : SV) (c : Bool), ts.len = 1 ∧
      Sat w' (row p 96 { x with stack := ⟨some ⟨g2, 0, none⟩, 2, cap2⟩, corner := c }.cells *
        (arr 122 4 (.slice (some ⟨g2, 0, none⟩) 2 cap2) 2 [.iface T bv, inn.v, st, en, .iface 256 (.pointer (some ⟨q, 0, none⟩)), .slice none 0 0, .int .i64 x.lineno, .int .i64 x.lineno] *
          (row q 258 (preCells ts) * (arr 9 1 ts.v ts.len [.string (B.bs l4.str)] * F)))) := by
  have hs' := hs
  rw [hx] at hs'
  obtain ⟨junk, _, _, _, _, hr⟩ := hs'.swap.arr_row
  have g4 : w.cell? ⟨p, 4, none⟩ = some (.slice (some ⟨g, 0, none⟩) 1 cap) := by have := hs.cell 4 rfl; rw [hx] at this; exact this
  have g0 : w.cell? ⟨g, 0, none⟩ = some (.iface T bv) := hr.cell 0 rfl
  have hp : p < w.heap.size := World.block_lt_of_cell? w _ g4
  have hg : g < w.heap.size := World.block_lt_of_cell? w _ g0
  have h1 : Sat (w.alloc (.cells l.cells.toArray 105)) (row w.heap.size 105 l.cells * _) := hs.new _ _ rfl
  have h2 := h1.new (d := w.heap.size + 1) Ln.zero.cells 105 (by simp)
  have h3 := h2.new (d := w.heap.size + 2) l.cells 105 (by simp)
  have hb3 := ((((Below.refl w.heap.size w).alloc (Nat.le_refl _) (.cells l.cells.toArray 105)).alloc (by simp) (.cells Ln.zero.cells.toArray 105))).alloc (by simp; omega) (.cells l.cells.toArray 105)
  simp only [Ln.cells, Ln.zero, Int.natCast_zero, UInt8.toNat_zero] at hb3
  have q4 := (hb3.cell (p := ⟨p, 4, none⟩) hp).trans g4
  have q0 := (hb3.cell (p := ⟨g, 0, none⟩) hg).trans g0
  have Q4 := Lib.hid q4
  have Q0 := Lib.hid q0
  have H3 := Lib.hid h3
  have H4 := Lib.hid h4
  have hl4 := (Ln.trimSpace_ok hl h4).1
  obtain ⟨i0, hi, hz0, hz1, hz2⟩ := info_parts info_string
  have heq := eq_nil_para
  clear h1 h2 h3 hb3 q4 q0 g4 g0 hr hs' hs h4
  have hbb : (B.trimL (l4.text.data.toList.drop l4.i)).isEmpty = false := hb
  unfold Ln.agg
  go_enter Tryz.func94, Tryz.ntmps94
  go_wp2_with fail
  refine (para_none p g 0 cap T bv _ (by decide) Q4.out Q0.out hT).mono ?_
  rintro e w1 ⟨rfl, m, rfl⟩
  have hts := trimSpace_w (w.heap.size + 2) l 4 4 false _ _ hl (by decide) (H3.out.drewN m)
  rw [H4.out] at hts
  simp only [Option.isSome_some, Option.getD_some] at hts
  have HT := Lib.hid hts
  clear hts
  go_wp2_with fail
  refine HT.out.mono ?_
  rintro e w2 ⟨rfl, s2⟩
  go_wp2_with fail
  refine (isBlank_w (w.heap.size + 2) l4.i l4.text _ hl4.i hl4.size (s2.cell 3 rfl) (s2.cell 1 rfl)).mono ?_
  rintro e w3 ⟨rfl, m2, rfl⟩
  rw [hbb]
  have S2 := Lib.hid (s2.drewN m2)
  clear s2 HT
  go_wp2_with fail
  have s3 := (S2.out.new (d := w2.heap.size) [.string ⟨#[]⟩, .slice none 0 0] 258 (by simp)).cast (show _ = row p 96 x.cells * (arr 122 4 x.stack.v 1 [.iface T bv, inn.v, st, en] *
    (row w2.heap.size 258 [.string ⟨#[]⟩, .slice none 0 0] * (row (w.heap.size + 2) 105 l4.cells * (row (w.heap.size + 1) 105 Ln.zero.cells * (row w.heap.size 105 l.cells * F))))) from by ac_rfl)
  refine (addBlock_w p 1 256 _ x _ _ _ (by decide) (by rw [hd]; rfl) (by rw [hx]) s3).mono ?_
  rintro e w4 ⟨rfl, g2, cap2, s4⟩
  clear s3 S2
  obtain ⟨f0, f1, f2, f3, f4, f5, f6, f7, f8, f9, f10, f11, fz, hlp⟩ := PSt.facts s4
  clear f0 f1 f2 f3 f4 f5 f7 f8 f9 f10 f11
  have s5 := s4.cast (show _ = row (w.heap.size + 2) 105 l4.cells * (row (w.heap.size + 1) 105 Ln.zero.cells * (row w2.heap.size 258 [.string ⟨#[]⟩, .slice none 0 0] * (row p 96 { x with stack := ⟨some ⟨g2, 0, none⟩, 1 + 1, cap2⟩ }.cells *
    (arr 122 4 (.slice (some ⟨g2, 0, none⟩) (1 + 1) cap2) (1 + 1) ([.iface T bv, inn.v, st, en] ++ [.iface 256 (.pointer (some ⟨w2.heap.size, 0, none⟩)), .slice none 0 0, .int .i64 x.lineno, .int .i64 x.lineno]) * (row w.heap.size 105 l.cells * F))))) from by ac_rfl)
  obtain ⟨b0, b1, b2, b3, b4, bf⟩ := line_cells s5
  obtain ⟨a0, a1, a2, a3, a4, af⟩ := line_cells s5.swap
  obtain ⟨z0, z1, z2, z3, z4, zf⟩ := line_cells (s5.drop1.drop1.drop1.drop1.drop1)
  have t0 : w4.cell? ⟨w2.heap.size, 1, none⟩ = some (.slice none 0 0) := s5.third.cell 1 rfl
  have tf := fun i => s5.third.frozen i
  have tl := s5.third.row_lt
  have nl := s5.row_lt
  have nl2 := s5.swap.row_lt
  have nep : ¬ p = w2.heap.size := fun e => (s5.drop1.drop1.row_ne) e.symm
  have S5 := Lib.hid s5
  clear s4 s5
  have S6 := Lib.hid (show ∀ c : Bool, Sat (w4.setCell ⟨p, 6, none⟩ (.bool c)) (row w2.heap.size 258 [.string ⟨#[]⟩, .slice none 0 0] * (row (w.heap.size + 2) 105 l4.cells * (row (w.heap.size + 1) 105 Ln.zero.cells * (row p 96 { x with stack := ⟨some ⟨g2, 0, none⟩, 1 + 1, cap2⟩, corner := c }.cells *
    (arr 122 4 (.slice (some ⟨g2, 0, none⟩) (1 + 1) cap2) (1 + 1) ([.iface T bv, inn.v, st, en] ++ [.iface 256 (.pointer (some ⟨w2.heap.size, 0, none⟩)), .slice none 0 0, .int .i64 x.lineno, .int .i64 x.lineno]) * (row w.heap.size 105 l.cells * F)))))) from fun c => by
    have h := (S5.out.cast (show _ = row p 96 { x with stack := ⟨some ⟨g2, 0, none⟩, 1 + 1, cap2⟩ }.cells * (row w2.heap.size 258 [.string ⟨#[]⟩, .slice none 0 0] * (row (w.heap.size + 2) 105 l4.cells * (row (w.heap.size + 1) 105 Ln.zero.cells *
      (arr 122 4 (.slice (some ⟨g2, 0, none⟩) (1 + 1) cap2) (1 + 1) ([.iface T bv, inn.v, st, en] ++ [.iface 256 (.pointer (some ⟨w2.heap.size, 0, none⟩)), .slice none 0 0, .int .i64 x.lineno, .int .i64 x.lineno]) * (row w.heap.size 105 l.cells * F))))) from by ac_rfl)).set 6 (.bool c)
    have h2 : Sat _ (row p 96 { x with stack := ⟨some ⟨g2, 0, none⟩, 1 + 1, cap2⟩, corner := c }.cells * _) := h
    exact h2.cast (by ac_rfl))
  cases hcor : x.corner
  all_goals
    rw [hcor] at f6
    go_wp2_with fail
  · generalize hc5 : ((l4.nl.toNat : Int) != 10) = c5 at *
    have s6 := S6.out c5
    generalize w4.setCell ⟨p, 6, none⟩ (.bool c5) = w5 at *
    clear S6 S5 b0 b1 b2 b3 b4 bf a0 a1 a2 a3 a4 af t0 tf z0 z1 z2 z3 z4 zf
    have t0 : w5.cell? ⟨w2.heap.size, 1, none⟩ = some (.slice none 0 0) := s6.cell 1 rfl
    have tl5 := s6.row_lt
    have hA : ∀ m, Sat ((w5.drewN m).alloc (.cells #[.string (B.bs l4.str)] 9)) (arr 9 1 (.slice none 0 0) 0 [] * (row w5.heap.size 9 [.string (B.bs l4.str)] * (row w2.heap.size 258 [.string ⟨#[]⟩, .slice none 0 0] * _))) := fun m => by
      rw [arr_nil, emp_star]
      exact (s6.drewN m).new (d := w5.heap.size) [.string (B.bs l4.str)] 9 (by simp)
    have hK : ∀ m o, ((w5.drewN m).alloc o).cell? ⟨w2.heap.size, 1, none⟩ = some (.slice none 0 0) := fun m o => by
      rw [World.cell?_alloc_lt _ _ _ (by simpa using tl5)]; exact t0
    go_region_law (first
      | (go_simp; go_at_call 128; (first | refine (string_w _ l4 w5.drew _ hl4 s6.swap.drew).mono ?_ | refine (string_w _ l4 _ _ hl4 (s6.swap.drewN _)).mono ?_); rintro e w6 ⟨rfl, m6, rfl⟩)
      | (refine step_append_sl (by rfl) (.tmp 41) (.tmp 43) 38 (by rfl) 9 i0 (.string ⟨#[]⟩) 1 16 Tryz.underlying38 hi hz0 hz1 hz2 rfl (.slice none 0 0) 0 [] (by rfl) (hA _) ⟨w5.heap.size, 0, none⟩ 1 1 [.string (B.bs l4.str)] (by rfl) rfl (cells_new _ _ _) (by intro u hu; simp at hu; rcases hu with rfl; rfl) (by unfold maxLen; omega) (by decide) (by decide) ?_; intro g7 c7 w7 s7 z7; have k7 : w7.cell? ⟨w2.heap.size, 1, none⟩ = some (.slice none 0 0) := s7.third.cell 1 rfl; have kf := fun i => s7.third.frozen i))
    all_goals
      have S8 := Lib.hid (((s7.third.set 1 (.slice (some ⟨g7, 0, none⟩) 1 c7)).cast (show _ = row (w.heap.size + 2) 105 l4.cells * (row w5.heap.size 9 [.string (B.bs l4.str)] * (row w.heap.size 105 l.cells * (row (w.heap.size + 1) 105 Ln.zero.cells *
        (row p 96 { x with stack := ⟨some ⟨g2, 0, none⟩, 1 + 1, cap2⟩, corner := c5 }.cells *
          (arr 122 4 (.slice (some ⟨g2, 0, none⟩) (1 + 1) cap2) (1 + 1) ([.iface T bv, inn.v, st, en] ++ [.iface 256 (.pointer (some ⟨w2.heap.size, 0, none⟩)), .slice none 0 0, .int .i64 x.lineno, .int .i64 x.lineno]) *
            (row w2.heap.size 258 [.string ⟨#[]⟩, .slice (some ⟨g7, 0, none⟩) 1 c7] * (arr 9 1 (.slice (some ⟨g7, 0, none⟩) (0 + 1) c7) (0 + 1) ([] ++ [.string (B.bs l4.str)]) * F))))))) from by
              rw [show [Value.string ⟨#[]⟩, .slice none 0 0].set 1 (.slice (some ⟨g7, 0, none⟩) 1 c7) = [.string ⟨#[]⟩, .slice (some ⟨g7, 0, none⟩) 1 c7] from rfl]; ac_rfl)).drop1.drop1.drop1)
      obtain ⟨a0, a1, a2, a3, a4, af⟩ := line_cells S8.out
      have al := S8.out.row_lt
      clear s7 k7 kf hA hK s6 t0
      go_wp2
      refine bodyPost_ret (v := .tuple #[Ln.zero.agg, .bool true]) (by simp [results, Tryz.results94, go_sem, Ln.agg, Ln.zero, *]) rfl ⟨rfl, w2.heap.size, g2, cap2, ⟨some ⟨g7, 0, none⟩, 1, c7⟩, c5, rfl, ?_⟩
      exact (((((S8.out.set 0 _).set 1 _).set 2 _).set 3 _).set 4 _).drop1
  · have s6 := S6.out true
    generalize w4.setCell ⟨p, 6, none⟩ (.bool true) = w5 at *
    clear S6 S5 b0 b1 b2 b3 b4 bf a0 a1 a2 a3 a4 af t0 tf z0 z1 z2 z3 z4 zf
    have t0 : w5.cell? ⟨w2.heap.size, 1, none⟩ = some (.slice none 0 0) := s6.cell 1 rfl
    have tl5 := s6.row_lt
    have hA : ∀ m, Sat ((w5.drewN m).alloc (.cells #[.string (B.bs l4.str)] 9)) (arr 9 1 (.slice none 0 0) 0 [] * (row w5.heap.size 9 [.string (B.bs l4.str)] * (row w2.heap.size 258 [.string ⟨#[]⟩, .slice none 0 0] * _))) := fun m => by
      rw [arr_nil, emp_star]
      exact (s6.drewN m).new (d := w5.heap.size) [.string (B.bs l4.str)] 9 (by simp)
    have hK : ∀ m o, ((w5.drewN m).alloc o).cell? ⟨w2.heap.size, 1, none⟩ = some (.slice none 0 0) := fun m o => by
      rw [World.cell?_alloc_lt _ _ _ (by simpa using tl5)]; exact t0
    go_region_law (first
      | (go_simp; go_at_call 128; (first | refine (string_w _ l4 w5.drew _ hl4 s6.swap.drew).mono ?_ | refine (string_w _ l4 _ _ hl4 (s6.swap.drewN _)).mono ?_); rintro e w6 ⟨rfl, m6, rfl⟩)
      | (refine step_append_sl (by rfl) (.tmp 41) (.tmp 43) 38 (by rfl) 9 i0 (.string ⟨#[]⟩) 1 16 Tryz.underlying38 hi hz0 hz1 hz2 rfl (.slice none 0 0) 0 [] (by rfl) (hA _) ⟨w5.heap.size, 0, none⟩ 1 1 [.string (B.bs l4.str)] (by rfl) rfl (cells_new _ _ _) (by intro u hu; simp at hu; rcases hu with rfl; rfl) (by unfold maxLen; omega) (by decide) (by decide) ?_; intro g7 c7 w7 s7 z7; have k7 : w7.cell? ⟨w2.heap.size, 1, none⟩ = some (.slice none 0 0) := s7.third.cell 1 rfl; have kf := fun i => s7.third.frozen i))
    all_goals
      have S8 := Lib.hid (((s7.third.set 1 (.slice (some ⟨g7, 0, none⟩) 1 c7)).cast (show _ = row (w.heap.size + 2) 105 l4.cells * (row w5.heap.size 9 [.string (B.bs l4.str)] * (row w.heap.size 105 l.cells * (row (w.heap.size + 1) 105 Ln.zero.cells *
        (row p 96 { x with stack := ⟨some ⟨g2, 0, none⟩, 1 + 1, cap2⟩, corner := true }.cells *
          (arr 122 4 (.slice (some ⟨g2, 0, none⟩) (1 + 1) cap2) (1 + 1) ([.iface T bv, inn.v, st, en] ++ [.iface 256 (.pointer (some ⟨w2.heap.size, 0, none⟩)), .slice none 0 0, .int .i64 x.lineno, .int .i64 x.lineno]) *
            (row w2.heap.size 258 [.string ⟨#[]⟩, .slice (some ⟨g7, 0, none⟩) 1 c7] * (arr 9 1 (.slice (some ⟨g7, 0, none⟩) (0 + 1) c7) (0 + 1) ([] ++ [.string (B.bs l4.str)]) * F))))))) from by
              rw [show [Value.string ⟨#[]⟩, .slice none 0 0].set 1 (.slice (some ⟨g7, 0, none⟩) 1 c7) = [.string ⟨#[]⟩, .slice (some ⟨g7, 0, none⟩) 1 c7] from rfl]; ac_rfl)).drop1.drop1.drop1)
      obtain ⟨a0, a1, a2, a3, a4, af⟩ := line_cells S8.out
      have al := S8.out.row_lt
      clear s7 k7 kf hA hK s6 t0
      go_wp2
      refine bodyPost_ret (v := .tuple #[Ln.zero.agg, .bool true]) (by simp [results, Tryz.results94, go_sem, Ln.agg, Ln.zero, *]) rfl ⟨rfl, w2.heap.size, g2, cap2, ⟨some ⟨g7, 0, none⟩, 1, c7⟩, true, rfl, ?_⟩
      exact (((((S8.out.set 0 _).set 1 _).set 2 _).set 3 _).set 4 _).drop1

end Go.Proofs.YtmdabdpghcjplaaGreatDoor

/- An indented block of code goes on: preBuilder.extend. -/
namespace Go.Proofs.YtmdabdpghcjplaaGreatDoor
open Go.RowKit Sl

set_option maxRecDepth 100000 in
set_option maxHeartbeats 1000000 in
theorem preExtend_w (p q : Nat) (l l4 : Ln) (x : PSt) (ts : SV) (txt : List Value) (F : HP) (w : World) (hl : l.OK) (h4 : l.trimSpace 4 4 true = some l4) (hn : ts.len ≤ 1000000000)
    (hs : Sat w (row p 96 x.cells * (row q 258 (preCells ts) * (arr 9 1 ts.v ts.len txt * F)))) :
    Calls Tryz.prog 336 #[.pointer (some ⟨q, 0, none⟩), .pointer (some ⟨p, 0, none⟩), l.agg] w fun e w' => e = .returned (.tuple #[Ln.zero.agg, .bool true]) ∧ ∃ (ts' : SV) (c : Bool), ts'.len = ts.len + 1 ∧
      Sat w' (row p 96 { x with corner := c }.cells * (row q 258 (preCells ts') * (arr 9 1 ts'.v ts'.len (txt ++ [.string (B.bs l4.str)]) * F))) := by
  have h1 := (hs.new (d := w.heap.size) l.cells 105 rfl).new (d := w.heap.size + 1) Ln.zero.cells 105 (by simp)
  have H3 := Lib.hid h1.swap
  have H4 := Lib.hid h4
  have hl4 := (Ln.trimSpace_ok hl h4).1
  obtain ⟨i0, hi, hz0, hz1, hz2⟩ := info_parts info_string
  clear h1 hs h4
  unfold Ln.agg
  have hts := trimSpace_w w.heap.size l 4 4 true _ _ hl (by decide) H3.out
  rw [H4.out] at hts
  simp only [Option.isSome_some, Option.getD_some] at hts
  have HT := Lib.hid hts
  clear hts
  go_enter Tryz.func336, Tryz.ntmps336
  go_wp2_with fail
  refine HT.out.mono ?_
  rintro e w5 ⟨rfl, s2⟩
  clear H3 HT
  have s6 := s2.cast (show _ = row q 258 (preCells ts) * (row w.heap.size 105 l4.cells * (arr 9 1 ts.v ts.len txt * (row (w.heap.size + 1) 105 Ln.zero.cells * (row p 96 x.cells * F)))) from by ac_rfl)
  have t0 : w5.cell? ⟨q, 1, none⟩ = some (.slice ts.a ts.len ts.cap) := s6.cell 1 rfl
  have tl5 := s6.row_lt
  have hA : ∀ m, Sat ((w5.drewN m).alloc (.cells #[.string (B.bs l4.str)] 9)) (arr 9 1 ts.v ts.len txt * (row w5.heap.size 9 [.string (B.bs l4.str)] * (row q 258 (preCells ts) * (row w.heap.size 105 l4.cells * (row (w.heap.size + 1) 105 Ln.zero.cells * (row p 96 x.cells * F)))))) := fun m =>
    ((s6.drewN m).new (d := w5.heap.size) [.string (B.bs l4.str)] 9 (by simp)).cast (by ac_rfl)
  have hK : ∀ m o, ((w5.drewN m).alloc o).cell? ⟨q, 1, none⟩ = some (.slice ts.a ts.len ts.cap) := fun m o => by
    rw [World.cell?_alloc_lt _ _ _ (by simpa using tl5)]; exact t0
  go_wp2_with fail
  go_region_law (first
    | (go_simp; go_at_call 128; (first | refine (string_w _ l4 w5.drew _ hl4 s6.swap.drew).mono ?_ | refine (string_w _ l4 _ _ hl4 (s6.swap.drewN _)).mono ?_ | refine (string_w _ l4 _ _ hl4 s6.swap).mono ?_); rintro e w6 ⟨rfl, m6, rfl⟩)
    | (refine step_append_sl (by rfl) (.tmp 15) (.tmp 17) 38 (by rfl) 9 i0 (.string ⟨#[]⟩) 1 16 Tryz.underlying38 hi hz0 hz1 hz2 rfl ts.v ts.len txt (by rfl) (hA _) ⟨w5.heap.size, 0, none⟩ 1 1 [.string (B.bs l4.str)] (by rfl) rfl (cells_new _ _ _) (by intro u hu; simp at hu; rcases hu with rfl; rfl) (by unfold maxLen; omega) (by omega) (by decide) ?_; intro g7 c7 w7 s7 z7; have k7 : w7.cell? ⟨q, 1, none⟩ = some (.slice ts.a ts.len ts.cap) := s7.third.cell 1 rfl; have kf := fun i => s7.third.frozen i))
  all_goals
    have S8 := ((s7.third.set 1 (.slice (some ⟨g7, 0, none⟩) (ts.len + 1) c7)).cast (show _ = row w5.heap.size 9 [.string (B.bs l4.str)] * (row w.heap.size 105 l4.cells * (row (w.heap.size + 1) 105 Ln.zero.cells *
        (row p 96 x.cells * (row q 258 (preCells ⟨some ⟨g7, 0, none⟩, ts.len + 1, c7⟩) * (arr 9 1 (.slice (some ⟨g7, 0, none⟩) (ts.len + 1) c7) (ts.len + 1) (txt ++ [.string (B.bs l4.str)]) * F))))) from by
              rw [show (preCells ts).set 1 (.slice (some ⟨g7, 0, none⟩) (ts.len + 1) c7) = preCells ⟨some ⟨g7, 0, none⟩, ts.len + 1, c7⟩ from rfl]; ac_rfl)).drop1
    clear s7 k7 kf hA hK s6 t0 s2
    generalize w7.setCell ⟨q, 1, none⟩ (.slice (some ⟨g7, 0, none⟩) (ts.len + 1) c7) = w8 at *
    obtain ⟨b0, b1, b2, b3, b4, bf⟩ := line_cells S8
    obtain ⟨a0, a1, a2, a3, a4, af⟩ := line_cells S8.swap
    have al := S8.swap.row_lt
    have s9 := S8.drop1.swap
    obtain ⟨f0, f1, f2, f3, f4, f5, f6, f7, f8, f9, f10, f11, fz, hlp⟩ := PSt.facts s9
    have hne : ¬ p = w.heap.size + 1 := s9.row_ne
    clear f0 f1 f2 f3 f4 f5 f7 f8 f9 f10 f11
    have S9 := Lib.hid s9
    clear S8 s9
    have fin : ∀ c : Bool, Sat ((((((w8.setCell ⟨p, 6, none⟩ (.bool c)).setCell ⟨w.heap.size + 1, 0, none⟩ (.int .i64 0)).setCell ⟨w.heap.size + 1, 1, none⟩ (.int .i64 0)).setCell ⟨w.heap.size + 1, 2, none⟩ (.int .i64 0)).setCell ⟨w.heap.size + 1, 3, none⟩ (.string ⟨#[]⟩)).setCell ⟨w.heap.size + 1, 4, none⟩ (.int .u8 0))
        (row p 96 { x with corner := c }.cells * (row q 258 (preCells ⟨some ⟨g7, 0, none⟩, ts.len + 1, c7⟩) * (arr 9 1 (.slice (some ⟨g7, 0, none⟩) (ts.len + 1) c7) (ts.len + 1) (txt ++ [.string (B.bs l4.str)]) * F))) := fun c =>
      ((((((S9.out.set 6 (.bool c)).swap.set 0 _).set 1 _).set 2 _).set 3 _).set 4 _).drop1
    have FIN := Lib.hid fin
    clear fin
    cases hcor : x.corner
    · rw [hcor] at f6
      go_wp2
      refine bodyPost_ret (v := .tuple #[Ln.zero.agg, .bool true]) (by simp [results, Tryz.results336, go_sem, Ln.agg, Ln.zero, *]) rfl ⟨rfl, ⟨some ⟨g7, 0, none⟩, ts.len + 1, c7⟩, ((l4.nl.toNat : Int) != 10), rfl, ?_⟩
      exact FIN.out _
    · rw [hcor] at f6
      go_wp2
      refine bodyPost_ret (v := .tuple #[Ln.zero.agg, .bool true]) (by simp [results, Tryz.results336, go_sem, Ln.agg, Ln.zero, *]) rfl ⟨rfl, ⟨some ⟨g7, 0, none⟩, ts.len + 1, c7⟩, true, rfl, ?_⟩
      exact FIN.out _

end Go.Proofs.YtmdabdpghcjplaaGreatDoor
