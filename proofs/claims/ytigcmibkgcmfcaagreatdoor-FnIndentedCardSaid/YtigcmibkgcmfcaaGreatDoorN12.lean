/- An indented block of code goes on: preBuilder.extend. -/
import Derived.Test.YtigcmibkgcmfcaaGreatDoorN11
namespace Go.Proofs.YtigcmibkgcmfcaaGreatDoor
open Go.RowKit Sl

set_option maxRecDepth 100000 in
set_option maxHeartbeats 1000000 in
theorem preExtend_w (p q : Nat) (l l4 : Ln) (x : PSt) (ts : SV) (txt : List Value) (F : HP) (w : World) (hl : l.OK) (h4 : l.trimSpace 4 4 true = some l4) (hn : ts.len ≤ 1000000000)
    (hs : Sat w (row p 92 x.cells * (row q 254 (preCells ts) * (arr 9 1 ts.v ts.len txt * F)))) :
    Calls Tryz.prog 332 #[.pointer (some ⟨q, 0, none⟩), .pointer (some ⟨p, 0, none⟩), l.agg] w fun e w' => e = .returned (.tuple #[Ln.zero.agg, .bool true]) ∧ ∃ (ts' : SV) (c : Bool), ts'.len = ts.len + 1 ∧
      Sat w' (row p 92 { x with corner := c }.cells * (row q 254 (preCells ts') * (arr 9 1 ts'.v ts'.len (txt ++ [.string (B.bs l4.str)]) * F))) := by
  have h1 := (hs.new (d := w.heap.size) l.cells 101 rfl).new (d := w.heap.size + 1) Ln.zero.cells 101 (by simp)
  have H3 := Lib.hid h1.swap
  have H4 := Lib.hid h4
  have hl4 := (Ln.trimSpace_ok hl h4).1
  obtain ⟨i0, hi, hz0, hz1, hz2⟩ := info_parts info_string
  clear h1 hs h4
  unfold Ln.agg
  have hts := trimSpace_w w.heap.size l 4 4 true _ _ hl (by decide) H3.out
  rw [H4.out] at hts
  simp only [Option.isSome_some, Option.getD_some] at hts
  have HT := Lib.hid hts
  clear hts
  go_enter Tryz.func332, Tryz.ntmps332
  go_wp2_with fail
  refine HT.out.mono ?_
  rintro e w5 ⟨rfl, s2⟩
  clear H3 HT
  have s6 := s2.cast (show _ = row q 254 (preCells ts) * (row w.heap.size 101 l4.cells * (arr 9 1 ts.v ts.len txt * (row (w.heap.size + 1) 101 Ln.zero.cells * (row p 92 x.cells * F)))) from by ac_rfl)
  have t0 : w5.cell? ⟨q, 1, none⟩ = some (.slice ts.a ts.len ts.cap) := s6.cell 1 rfl
  have tl5 := s6.row_lt
  have hA : ∀ m, Sat ((w5.drewN m).alloc (.cells #[.string (B.bs l4.str)] 9)) (arr 9 1 ts.v ts.len txt * (row w5.heap.size 9 [.string (B.bs l4.str)] * (row q 254 (preCells ts) * (row w.heap.size 101 l4.cells * (row (w.heap.size + 1) 101 Ln.zero.cells * (row p 92 x.cells * F)))))) := fun m =>
    ((s6.drewN m).new (d := w5.heap.size) [.string (B.bs l4.str)] 9 (by simp)).cast (by ac_rfl)
  have hK : ∀ m o, ((w5.drewN m).alloc o).cell? ⟨q, 1, none⟩ = some (.slice ts.a ts.len ts.cap) := fun m o => by
    rw [World.cell?_alloc_lt _ _ _ (by simpa using tl5)]; exact t0
  go_wp2_with fail
  go_region_law (first
    | (go_simp; go_at_call 124; (first | refine (string_w _ l4 w5.drew _ hl4 s6.swap.drew).mono ?_ | refine (string_w _ l4 _ _ hl4 (s6.swap.drewN _)).mono ?_ | refine (string_w _ l4 _ _ hl4 s6.swap).mono ?_); rintro e w6 ⟨rfl, m6, rfl⟩)
    | (refine step_append_sl (by rfl) (.tmp 15) (.tmp 17) 29 (by rfl) 9 i0 (.string ⟨#[]⟩) 1 16 Tryz.underlying29 hi hz0 hz1 hz2 rfl ts.v ts.len txt (by rfl) (hA _) ⟨w5.heap.size, 0, none⟩ 1 1 [.string (B.bs l4.str)] (by rfl) rfl (cells_new _ _ _) (by intro u hu; simp at hu; rcases hu with rfl; rfl) (by unfold maxLen; omega) (by omega) (by decide) ?_; intro g7 c7 w7 s7 z7; have k7 : w7.cell? ⟨q, 1, none⟩ = some (.slice ts.a ts.len ts.cap) := s7.third.cell 1 rfl; have kf := fun i => s7.third.frozen i))
  all_goals
    have S8 := ((s7.third.set 1 (.slice (some ⟨g7, 0, none⟩) (ts.len + 1) c7)).cast (show _ = row w5.heap.size 9 [.string (B.bs l4.str)] * (row w.heap.size 101 l4.cells * (row (w.heap.size + 1) 101 Ln.zero.cells *
        (row p 92 x.cells * (row q 254 (preCells ⟨some ⟨g7, 0, none⟩, ts.len + 1, c7⟩) * (arr 9 1 (.slice (some ⟨g7, 0, none⟩) (ts.len + 1) c7) (ts.len + 1) (txt ++ [.string (B.bs l4.str)]) * F))))) from by
              rw [show (preCells ts).set 1 (.slice (some ⟨g7, 0, none⟩) (ts.len + 1) c7) = preCells ⟨some ⟨g7, 0, none⟩, ts.len + 1, c7⟩ from rfl]; ac_rfl)).drop1
    clear s7 k7 kf hA hK s6 t0 s2
    generalize w7.setCell ⟨q, 1, none⟩ (.slice (some ⟨g7, 0, none⟩) (ts.len + 1) c7) = w8 at *
    obtain ⟨b0, b1, b2, b3, b4, bf⟩ := line_cells S8
    obtain ⟨a0, a1, a2, a3, a4, af⟩ := line_cells S8.swap
    have al := S8.swap.row_lt
    have s9 := S8.drop1.swap
    obtain ⟨f0, f1, f2, f3, f4, f5, f6, f7, f8, f9, f10, f11, fz, hlp⟩ := PSt.facts s9
    have hne : ¬ p = w.heap.size + 1 := s9.row_ne
    clear f0 f1 f2 f3 f4 f5 f7 f8 f9 f10 f11
    have S9 := Lib.hid s9
    clear S8 s9
    have fin : ∀ c : Bool, Sat ((((((w8.setCell ⟨p, 6, none⟩ (.bool c)).setCell ⟨w.heap.size + 1, 0, none⟩ (.int .i64 0)).setCell ⟨w.heap.size + 1, 1, none⟩ (.int .i64 0)).setCell ⟨w.heap.size + 1, 2, none⟩ (.int .i64 0)).setCell ⟨w.heap.size + 1, 3, none⟩ (.string ⟨#[]⟩)).setCell ⟨w.heap.size + 1, 4, none⟩ (.int .u8 0))
        (row p 92 { x with corner := c }.cells * (row q 254 (preCells ⟨some ⟨g7, 0, none⟩, ts.len + 1, c7⟩) * (arr 9 1 (.slice (some ⟨g7, 0, none⟩) (ts.len + 1) c7) (ts.len + 1) (txt ++ [.string (B.bs l4.str)]) * F))) := fun c =>
      ((((((S9.out.set 6 (.bool c)).swap.set 0 _).set 1 _).set 2 _).set 3 _).set 4 _).drop1
    have FIN := Lib.hid fin
    clear fin
    cases hcor : x.corner
    · rw [hcor] at f6
      go_wp2
      refine bodyPost_ret (v := .tuple #[Ln.zero.agg, .bool true]) (by simp [results, Tryz.results332, go_sem, Ln.agg, Ln.zero, *]) rfl ⟨rfl, ⟨some ⟨g7, 0, none⟩, ts.len + 1, c7⟩, ((l4.nl.toNat : Int) != 10), rfl, ?_⟩
      exact FIN.out _
    · rw [hcor] at f6
      go_wp2
      refine bodyPost_ret (v := .tuple #[Ln.zero.agg, .bool true]) (by simp [results, Tryz.results332, go_sem, Ln.agg, Ln.zero, *]) rfl ⟨rfl, ⟨some ⟨g7, 0, none⟩, ts.len + 1, c7⟩, true, rfl, ?_⟩
      exact FIN.out _

end Go.Proofs.YtigcmibkgcmfcaaGreatDoor
