/- A fenced block of code goes on, or ends: fenceBuilder.extend. -/
import Derived.Test.YtmdabdpghcjplaaGreatDoorFn
import Derived.Test.YtmdabdpghcjplaaGreatDoorIx
import Derived.Test.YtmdabdpghcjplaaGreatDoorQm
import Derived.Deep.RegionHeld3
namespace Go.Proofs.YtmdabdpghcjplaaGreatDoor
open Go.RowKit Sl

/-- What trimFence makes of a line that begins with no tilde: perhaps it is a fence of backquotes. -/
theorem trimFence_other (b fb ib nb : Nat) (x : Ln) (n0 : Int) (w : World) (F : HP) (hx : x.OK) (hsz : x.text.size ≤ 1000000) (hc : (Ln.item 3 x).peek ≠ 126) (hE : ∀ w', Sat w' F → Ents w')
    (hs : Sat w (row b 105 x.cells * (row nb 3 [.int .i64 n0] * (row fb 9 [.string ⟨#[]⟩] * (row ib 9 [.string ⟨#[]⟩] * F))))) :
    Calls Tryz.prog 143 #[.pointer (some ⟨b, 0, none⟩), .pointer (some ⟨fb, 0, none⟩), .pointer (some ⟨ib, 0, none⟩), .pointer (some ⟨nb, 0, none⟩)] w fun e w' =>
      (e = .returned (.bool false) ∧ ∃ (y : Ln) (n : Int) (f i : ByteArray), Sat w' (row b 105 y.cells * (row nb 3 [.int .i64 n] * (row fb 9 [.string f] * (row ib 9 [.string i] * F))))) ∨
      (e = .returned (.bool true) ∧ ∃ (y : Ln) (n : Int) (k : Nat) (i : ByteArray), 3 ≤ k ∧ k ≤ 1000000 ∧ Sat w' (row b 105 y.cells * (row nb 3 [.int .i64 n] * (row fb 9 [.string (B.bs (List.replicate k 96))] * (row ib 9 [.string i] * F))))) := by
  by_cases h96 : (Ln.item 3 x).peek = 96
  · refine (trimFence_w b fb ib nb x _ 96 _ _ n0 w F hx hsz rfl h96 (.inl rfl) hE hs).mono ?_
    rintro e w' ⟨n, k, r, ⟨hr, _⟩, _, ⟨rfl, hk, info, _, h⟩ | ⟨rfl, _, h⟩⟩
    · refine .inr ⟨rfl, _, _, k, _, hk, ?_, h⟩
      have h1 := congrArg List.length hr
      obtain ⟨_, ht, _⟩ := Ln.item_ok (k := 3) hx
      unfold Ln.rest at h1
      rw [ht, List.length_drop, List.length_append, List.length_replicate, ← B.size_data] at h1
      omega
    · exact .inl ⟨rfl, _, _, _, _, h⟩
  · refine (trimFence_not b nb (.pointer (some ⟨fb, 0, none⟩)) (.pointer (some ⟨ib, 0, none⟩)) x n0 w _ hx ⟨h96, hc⟩ hs).mono ?_
    rintro e w' ⟨rfl, n, h⟩
    exact .inl ⟨rfl, _, _, _, _, h⟩

set_option maxRecDepth 100000 in
set_option maxHeartbeats 2000000 in
theorem fenceExtend_w (p q k : Nat) (l : Ln) (x : PSt) (ts : SV) (txt : List Value) (F : HP) (w : World) (hl : l.OK) (hsz : l.text.size ≤ 1000000) (hc : (Ln.item 3 l).peek ≠ 126) (hk : 3 ≤ k) (hk2 : k ≤ 1000000) (hn : ts.len ≤ 1000000000) (hE : ∀ w', Sat w' F → Ents w')
    (hs : Sat w (row p 96 x.cells * (row q 254 (fenceCells (B.bs (List.replicate k 126)) ⟨#[]⟩ 0 ts) * (arr 9 1 ts.v ts.len txt * F)))) :
    Calls Tryz.prog 334 #[.pointer (some ⟨q, 0, none⟩), .pointer (some ⟨p, 0, none⟩), l.agg] w fun e w' => e = .returned (.tuple #[Ln.zero.agg, .bool true]) ∧ ∃ (ts' : SV) (c : Bool), ts'.len = ts.len + 1 ∧
      Sat w' (row p 96 { x with corner := c }.cells * (row q 254 (fenceCells (B.bs (List.replicate k 126)) ⟨#[]⟩ 0 ts') * (arr 9 1 ts'.v ts'.len (txt ++ [.string (B.bs l.str)]) * F))) := by
  have hpx : ∀ k', 3 ≤ k' → (B.bs (List.replicate k 126)).data.toList.isPrefixOf (B.bs (List.replicate k' 96)).data.toList = false := by
    intro k' h
    rw [B.bs_data, B.bs_data]
    obtain ⟨a, rfl⟩ : ∃ a, k = a + 1 := ⟨k - 1, by omega⟩
    obtain ⟨b, rfl⟩ : ∃ a, k' = a + 1 := ⟨k' - 1, by omega⟩
    rfl
  have hfs : (B.bs (List.replicate k 126)).size ≤ 1000000000000 := by rw [B.bs_size, List.length_replicate]; omega
  generalize B.bs (List.replicate k 126) = FB at hs hpx hfs ⊢
  have h1 := (hs.new (d := w.heap.size) l.cells 105 rfl).new (d := w.heap.size + 1) Ln.zero.cells 105 (by simp)
  have h2 := h1.new (d := w.heap.size + 2) [.string ⟨#[]⟩] 9 (by simp)
  have h3 := h2.new (d := w.heap.size + 3) [.string ⟨#[]⟩] 9 (by simp)
  have h4 := h3.new (d := w.heap.size + 4) [.int .i64 0] 3 (by simp)
  have h5 := h4.new (d := w.heap.size + 5) l.cells 105 (by simp)
  have h6 := h5.cast (show _ = row (w.heap.size + 5) 105 l.cells * (row (w.heap.size + 4) 3 [.int .i64 0] * (row (w.heap.size + 2) 9 [.string ⟨#[]⟩] * (row (w.heap.size + 3) 9 [.string ⟨#[]⟩] *
    (row w.heap.size 105 l.cells * (row (w.heap.size + 1) 105 Ln.zero.cells * (row q 254 (fenceCells (FB) ⟨#[]⟩ 0 ts) * (arr 9 1 ts.v ts.len txt * (row p 96 x.cells * F)))))))) from by ac_rfl)
  have H6 := Lib.hid h6
  clear h1 h2 h3 h4 h5 h6 hs
  unfold Ln.agg
  go_enter Tryz.func334, Tryz.ntmps334
  go_upto_region 4 with fail
  go_cut [25] (fun t25 wx => t25 = .bool false ∧ Sat wx (row w.heap.size 105 l.cells * (row (w.heap.size + 1) 105 Ln.zero.cells * (row q 254 (fenceCells (FB) ⟨#[]⟩ 0 ts) * (arr 9 1 ts.v ts.len txt * (row p 96 x.cells * F))))))
  case first =>
    refine Qt.wp_call_region 11 (by kernel_rfl) (by kernel_rfl) (by kernel_rfl) rfl (fun K hK => ?_)
    go_simp
    refine (trimFence_other (w.heap.size + 5) (w.heap.size + 2) (w.heap.size + 3) (w.heap.size + 4) l 0 _ _ hl hsz hc (fun w' h => hE w' h.drop1.drop1.drop1.drop1.drop1) H6.out.drew).mono ?_
    rintro e w5 (⟨rfl, y, n, fv, iv, s5⟩ | ⟨rfl, y, n, k', iv, hk1, hk12, s5⟩)
    · refine hK (fun w'' => ∃ m, w'' = w5.drewN m) _ _ ⟨0, rfl⟩ ?_
      clear hK K
      simp only [List.take_succ_cons, List.take_zero, List.drop_succ_cons, List.drop_zero]
      repeat (quiet_step (fail))
      refine wpQuiet_nil ?_
      rintro _ ⟨m, rfl⟩
      go_wp2
      go_meet
      exact ⟨rfl, (s5.drewN m).drop1.drop1.drop1.drop1⟩
    · refine hK (fun w'' => ∃ m, w'' = w5.drewN m) _ _ ⟨0, rfl⟩ ?_
      clear hK K
      have hp := hpx k' hk1
      have hgs : (B.bs (List.replicate k' 96)).size ≤ 1000000000000 := by rw [B.bs_size, List.length_replicate]; omega
      generalize B.bs (List.replicate k' 96) = GB at s5 hp hgs
      have a0 : w5.cell? ⟨w.heap.size + 2, 0, none⟩ = some (.string GB) := s5.third.cell 0 rfl
      have a1 : w5.cell? ⟨q, 0, none⟩ = some (.string FB) := s5.drop1.drop1.drop1.drop1.third.cell 0 rfl
      have hpw := fun m => hasPrefix_w GB FB (w5.drewN m) hgs hfs
      rw [hp] at hpw
      have HPW := Lib.hid hpw
      clear hpw hp hpx
      simp only [List.take_succ_cons, List.take_zero, List.drop_succ_cons, List.drop_zero]
      repeat (quiet_step ((go_at_call 33; exact quiet_same (HPW.out _))))
      refine wpQuiet_nil ?_
      rintro _ ⟨m, rfl⟩
      go_wp2
      go_meet
      exact ⟨rfl, (s5.drewN m).drop1.drop1.drop1.drop1⟩
  case rest =>
    obtain ⟨rfl, s1⟩ := hcut
    clear H6 hpx
    have b2 : wc.cell? ⟨q, 2, none⟩ = some (.int .i64 0) := s1.third.cell 2 rfl
    have hts := fun (w' : World) (h : Sat w' _) => trimSpace_w w.heap.size l 0 0 false w' (row (w.heap.size + 1) 105 Ln.zero.cells * (row q 254 (fenceCells FB ⟨#[]⟩ 0 ts) * (arr 9 1 ts.v ts.len txt * (row p 96 x.cells * F)))) hl (by decide) h
    rw [show l.trimSpace 0 0 false = some l from rfl] at hts
    simp only [Option.isSome_some, Option.getD_some] at hts
    have HTS := Lib.hid hts
    have S1 := Lib.hid s1
    clear hts s1
    go_wp2_with fail
    refine Qt.wp_region (fun w'' => ∃ m, w'' = wc.drewN m) 8 (by kernel_rfl) (by kernel_rfl) ⟨1, rfl⟩ ?_
    simp only [List.take_succ_cons, List.take_zero, List.drop_succ_cons, List.drop_zero]
    repeat (quiet_step (fail))
    refine wpQuiet_nil ?_
    rintro _ ⟨m, rfl⟩
    go_wp2_with fail
    refine (HTS.out _ (S1.out.drewN m)).mono ?_
    rintro e w5 ⟨rfl, s2⟩
    clear HTS S1 b2
    obtain ⟨i0, hi, hz0, hz1, hz2⟩ := info_parts info_string
    have s6 := s2.cast (show _ = row q 254 (fenceCells FB ⟨#[]⟩ 0 ts) * (row w.heap.size 105 l.cells * (arr 9 1 ts.v ts.len txt * (row (w.heap.size + 1) 105 Ln.zero.cells * (row p 96 x.cells * F)))) from by ac_rfl)
    have t0 : w5.cell? ⟨q, 3, none⟩ = some (.slice ts.a ts.len ts.cap) := s6.cell 3 rfl
    have tl5 := s6.row_lt
    have hA : ∀ m, Sat ((w5.drewN m).alloc (.cells #[.string (B.bs l.str)] 9)) (arr 9 1 ts.v ts.len txt * (row w5.heap.size 9 [.string (B.bs l.str)] * (row q 254 (fenceCells FB ⟨#[]⟩ 0 ts) * (row w.heap.size 105 l.cells * (row (w.heap.size + 1) 105 Ln.zero.cells * (row p 96 x.cells * F)))))) := fun m =>
      ((s6.drewN m).new (d := w5.heap.size) [.string (B.bs l.str)] 9 (by simp)).cast (by ac_rfl)
    have hK : ∀ m o, ((w5.drewN m).alloc o).cell? ⟨q, 3, none⟩ = some (.slice ts.a ts.len ts.cap) := fun m o => by
      rw [World.cell?_alloc_lt _ _ _ (by simpa using tl5)]; exact t0
    go_wp2_with fail
    go_region_law (first
      | (go_simp; go_at_call 128; (first | refine (string_w _ l w5.drew _ hl s6.swap.drew).mono ?_ | refine (string_w _ l _ _ hl (s6.swap.drewN _)).mono ?_ | refine (string_w _ l _ _ hl s6.swap).mono ?_); rintro e w6 ⟨rfl, m6, rfl⟩)
      | (refine step_append_sl (by rfl) (.tmp 49) (.tmp 51) 38 (by rfl) 9 i0 (.string ⟨#[]⟩) 1 16 Tryz.underlying38 hi hz0 hz1 hz2 rfl ts.v ts.len txt (by rfl) (hA _) ⟨w5.heap.size, 0, none⟩ 1 1 [.string (B.bs l.str)] (by rfl) rfl (cells_new _ _ _) (by intro u hu; simp at hu; rcases hu with rfl; rfl) (by unfold maxLen; omega) (by omega) (by decide) ?_; intro g7 c7 w7 s7 z7; have k7 : w7.cell? ⟨q, 3, none⟩ = some (.slice ts.a ts.len ts.cap) := s7.third.cell 3 rfl; have kf := fun i => s7.third.frozen i))
    all_goals
      have S8 := ((s7.third.set 3 (.slice (some ⟨g7, 0, none⟩) (ts.len + 1) c7)).cast (show _ = row w5.heap.size 9 [.string (B.bs l.str)] * (row w.heap.size 105 l.cells * (row (w.heap.size + 1) 105 Ln.zero.cells *
          (row p 96 x.cells * (row q 254 (fenceCells FB ⟨#[]⟩ 0 ⟨some ⟨g7, 0, none⟩, ts.len + 1, c7⟩) * (arr 9 1 (.slice (some ⟨g7, 0, none⟩) (ts.len + 1) c7) (ts.len + 1) (txt ++ [.string (B.bs l.str)]) * F))))) from by
                rw [show (fenceCells FB ⟨#[]⟩ 0 ts).set 3 (.slice (some ⟨g7, 0, none⟩) (ts.len + 1) c7) = fenceCells FB ⟨#[]⟩ 0 ⟨some ⟨g7, 0, none⟩, ts.len + 1, c7⟩ from rfl]; ac_rfl)).drop1
      clear s7 k7 kf hA hK s6 t0 s2
      generalize w7.setCell ⟨q, 3, none⟩ (.slice (some ⟨g7, 0, none⟩) (ts.len + 1) c7) = w8 at *
      obtain ⟨b0, b1, b2, b3, b4, bf⟩ := line_cells S8
      obtain ⟨a0, a1, a2, a3, a4, af⟩ := line_cells S8.swap
      have al := S8.swap.row_lt
      have s9 := S8.drop1.swap
      obtain ⟨f0, f1, f2, f3, f4, f5, f6, f7, f8, f9, f10, f11, fz, hlp⟩ := PSt.facts s9
      have hne : ¬ p = w.heap.size + 1 := s9.row_ne
      clear f0 f1 f2 f3 f4 f5 f7 f8 f9 f10 f11
      have S9 := Lib.hid s9
      clear S8 s9
      have fin : ∀ c : Bool, Sat ((((((w8.setCell ⟨p, 6, none⟩ (.bool c)).setCell ⟨w.heap.size + 1, 0, none⟩ (.int .i64 0)).setCell ⟨w.heap.size + 1, 1, none⟩ (.int .i64 0)).setCell ⟨w.heap.size + 1, 2, none⟩ (.int .i64 0)).setCell ⟨w.heap.size + 1, 3, none⟩ (.string ⟨#[]⟩)).setCell ⟨w.heap.size + 1, 4, none⟩ (.int .u8 0))
          (row p 96 { x with corner := c }.cells * (row q 254 (fenceCells FB ⟨#[]⟩ 0 ⟨some ⟨g7, 0, none⟩, ts.len + 1, c7⟩) * (arr 9 1 (.slice (some ⟨g7, 0, none⟩) (ts.len + 1) c7) (ts.len + 1) (txt ++ [.string (B.bs l.str)]) * F))) := fun c =>
        ((((((S9.out.set 6 (.bool c)).swap.set 0 _).set 1 _).set 2 _).set 3 _).set 4 _).drop1
      have FIN := Lib.hid fin
      clear fin
      cases hcor : x.corner
      · rw [hcor] at f6
        go_wp2
        refine bodyPost_ret (v := .tuple #[Ln.zero.agg, .bool true]) (by simp [results, Tryz.results334, go_sem, Ln.agg, Ln.zero, *]) rfl ⟨rfl, ⟨some ⟨g7, 0, none⟩, ts.len + 1, c7⟩, ((l.nl.toNat : Int) != 10), rfl, ?_⟩
        exact FIN.out _
      · rw [hcor] at f6
        go_wp2
        refine bodyPost_ret (v := .tuple #[Ln.zero.agg, .bool true]) (by simp [results, Tryz.results334, go_sem, Ln.agg, Ln.zero, *]) rfl ⟨rfl, ⟨some ⟨g7, 0, none⟩, ts.len + 1, c7⟩, true, rfl, ?_⟩
        exact FIN.out _

end Go.Proofs.YtmdabdpghcjplaaGreatDoor

/- A fence of tildes ends a fenced block of code: fenceBuilder.extend. -/
namespace Go.Proofs.YtmdabdpghcjplaaGreatDoor
open Go.RowKit Sl

set_option maxRecDepth 100000 in
set_option maxHeartbeats 2000000 in
theorem fenceClose_w (p q k k' : Nat) (l : Ln) (x : PSt) (ts : SV) (F : HP) (w : World) (hl : l.OK) (hsz : l.text.size ≤ 1000000) (ht : Tildes l k') (hk : 3 ≤ k) (hkk : k ≤ k') (hk2 : k' ≤ 1000000) (hE : ∀ w', Sat w' F → Ents w')
    (hs : Sat w (row p 96 x.cells * (row q 254 (fenceCells (B.bs (List.replicate k 126)) ⟨#[]⟩ 0 ts) * F))) :
    Calls Tryz.prog 334 #[.pointer (some ⟨q, 0, none⟩), .pointer (some ⟨p, 0, none⟩), l.agg] w fun e w' => e = .returned (.tuple #[Ln.zero.agg, .bool false]) ∧
      Sat w' (row p 96 x.cells * (row q 254 (fenceCells (B.bs (List.replicate k 126)) ⟨#[]⟩ 0 ts) * F)) := by
  have hpx : (B.bs (List.replicate k 126)).data.toList.isPrefixOf (B.bs (List.replicate k' 126)).data.toList = true := by
    rw [B.bs_data, B.bs_data]
    refine List.isPrefixOf_iff_prefix.2 ⟨List.replicate (k' - k) 126, ?_⟩
    rw [List.replicate_append_replicate]
    congr 1; omega
  have hfs : (B.bs (List.replicate k 126)).size ≤ 1000000000000 := by rw [B.bs_size, List.length_replicate]; omega
  have hgs : (B.bs (List.replicate k' 126)).size ≤ 1000000000000 := by rw [B.bs_size, List.length_replicate]; omega
  generalize B.bs (List.replicate k 126) = FB at hs hpx hfs ⊢
  have h1 := (hs.new (d := w.heap.size) l.cells 105 rfl).new (d := w.heap.size + 1) Ln.zero.cells 105 (by simp)
  have h2 := h1.new (d := w.heap.size + 2) [.string ⟨#[]⟩] 9 (by simp)
  have h3 := h2.new (d := w.heap.size + 3) [.string ⟨#[]⟩] 9 (by simp)
  have h4 := h3.new (d := w.heap.size + 4) [.int .i64 0] 3 (by simp)
  have h5 := h4.new (d := w.heap.size + 5) l.cells 105 (by simp)
  have h6 := h5.cast (show _ = row (w.heap.size + 5) 105 l.cells * (row (w.heap.size + 4) 3 [.int .i64 0] * (row (w.heap.size + 2) 9 [.string ⟨#[]⟩] * (row (w.heap.size + 3) 9 [.string ⟨#[]⟩] *
    (row w.heap.size 105 l.cells * (row (w.heap.size + 1) 105 Ln.zero.cells * (row q 254 (fenceCells FB ⟨#[]⟩ 0 ts) * (row p 96 x.cells * F))))))) from by ac_rfl)
  have H6 := Lib.hid h6
  have HT := Lib.hid ht
  clear h1 h2 h3 h4 h5 h6 hs ht
  unfold Ln.agg
  go_enter Tryz.func334, Tryz.ntmps334
  go_upto_region 4 with fail
  go_cut [25] (fun t25 wx => t25 = .bool true ∧ Sat wx (row (w.heap.size + 1) 105 Ln.zero.cells * (row q 254 (fenceCells FB ⟨#[]⟩ 0 ts) * (row p 96 x.cells * F))))
  case first =>
    refine Qt.wp_call_region 11 (by kernel_rfl) (by kernel_rfl) (by kernel_rfl) rfl (fun K hK => ?_)
    go_simp
    refine (trimFence_w (w.heap.size + 5) (w.heap.size + 2) (w.heap.size + 3) (w.heap.size + 4) l l 126 _ _ 0 _ _ hl hsz HT.out.item HT.out.peek (.inr rfl) (fun w' h => hE w' h.drop1.drop1.drop1.drop1) H6.out.drew).mono ?_
    rintro e w5 ⟨n, k2, r, ⟨hr1, hr2⟩, hn, hres⟩
    rw [HT.out.rest] at hr1
    obtain ⟨rfl, rfl⟩ := run_split hr1 hr2
    rcases hres with ⟨rfl, _, info, hinfo, s5⟩ | ⟨_, hno, _⟩
    · obtain rfl := hinfo rfl
      rw [bs_nil] at s5
      refine hK (fun w'' => ∃ m, w'' = w5.drewN m) _ _ ⟨0, rfl⟩ ?_
      clear hK K
      generalize B.bs (List.replicate k2 126) = GB at s5 hpx hgs
      have a0 : w5.cell? ⟨w.heap.size + 2, 0, none⟩ = some (.string GB) := s5.third.cell 0 rfl
      have a1 : w5.cell? ⟨q, 0, none⟩ = some (.string FB) := s5.drop1.drop1.drop1.drop1.third.cell 0 rfl
      have a2 : w5.cell? ⟨w.heap.size + 3, 0, none⟩ = some (.string ⟨#[]⟩) := s5.drop1.third.cell 0 rfl
      have hpw := fun m => hasPrefix_w GB FB (w5.drewN m) hgs hfs
      rw [hpx] at hpw
      have HPW := Lib.hid hpw
      clear hpw hpx hr1 hr2 hn hinfo
      simp only [List.take_succ_cons, List.take_zero, List.drop_succ_cons, List.drop_zero]
      repeat (quiet_step ((go_at_call 33; exact quiet_same (HPW.out _))))
      refine wpQuiet_nil ?_
      rintro _ ⟨m, rfl⟩
      go_wp2
      go_meet
      exact ⟨rfl, (s5.drewN m).drop1.drop1.drop1.drop1.drop1⟩
    · rcases hno with h | h
      · omega
      · exact absurd h (by decide)
  case rest =>
    obtain ⟨rfl, s1⟩ := hcut
    clear H6 hpx
    obtain ⟨a0, a1, a2, a3, a4, af⟩ := line_cells s1
    have al := s1.row_lt
    have S1 := Lib.hid s1
    clear s1
    go_wp2
    refine bodyPost_ret (v := .tuple #[Ln.zero.agg, .bool false]) (by simp [results, Tryz.results334, go_sem, Ln.agg, Ln.zero, *]) rfl ⟨rfl, ?_⟩
    exact (((((S1.out.set 0 _).set 1 _).set 2 _).set 3 _).set 4 _).drop1.swap

end Go.Proofs.YtmdabdpghcjplaaGreatDoor
