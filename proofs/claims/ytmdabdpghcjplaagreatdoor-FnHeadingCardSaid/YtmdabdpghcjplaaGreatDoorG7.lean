/- newATXHeading where marks stand: a heading is laid into the innermost open block. -/
import Derived.Test.YtmdabdpghcjplaaGreatDoorG6
import Derived.Test.YtmdabdpghcjplaaGreatDoorH3
import Derived.Test.YtmdabdpghcjplaaGreatDoorA1
import Derived.Deep.RegionLaw
import Derived.Deep.DeepCutAuto
namespace Go.Proofs.YtmdabdpghcjplaaGreatDoor
open Go.RowKit Sl

theorem dropWhile_le (q : UInt8 → Bool) : ∀ l : List UInt8, (l.dropWhile q).length ≤ l.length
  | [] => Nat.le_refl _
  | a :: r => by
    rw [List.dropWhile_cons]
    split
    · have := dropWhile_le q r
      simp only [List.length_cons]
      omega
    · exact Nat.le_refl _
theorem trimR_le (l : List UInt8) : (B.trimR l).length ≤ l.length := by
  unfold B.trimR
  rw [List.length_reverse]
  exact Nat.le_trans (dropWhile_le _ _) (by simp)
theorem strip35_le (l : List UInt8) : (strip35 l).length ≤ l.length := by
  unfold strip35
  rw [List.length_reverse]
  exact Nat.le_trans (dropWhile_le _ _) (by simp)

theorem dsp_parser {w : World} {pb p : Nat} {oc : List Value} {v : DV} {F : HP} (hs : Sat w (Dsp pb oc v p * F)) : w.cell? ⟨p, 0, none⟩ = some (.pointer (some ⟨pb, 0, none⟩)) ∧ (∀ j x, oc[j]? = some x → w.cell? ⟨pb, j, none⟩ = some x) ∧ w.cell? ⟨p, 3, none⟩ = some (.int .i64 v.n) ∧ p < w.heap.size := by
  obtain ⟨h, _, h1⟩ := dsp_iff.1 hs
  obtain ⟨f0, f1, f2, f3, f4, f5, f6, f7, f8, f9, f10, f11, fz, hlp⟩ := PSt.facts h1
  refine ⟨f0, fun j x hj => ?_, f3, hlp⟩
  exact (h1.cast (show _ = row pb 78 oc * (row p 96 (v.ps pb h).cells * (arr 122 4 (.slice (some ⟨h.g, 0, none⟩) v.obs.length h.cap) v.obs.length (obCells v.obs) * (obOwn v.obs * (arr 106 1 h.tx.v h.tx.len v.ptrs * F)))) from by ac_rfl)).cell j hj

set_option maxRecDepth 100000 in
set_option maxHeartbeats 4000000 in
theorem newATX_does (pb p : Nat) (oc : List Value) (v : DV) (pre : List OB) (o : OB) (l lv : Ln) (lev : Nat) (F : HP) (w : World) (hl : l.OK) (hh : l.heading = some (lev, lv)) (hlv : lv.str.length ≤ 1000000) (hoc : oc[0]? = some (.bool false))
    (ho : v.obs = pre ++ [o]) (hd : v.dep = pre.length) (hi : o.items.length < 1000000000) (hp : v.ptrs.length < 1000000000) (hs : Sat w (Dsp pb oc v p * F)) :
    Calls Tryz.prog 88 #[.pointer (some ⟨p, 0, none⟩), l.agg] w fun e w' => e = .returned (.tuple #[Ln.zero.agg, .bool true]) ∧ ∃ (tb d : Nat) (inn : SV),
      Sat w' (Dsp pb oc { v with obs := pre ++ [{ o with inn := inn, items := o.items ++ [.iface 233 (.pointer (some ⟨d, 0, none⟩))] }], ptrs := v.ptrs ++ [.pointer (some ⟨tb, 0, none⟩)] } p *
        (row d 236 [.int .i64 v.n, .int .i64 v.n, .int .i64 lev, .pointer (some ⟨tb, 0, none⟩), .string ⟨#[]⟩] * (row tb 111 [.int .i64 v.n, .int .i64 v.n, .slice none 0 0, .string (B.bs (atxText lv.str))] * F))) := by
  have h1 : Sat (w.alloc (.cells l.cells.toArray 105)) (row w.heap.size 105 l.cells * _) := hs.new _ _ rfl
  have h2 := h1.new (d := w.heap.size + 1) Ln.zero.cells 105 (by simp)
  have h3 := h2.new (d := w.heap.size + 2) l.cells 105 (by simp)
  have h4 := h3.new (d := w.heap.size + 3) [.int .i64 0] 3 (by simp)
  have h5 := h4.cast (show _ = row (w.heap.size + 2) 105 l.cells * (row (w.heap.size + 3) 3 [.int .i64 0] * (row (w.heap.size + 1) 105 Ln.zero.cells * (row w.heap.size 105 l.cells * (Dsp pb oc v p * F)))) from by ac_rfl)
  have hth := fun w hs => trimHeading_w (w.heap.size + 2) (w.heap.size + 3) l 0 w (row (w.heap.size + 1) 105 Ln.zero.cells * (row w.heap.size 105 l.cells * (Dsp pb oc v p * F))) hl hs
  have hT := trimHeading_w (w.heap.size + 2) (w.heap.size + 3) l 0 _ _ hl h5
  rw [hh] at hT
  simp only [Option.isSome_some, Option.map_some, Option.getD_some] at hT
  have HT := Lib.hid hT
  have hvok := (Ln.heading_ok hl hh).1
  clear h1 h2 h3 h4 h5 hth hT hs
  unfold Ln.agg
  go_enter Tryz.func88, Tryz.ntmps88
  go_wp2_with fail
  refine HT.out.mono ?_
  rintro e w1 ⟨rfl, s1⟩
  go_wp2_with fail
  refine (string_w _ lv _ _ hvok s1).mono ?_
  rintro e w2 ⟨rfl, m, rfl⟩
  go_wp2_with fail
  refine (trimRight_w lv.str _ (by omega)).mono ?_
  rintro e w2 ⟨rfl, rfl⟩
  have hl1 : (B.trimR lv.str).length ≤ 1000000 := Nat.le_trans (trimR_le _) hlv
  have hl2 : (strip35 (B.trimR lv.str)).length ≤ 1000000 := Nat.le_trans (strip35_le _) hl1
  have hat : atxText lv.str = if strip35 (B.trimR lv.str) ≠ B.trimR (strip35 (B.trimR lv.str)) ∨ strip35 (B.trimR lv.str) = [] then strip35 (B.trimR lv.str) else B.trimR lv.str := rfl
  have HAT := Lib.hid hat
  clear hat
  have hst := fun w => strip35_w (B.trimR lv.str) w (by omega)
  have htr := fun w => trimRight_w (strip35 (B.trimR lv.str)) w (by omega)
  have HST := Lib.hid hst
  have HTR := Lib.hid htr
  have hdp := dsp_parser (s1.cast (show _ = Dsp pb oc v p * (row (w.heap.size + 2) 105 lv.cells * (row (w.heap.size + 3) 3 [.int .i64 lev] * (row (w.heap.size + 1) 105 Ln.zero.cells * (row w.heap.size 105 l.cells * F)))) from by ac_rfl))
  obtain ⟨q0, q1, q3, qlp⟩ := hdp
  have qh := q1 0 _ hoc
  clear q1 hoc
  have c7 : w1.cell? ⟨w.heap.size + 3, 0, none⟩ = some (.int .i64 lev) := s1.swap.cell 0 rfl
  have S1 := Lib.hid (s1.drewN m)
  clear hst htr s1 HT
  go_wp2_with fail
  refine (HST.out _).mono ?_
  rintro e w2 ⟨rfl, m2, rfl⟩
  go_wp2_with fail
  refine (HTR.out _).mono ?_
  rintro e w2 ⟨rfl, rfl⟩
  clear HST HTR
  generalize strip35 (B.trimR lv.str) = t at *
  generalize B.trimR lv.str = u at *
  generalize B.trimR t = t' at *
  have hcase : (((B.bs t).toList == (B.bs t').toList) = false ∧ atxText lv.str = t) ∨ (((B.bs t).toList == (B.bs t').toList) = true ∧ (B.bs t).toList.isEmpty = true ∧ atxText lv.str = t) ∨ (((B.bs t).toList == (B.bs t').toList) = true ∧ (B.bs t).toList.isEmpty = false ∧ atxText lv.str = u) := by
    rw [Lib.toList_data, Lib.toList_data, B.bs_data, B.bs_data]
    by_cases hne : t = t'
    · by_cases hn : t = []
      · exact .inr (.inl ⟨by simp [hne], by simp [hn], by rw [HAT.out, if_pos (.inr hn)]⟩)
      · exact .inr (.inr ⟨by simp [hne], by simpa using hn, by rw [HAT.out, if_neg (by intro h; rcases h with h | h; exact h hne; exact hn h)]⟩)
    · exact .inl ⟨by simpa using hne, by rw [HAT.out, if_pos (.inl hne)]⟩
  rcases hcase with ⟨e1, hs'⟩ | ⟨e1, e2, hs'⟩ | ⟨e1, e2, hs'⟩
  all_goals
    have HS' := Lib.hid hs'
    clear hs' HAT
    go_wp2_with fail
    have hS : Sat (w1.drewN (m + m2)) _ := S1.out
    have q3' : (w1.drewN (m + m2)).cell? ⟨p, 3, none⟩ = some (.int .i64 v.n) := q3
    have qlp' : p < (w1.drewN (m + m2)).heap.size := qlp
    clear q0 q3 qlp qh c7 S1 e1
    generalize w1.drewN (m + m2) = w9 at *
    generalize hR : row (w.heap.size + 2) 105 lv.cells * (row (w.heap.size + 3) 3 [.int .i64 lev] * (row (w.heap.size + 1) 105 Ln.zero.cells * (row w.heap.size 105 l.cells * (Dsp pb oc v p * F)))) = R at hS
    go_cut [13] (fun t13 wx => ∃ b : Nat, t13 = .pointer (some ⟨b, 0, none⟩) ∧ Sat wx (row b 109 [.int .i64 v.n, .int .i64 v.n] * R))
    case first =>
      go_region
      all_goals
        go_wp2
        go_meet
        exact ⟨_, rfl, (hS.new [.int .i64 v.n, .int .i64 v.n] 109 rfl).drew⟩
    case rest =>
      obtain ⟨b, rfl, s6⟩ := hcut
      subst hR
      have s7 := s6.cast (show _ = Dsp pb oc v p * (row b 109 [.int .i64 v.n, .int .i64 v.n] * (row (w.heap.size + 3) 3 [.int .i64 lev] * (row (w.heap.size + 1) 105 Ln.zero.cells * (row (w.heap.size + 2) 105 lv.cells * (row w.heap.size 105 l.cells * F))))) from by ac_rfl)
      have b0 : wc.cell? ⟨b, 0, none⟩ = some (.int .i64 v.n) := s7.swap.cell 0 rfl
      have b1 : wc.cell? ⟨b, 1, none⟩ = some (.int .i64 v.n) := s7.swap.cell 1 rfl
      have c7 : wc.cell? ⟨w.heap.size + 3, 0, none⟩ = some (.int .i64 lev) := s7.third.cell 0 rfl
      have S7 := Lib.hid s7
      clear s6 s7 hS q3' qlp'
      have HNT := Lib.hid (fun (raw : List UInt8) (w : World) (F : HP) hs => newText_d pb p oc v v.n v.n raw F w hp hs)
      have HDB := Lib.hid (fun (tb : Nat) (bp : Option Addr) (w : World) (F : HP) hs => doneBlock_d pb p oc { v with ptrs := v.ptrs ++ [.pointer (some ⟨tb, 0, none⟩)] } pre o 233 bp F w ho hd hi hs)
      go_wp2_with fail
      go_region_law (first
        | (go_simp; go_at_call 134; (first | refine (HNT.out _ wc.drew _ S7.out.drew).mono ?_ | refine (HNT.out _ _ _ (S7.out.drewN _)).mono ?_); rintro e5 w5 ⟨tb, rfl, s8⟩; have b0' : w5.cell? ⟨b, 0, none⟩ = some (.int .i64 v.n) := s8.third.cell 0 rfl; have b1' : w5.cell? ⟨b, 1, none⟩ = some (.int .i64 v.n) := s8.third.cell 1 rfl; have c7' : w5.cell? ⟨w.heap.size + 3, 0, none⟩ = some (.int .i64 lev) := s8.third.drop1.third.cell 0 rfl)
        | (go_simp; go_at_call 133; have s9 := (s8.new (d := w5.heap.size) [.int .i64 v.n, .int .i64 v.n, .int .i64 lev, .pointer (some ⟨tb, 0, none⟩), .string ⟨#[]⟩] 236 rfl).swap; refine (HDB.out tb _ _ _ s9).mono ?_; rintro e6 w6 ⟨rfl, inn, s10⟩))
      all_goals
        have s11 := s10.cast (show _ = row (w.heap.size + 1) 105 Ln.zero.cells * ((Dsp pb oc _ p * (row w5.heap.size 236 [.int .i64 v.n, .int .i64 v.n, .int .i64 lev, .pointer (some ⟨tb, 0, none⟩), .string ⟨#[]⟩] * (row tb 111 [.int .i64 v.n, .int .i64 v.n, .slice none 0 0, .string _] * F))) * (row b 109 [.int .i64 v.n, .int .i64 v.n] * (row (w.heap.size + 3) 3 [.int .i64 lev] * (row (w.heap.size + 2) 105 lv.cells * row w.heap.size 105 l.cells)))) from by ac_rfl)
        obtain ⟨a0, a1, a2, a3, a4, af⟩ := line_cells s11
        have HZ := Lib.hid s11
        clear s8 s9 s10 s11 S7 b0 b1 c7 b0' b1' c7'
        go_wp2
        refine bodyPost_ret (v := .tuple #[Ln.zero.agg, .bool true]) (by simp [results, Tryz.results88, go_sem, Ln.agg, Ln.zero, *]) rfl ⟨rfl, tb, w5.heap.size, inn, ?_⟩
        rw [HS'.out]
        exact ((((((HZ.out.set 0 _).set 1 _).set 2 _).set 3 _).set 4 _).drop1).left

end Go.Proofs.YtmdabdpghcjplaaGreatDoor
