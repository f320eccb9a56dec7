/- startHTML where a tag of the seventh kind begins the line. -/
import Derived.Test.YtbfmmikllelfeaaGreatDoorHe
import Derived.Test.YtbfmmikllelfeaaGreatDoorHf
namespace Go.Proofs.YtbfmmikllelfeaaGreatDoor
open Go.RowKit Sl

set_option maxRecDepth 100000 in
set_option maxHeartbeats 8000000 in
theorem startOwn_w (pb p b : Nat) (oc : List Value) (v v' : DV) (R R' : HP) (x : Ln) (t nm r : List UInt8) (c : UInt8) (F : HP) (w : World) (hx : x.OK) (hh : Heads x 60) (ht : x.rest = t) (htl : t.length ≤ 100000000) (htag : TagT t nm r c) (hc : c = 45) (hown : t.drop 0 = ownTag) (pre : List OB) (o : OB) (TP : TypeId) (bvP : Value) (ho : v.obs = pre ++ [o]) (hbv : o.bv = .iface TP bvP) (hTP : ∀ w, (Instr.typeAssert (.iface TP bvP) 195 258 true).run Tryz.prog w = .ok (.tuple #[.pointer none, .bool false]) w)
    (htr : Trims pb oc p v R (Dsp pb oc v' p * R')) (hd : v'.dep + 1 = v'.obs.length) (hdep : v'.dep = v.dep) (hn : v'.obs.length < 1000000000)
    (hs : Sat w (row b 181 x.cells * (Dsp pb oc v p * (R * F)))) :
    Calls Tryz.prog 204 #[.pointer (some ⟨p, 0, none⟩), .pointer (some ⟨b, 0, none⟩)] w fun e' w' => e' = .returned (.bool true) ∧ ∃ lx : LX, HK.blank.fits lx ∧
      Sat w' (Dsp pb oc { v' with obs := v'.obs ++ (Leaf.html v'.n v'.n HK.blank [t]).obs lx } p * ((Leaf.html v'.n v'.n HK.blank [t]).own lx * (R' * (row b 181 x.cells * F)))) := by
  obtain ⟨i0, hi9, hz0, hz1, hz2⟩ := info_parts info_string
  obtain ⟨j0, jj9, jz0, jz1, jz2⟩ := info_parts info_byte
  have h2 := hs.new (d := w.heap.size) x.cells 181 (by simp)
  obtain ⟨c0, c1, c2, c3, c4, cf⟩ := line_cells hs
  have hbl := hs.row_lt
  have hi : (x.trimSpace 0 3 false).getD x = x := hh.indent
  have hpk := hh.peek
  have hst : x.str = t := by rw [hh.str, ht]
  have hno := fun (a : UInt8) (s : List UInt8) (ha : a.toNat < 97) => htag.no a s ha
  obtain ⟨ta1, ta2, ta3⟩ := htag.at
  have hget : ∀ k c, t[k]? = some c → ∀ hh, (B.bs t)[k]'hh = c := fun k c hk hh => (List.getElem?_eq_some_iff.1 hk).2
  have hlow := htag.low
  have hnl := htag.len
  have hend := htag.end_
  have hnpos : 0 < nm.length := List.length_pos_iff.2 htag.ne
  have hmk : ∀ w, (Instr.makeSlice 44 (.int .i64 0) (.int .i64 16)).run Tryz.prog w = .ok (.slice (some ⟨w.heap.size, 0, none⟩) 0 16) (w.alloc (.cells (madeCells #[.int .u8 0] 16) 5)) := fun w => by
    have := run_make (P := Tryz.prog) w 44 5 j0 _ Tryz.underlying44 jj9 jz0 .i64 .i64 0 16 (by omega) (by omega) (by rw [jz2]; omega) (by omega)
    rw [jz1] at this
    simpa [Value.cells] using this
  have HI := Lib.hid hi
  have HP := Lib.hid hpk
  have HST := Lib.hid hst
  have H2 := Lib.hid h2
  have HTR := Lib.hid htr
  have HDD := Lib.hid (And.intro hd (And.intro hdep hn))
  have HTA1 := Lib.hid ta1
  have HTA2 := Lib.hid ta2
  have HGET := Lib.hid hget
  have HLOW := Lib.hid hlow
  have HEND := Lib.hid hend
  have hz : (B.bs t).size = t.length := rfl
  clear h2 hs hi hpk hst htr hd hdep hn ht hh ta1 ta2 hget hlow hend htag
  have heq := eq_nil_para
  go_enter Tryz.func204, Tryz.ntmps204
  go_wp2
  refine wp_scope_label 0 (fun n a w' => n = 0 ∧ ∃ g cap, HFrame (.pointer (some ⟨p, 0, none⟩)) (.pointer (some ⟨b, 0, none⟩)) (.string (B.bs t)) (.int .i64 (1 + nm.length : Nat)) (.slice (some ⟨g, 0, none⟩) nm.length cap) a ∧
    Sat w' (arr 5 1 (.slice (some ⟨g, 0, none⟩) nm.length cap) nm.length (u8v nm) * (row b 181 x.cells * (Dsp pb oc v p * (R * F))))) rfl ?_ ?_
  · subst hc
    rintro n a w' ⟨_, g, cap, ha, h⟩
    obtain ⟨u, rfl⟩ := ha.open
    clear ha H2 hno HI HP
    have hx1 : ∀ hh, (B.bs t)[1]'hh = nm[0]'hnpos := HGET.out 1 _ (by have := HTA1.out 0 hnpos; simpa using this)
    have hlo1 := HLOW.out (nm[0]'hnpos) (List.getElem_mem _)
    generalize nm[0]'hnpos = a0 at hx1 hlo1
    have hxk := HGET.out _ _ HTA2.out
    have hk1 : 1 + nm.length < t.length := by omega
    obtain ⟨pg, pcap, p4, _, p0, _, hpn⟩ := dsp_top ho h.third
    rw [hbv] at p0
    have S6 := Lib.hid h
    clear h
    go_wp2_with fail
    refine (para_none p pg pre.length pcap TP bvP _ hpn p4 p0 hTP).mono ?_
    rintro e' w2 ⟨rfl, m2, hm2⟩
    have s7 : Sat w2 (row b 181 x.cells * (Dsp pb oc v p * (R * F))) := by rw [hm2]; exact (S6.out.drewN m2).drop1
    clear hm2 S6 p4 p0
    have S7 := Lib.hid s7
    clear s7
    go_wp2_with fail
    refine (openTag_w _ t 0 w2 _ (by omega) hown S7.out).mono ?_
    rintro e' w5 ⟨dt, rfl, s8⟩
    have S6 := Lib.hid s8.drop1
    clear s8 S7
    go_wp2_with fail
    refine (skipSpace_end t w5 (by omega)).mono ?_
    rintro e' w6 ⟨rfl, rfl⟩
    go_wp2_with fail
    have s7 := S6.out
    have hsz : w5.heap.size = w5.heap.size := rfl
    generalize hQ : w5.heap.size = q at hsz ⊢
    have s8 := (s7.new (d := q) [.bool true, .slice none 0 0, .nilFunc] 358 hQ.symm).cast (show _ = Dsp pb oc v p * (R * (row q 358 [.bool true, .slice none 0 0, .nilFunc] * (row b 181 x.cells * F))) from by ac_rfl)
    have HAB := Lib.hid (addBlock_t pb p oc v v' R R' 356 (some ⟨q, 0, none⟩) _ _ HTR.out HDD.out.1 HDD.out.2.1 HDD.out.2.2 s8)
    clear s7 s8 S6
    refine HAB.out.mono ?_
    rintro e' w8 ⟨rfl, s9⟩
    clear HAB
    have s8 := s9.cast (show _ = row q 358 [.bool true, .slice none 0 0, .nilFunc] * (row b 181 x.cells * (Dsp pb oc { v' with obs := v'.obs ++ [⟨.iface 356 (.pointer (some ⟨q, 0, none⟩)), ⟨none, 0, 0⟩, [], v'.n, v'.n⟩] } p * (R' * F))) from by ac_rfl)
    have t0 : w8.cell? ⟨q, 1, none⟩ = some (.slice none 0 0) := s8.cell 1 rfl
    have tf := fun i => s8.frozen i
    have tl := s8.row_lt
    obtain ⟨z0, z1, z2, z3, z4, zf⟩ := line_cells s8.swap
    have zl := s8.swap.row_lt
    clear s9 HTR HDD hQ hsz
    have hA : ∀ m, Sat ((w8.drewN m).alloc (.cells #[.string (B.bs t)] 9)) (arr 9 1 (.slice none 0 0) 0 [] * (row w8.heap.size 9 [.string (B.bs t)] * (row q 358 [.bool true, .slice none 0 0, .nilFunc] * _))) := fun m => by
      rw [arr_nil, emp_star]
      exact (s8.drewN m).new (d := w8.heap.size) [.string (B.bs t)] 9 (by simp)
    have hK : ∀ m o, ((w8.drewN m).alloc o).cell? ⟨q, 1, none⟩ = some (.slice none 0 0) := fun m o => by
      rw [World.cell?_alloc_lt _ _ _ (by simpa using tl)]; exact t0
    go_wp2_with fail
    go_region_law (first
      | (go_simp; go_at_call 190; (first | refine (string_w _ x w8.drew _ hx s8.swap.drew).mono ?_ | refine (string_w _ x _ _ hx (s8.swap.drewN _)).mono ?_); rw [HST.out]; rintro e7 w7 ⟨rfl, m7, rfl⟩)
      | (refine step_append_sl (by rfl) (.tmp 328) (.tmp 331) 31 (by rfl) 9 i0 (.string ⟨#[]⟩) 1 16 Tryz.underlying31 hi9 hz0 hz1 hz2 rfl (.slice none 0 0) 0 [] (by rfl) (hA _) ⟨w8.heap.size, 0, none⟩ 1 1 [.string (B.bs t)] (by rfl) rfl (cells_new _ _ _) (by intro u hu; simp at hu; rcases hu with rfl; rfl) (by unfold maxLen; omega) (by decide) (by decide) ?_; intro g7 c7 w7 s9 z9; have k7 : w7.cell? ⟨q, 1, none⟩ = some (.slice none 0 0) := s9.third.cell 1 rfl; have kf := fun i => s9.third.frozen i))
    all_goals
      have s10 := s9.third.set 1 (.slice (some ⟨g7, 0, none⟩) 1 c7)
      have s11 := s10.cast (show _ = row w8.heap.size 9 [.string (B.bs t)] * (row q 358 [.bool true, .slice (some ⟨g7, 0, none⟩) 1 c7, .nilFunc] * (row b 181 x.cells * (arr 9 1 (.slice (some ⟨g7, 0, none⟩) 1 c7) 1 [.string (B.bs t)] * (Dsp pb oc { v' with obs := v'.obs ++ [⟨.iface 356 (.pointer (some ⟨q, 0, none⟩)), ⟨none, 0, 0⟩, [], v'.n, v'.n⟩] } p * (R' * F))))) from by
        show row q 358 [.bool true, .slice (some ⟨g7, 0, none⟩) 1 c7, .nilFunc] * (arr 9 1 (.slice (some ⟨g7, 0, none⟩) 1 c7) 1 [.string (B.bs t)] * (row w8.heap.size 9 [.string (B.bs t)] * (row b 181 x.cells * _))) = _
        ac_rfl)
      have S12 := Lib.hid s11.drop1
      clear s9 s10 s11 k7 kf hA hK s8 t0 z0 z1 z2 z3 z4 zf tf
      go_wp2
      refine jump_ret ?_
      refine bodyPost_ret (v := .bool true) (by simp [results, Tryz.results204, go_sem]) rfl ⟨rfl, ⟨q, ⟨some ⟨g7, 0, none⟩, 1, c7⟩, 0, .nilFunc⟩, rfl, ?_⟩
      refine S12.out.cast ?_
      show _ = Dsp pb oc { v' with obs := v'.obs ++ [⟨.iface 356 (.pointer (some ⟨q, 0, none⟩)), ⟨none, 0, 0⟩, [], v'.n, v'.n⟩] } p * ((row q 358 [.bool true, .slice (some ⟨g7, 0, none⟩) 1 c7, .nilFunc] * (arr 9 1 (.slice (some ⟨g7, 0, none⟩) 1 c7) 1 [.string (B.bs t)] * emp)) * (R' * (row b 181 x.cells * F)))
      rw [star_emp]
      ac_rfl
  · intro hpass
    clear hpass
    go_wp2_with fail
    refine (trimSpace_w _ x 0 3 false _ _ hx (by decide) H2.out).mono ?_
    rintro e' w1 ⟨rfl, s1⟩
    rw [HI.out] at s1
    go_wp2_with fail
    refine (peek_w _ x _ _ hx s1).mono ?_
    rintro e' w2 ⟨rfl, m, hm2⟩
    rw [HP.out]
    have s2 : Sat w2 (row w.heap.size 181 x.cells * (row b 181 x.cells * (Dsp pb oc v p * (R * F)))) := by rw [hm2]; exact s1.drewN m
    clear s1 hm2 H2
    have S2 := Lib.hid s2
    clear s2
    go_wp2_with fail
    refine (string_w _ x _ _ hx S2.out).mono ?_
    rintro e' w3 ⟨rfl, m3, hm3⟩
    rw [HST.out]
    have s3 : Sat w3 (row w.heap.size 181 x.cells * (row b 181 x.cells * (Dsp pb oc v p * (R * F)))) := by rw [hm3]; exact S2.out.drewN m3
    clear hm3 S2
    have S4 := Lib.hid ((s3.drop1.new (d := w3.heap.size) [.string ⟨#[]⟩] 9 rfl).drop1)
    have cb0 := ((s3.drop1.new (d := w3.heap.size) [.string ⟨#[]⟩] 9 rfl)).cell 0 rfl
    clear s3
    go_wp2_with fail
    refine (hp_w t [60, 33, 45, 45] _ _ (by omega) (by decide) (hno 33 [45, 45] (by decide))).mono ?_
    rintro e' w5 ⟨rfl, rfl⟩
    go_wp2_with fail
    refine (hp_w t [60, 63] _ _ (by omega) (by decide) (hno 63 [] (by decide))).mono ?_
    rintro e' w5 ⟨rfl, rfl⟩
    go_wp2_with fail
    refine (hp_w t [60, 33, 91, 67, 68, 65, 84, 65, 91] _ _ (by omega) (by decide) (hno 33 [91, 67, 68, 65, 84, 65, 91] (by decide))).mono ?_
    rintro e' w5 ⟨rfl, rfl⟩
    go_wp2_with fail
    refine (hp_w t [60, 33] _ _ (by omega) (by decide) (hno 33 [] (by decide))).mono ?_
    rintro e' w5 ⟨rfl, rfl⟩
    have s4 := S4.out
    generalize w3.alloc (.cells #[.string ⟨#[]⟩] 9) = w4 at s4 cb0 ⊢
    generalize w3.heap.size = cb at cb0 ⊢
    clear S4
    have t1 := HTA1.out 0 hnpos
    generalize ha0 : nm[0]'hnpos = a0 at t1
    have hx1 := HGET.out _ _ t1
    have hlo1 := HLOW.out a0 (by rw [← ha0]; exact List.getElem_mem _)
    simp only [Nat.add_zero] at hx1
    have HA0 := Lib.hid ha0
    clear t1 ha0
    go_wp2_with fail
    have s5 := arr_made2 w4 16 5 (.int .u8 0) _ (by decide) s4
    clear s4 cb0 hx1
    refine wp_loop (fun a wr => ∃ (k g cap : Nat), k ≤ nm.length ∧ HFrame (.pointer (some ⟨p, 0, none⟩)) (.pointer (some ⟨b, 0, none⟩)) (.string (B.bs t)) (.int .i64 (1 + k : Nat)) (.slice (some ⟨g, 0, none⟩) k cap) a ∧
        Sat wr (arr 5 1 (.slice (some ⟨g, 0, none⟩) k cap) k (u8v (nm.take k)) * (row b 181 x.cells * (Dsp pb oc v p * (R * F)))))
      (fun a _ => 20 - (intOf (a.tmps.getD 9 undef)).toNat) ⟨0, _, 16, Nat.zero_le _, ⟨rfl, rfl, rfl, rfl, rfl, rfl, rfl⟩, s5⟩ ?_
    clear s5
    rintro a wr ⟨k, g, cap, hk, ha, h⟩
    obtain ⟨u, rfl⟩ := ha.open
    clear ha
    by_cases hlt : k < nm.length
    · have t1 := HTA1.out k hlt
      generalize hak : nm[k]'hlt = ak at t1
      have hxk := HGET.out _ _ t1
      have hlok := HLOW.out ak (by rw [← hak]; exact List.getElem_mem _)
      have htk : u8v (nm.take (k + 1)) = u8v (nm.take k) ++ [.int .u8 ak.toNat] := by unfold u8v; rw [List.take_succ_eq_append_getElem hlt, List.map_append, hak]; rfl
      have HTK := Lib.hid htk
      have hB := (h.new (d := wr.heap.size) [.int .u8 ak.toNat] 5 rfl).cast (show _ = arr 5 1 (.slice (some ⟨g, 0, none⟩) k cap) k (u8v (nm.take k)) * (row wr.heap.size 5 [.int .u8 ak.toNat] * (row b 181 x.cells * (Dsp pb oc v p * (R * F)))) from by ac_rfl)
      have HB := Lib.hid hB
      clear hB h t1 hak htk
      have hk1 : 1 + k < t.length := by omega
      have hk16 : k < 16 := by omega
      go_wp2_with (at_builtin; refine wpList_append_sl rfl (.tmp 146) (.tmp 148) 44 rfl 5 j0 (.int .u8 0) 1 1 Tryz.underlying44 jj9 jz0 jz1 jz2 rfl (.slice (some ⟨g, 0, none⟩) k cap) k _ (by rfl) HB.out ⟨wr.heap.size, 0, none⟩ 1 1 [.int .u8 ak.toNat] (by rfl) rfl ?c1 ?c2 ?c3 ?c4 (by decide) ?_)
      case c2 => rfl
      case c3 => unfold maxLen; omega
      case c4 => omega
      intro g2 cap2 w2 hs2 _
      have S2 := Lib.hid hs2.drop2
      clear hs2 HB
      go_wp2
      refine ⟨⟨k + 1, g2, cap2, by omega, ⟨rfl, rfl, rfl, rfl, rfl, by show some (Value.int .i64 _) = _; congr 2, rfl⟩, ?_⟩, ?_⟩
      · rw [HTK.out]
        exact S2.out
      · show 20 - ((1 + k : Nat) + 1 : Int).toNat < 20 - ((1 + k : Nat) : Int).toNat
        omega
    · obtain rfl : k = nm.length := by omega
      have hxk := HGET.out _ _ HTA2.out
      have hk1 : 1 + nm.length < t.length := by omega
      have hk16 : nm.length < 16 := by omega
      rw [List.take_length] at h
      have H := Lib.hid h
      clear h
      subst hc
      go_wp2
      refine wp_goto ?_
      refine ⟨rfl, 0, rfl, g, cap, ⟨rfl, rfl, rfl, rfl, rfl, rfl, rfl⟩, ?_⟩
      exact H.out

end Go.Proofs.YtbfmmikllelfeaaGreatDoor
