/- A paragraph begins: newPara where no paragraph is open. -/
import Derived.Test.YtbfmmikllelfeaaGreatDoorG2
import Derived.Test.YtbfmmikllelfeaaGreatDoorG5
import Derived.Test.YtbfmmikllelfeaaGreatDoorN8
import Derived.Test.YtbfmmikllelfeaaGreatDoorN3
import Derived.Test.YtbfmmikllelfeaaGreatDoorSk
import Derived.Test.YtbfmmikllelfeaaGreatDoorKi
import Derived.Test.YtbfmmikllelfeaaGreatDoorSh
namespace Go.Proofs.YtbfmmikllelfeaaGreatDoor
open Go.RowKit Sl

theorem addBlock_d (pb p : Nat) (oc : List Value) (v : DV) (T : TypeId) (bp : Option Addr) (F : HP) (w : World) (hd : v.dep + 1 = v.obs.length) (hn : v.obs.length < 1000000000) (hs : Sat w (Dsp pb oc v p * F)) :
    Calls Tryz.prog 88 #[.pointer (some ⟨p, 0, none⟩), .iface T (.pointer bp)] w fun e w' => e = .returned (.tuple #[]) ∧ Sat w' (Dsp pb oc { v with obs := v.obs ++ [⟨.iface T (.pointer bp), ⟨none, 0, 0⟩, [], v.n, v.n⟩] } p * F) := by
  obtain ⟨h, ⟨hf1, hf2, hf3, hf4⟩, h1⟩ := dsp_iff.1 hs
  refine (addBlock_w p v.obs.length T bp (v.ps pb h) (obCells v.obs) _ w (by omega) hd rfl h1).mono ?_
  rintro e w' ⟨rfl, g, cap, h5⟩
  have hlen : (v.obs ++ [(⟨.iface T (.pointer bp), ⟨none, 0, 0⟩, [], v.n, v.n⟩ : OB)]).length = v.obs.length + 1 := by rw [List.length_append]; rfl
  refine ⟨rfl, dsp_iff.2 ⟨⟨g, cap, h.corner, h.tx⟩, ⟨hf1, hf2, ?_, ?_⟩, ?_⟩⟩
  · show (v.obs ++ [_]).length ≤ _
    rw [hlen]; omega
  · intro o ho
    rcases List.mem_append.1 ho with ho | ho
    · exact hf4 o ho
    · obtain rfl := List.mem_singleton.1 ho
      exact ⟨rfl, Nat.zero_le _⟩
  · have e1 : obOwn [(⟨.iface T (.pointer bp), ⟨none, 0, 0⟩, [], v.n, v.n⟩ : OB)] = emp := by
      show arr 97 1 (.slice none 0 0) 0 [] * emp = emp
      rw [arr_nil, emp_star]
    simp only [obCells_append, obOwn_append, e1, star_emp, hlen]
    refine h5.cast ?_
    show row p 173 _ * _ = row p 173 (DV.ps _ pb _).cells * _
    unfold DV.ps
    simp only [hlen]
    rfl

set_option maxRecDepth 100000 in
set_option maxHeartbeats 4000000 in
theorem newPara_d (pb p : Nat) (oc : List Value) (v : DV) (pre : List OB) (o : OB) (T : TypeId) (bv : Value) (l : Ln) (F : HP) (w : World) (hl : l.OK) (hoc : oc[5]? = some (.bool false)) (ho : v.obs = pre ++ [o]) (hd : v.dep = pre.length) (hb : o.bv = .iface T bv)
    (hn9 : v.obs.length < 1000000000) (hT : ∀ w, (Instr.typeAssert (.iface T bv) 195 258 true).run Tryz.prog w = .ok (.tuple #[.pointer none, .bool false]) w) (hs : Sat w (Dsp pb oc v p * F)) :
    Calls Tryz.prog 106 #[.pointer (some ⟨p, 0, none⟩), l.agg] w fun e w' => e = .returned (.tuple #[Ln.zero.agg, .bool true]) ∧ ∃ (q g cap : Nat),
      Sat w' (Dsp pb oc { v with obs := v.obs ++ [⟨.iface 258 (.pointer (some ⟨q, 0, none⟩)), ⟨none, 0, 0⟩, [], v.n, v.n⟩] } p *
        (row q 262 [.slice (some ⟨g, 0, none⟩) 1 cap, .pointer none] * (arr 9 1 (.slice (some ⟨g, 0, none⟩) 1 cap) 1 [.string (B.bs (B.trimL l.rest))] * F))) := by
  obtain ⟨i0, hi, hz0, hz1, hz2⟩ := info_parts info_string
  obtain ⟨g, cap, h4, h5, h0, h3, hn⟩ := dsp_top ho hs
  obtain ⟨q0, q1, q3, qlp⟩ := dsp_parser hs
  have q5 := q1 5 _ hoc
  rw [hb] at h0
  rw [hd] at h5
  have hob : v.obs.length = pre.length + 1 := by rw [ho]; simp
  have hq1 : v.dep + 1 = (v.obs.length : Int) := by rw [hob, hd]; simp
  have HQ := Lib.hid (And.intro hq1 hn9)
  have HO := Lib.hid (And.intro ho hd)
  clear hq1 ho hd hob hb hn9
  have h1 : Sat (w.alloc (.cells l.cells.toArray 181)) (row w.heap.size 181 l.cells * _) := hs.new _ _ rfl
  have h2 := h1.new (d := w.heap.size + 1) Ln.zero.cells 181 (by simp)
  have hb2 := (((Below.refl w.heap.size w).alloc (Nat.le_refl _) (.cells l.cells.toArray 181)).alloc (by simp) (.cells Ln.zero.cells.toArray 181))
  have hp : p < w.heap.size := qlp
  have hg : g < w.heap.size := World.block_lt_of_cell? w _ h0
  have hpb : pb < w.heap.size := World.block_lt_of_cell? w _ q5
  have r4 := (hb2.cell (p := ⟨p, 4, none⟩) hp).trans h4
  have r5 := (hb2.cell (p := ⟨p, 5, none⟩) hp).trans h5
  have r0 := (hb2.cell (p := ⟨g, pre.length * 4, none⟩) hg).trans h0
  have rp := (hb2.cell (p := ⟨p, 0, none⟩) hp).trans q0
  have rt := (hb2.cell (p := ⟨pb, 5, none⟩) hpb).trans q5
  have HS := Lib.hid h2
  clear q1 h1 h2 hs hb2 h4 h5 h0 h3 q0 q3 q5
  simp only [Ln.cells, Ln.zero, Int.natCast_zero, UInt8.toNat_zero] at r4 r5 r0 rp rt
  unfold Ln.agg
  go_enter Tryz.func106, Tryz.ntmps106
  go_wp2_with fail
  refine (para_none p g pre.length cap T bv _ hn r4 r0 hT).mono ?_
  rintro e w1 ⟨rfl, m, hm⟩
  have H1 : Sat w1 (row w.heap.size 181 l.cells * (row (w.heap.size + 1) 181 Ln.zero.cells * (Dsp pb oc v p * F))) := by rw [hm]; exact (HS.out.drewN m).swap
  have s1 := H1.third
  obtain ⟨g', cap', r4', r5', _, _, _⟩ := dsp_top HO.out.1 s1
  obtain ⟨rp', q1', _, _⟩ := dsp_parser s1
  have rt' := q1' 5 _ hoc
  rw [HO.out.2] at r5'
  clear r4 r5 rp rt r0 HS hm hT hp hg hpb qlp q1' s1
  have HH := Lib.hid H1
  clear H1
  generalize hA : w.heap.size = A at *
  go_wp2_with fail
  go_quiet (fail)
  all_goals
    go_wp2_with fail
    refine (trimStr_w A l _ _ hl (HH.out.drewN _)).mono ?_
    rintro e w2 ⟨rfl, m2, hm2⟩
    have H2 : Sat w2 (row A 181 l.cells * (row (A + 1) 181 Ln.zero.cells * (Dsp pb oc v p * F))) := by rw [hm2]; exact (HH.out.drewN _).drewN _
    have s1 := H2.third
    obtain ⟨g', cap', r4', r5', _, _, _⟩ := dsp_top HO.out.1 s1
    obtain ⟨rp', q1', _, _⟩ := dsp_parser s1
    have rt' := q1' 5 _ hoc
    have H3 := Lib.hid H2
    clear HH hm2 H2 s1 q1'
    go_wp2_with fail
    go_quiet (fail)
    go_wp2_with fail
    have s4 := (((H3.out.drewN nq).new [.slice none 0 0, .pointer none] 262 rfl).cast (show _ = Dsp pb oc v p * (row w2.heap.size 262 [.slice none 0 0, .pointer none] * (row A 181 l.cells * (row (A + 1) 181 Ln.zero.cells * F))) from by rw [show (w2.drewN nq).heap.size = w2.heap.size from rfl]; ac_rfl))
    refine (addBlock_d pb p oc v _ _ _ _ HQ.out.1 HQ.out.2 s4).mono ?_
    rintro e w5 ⟨rfl, s5⟩
    clear s4 H3 r4' r5' rp' rt'
    have c0 : w5.cell? ⟨w2.heap.size, 0, none⟩ = some (.slice none 0 0) := s5.swap.cell 0 rfl
    have H5 := Lib.hid s5
    clear s5
    go_wp2_with (at_builtin; refine wpList_append_sl (F := row w5.heap.size 9 [.string (B.bs (B.trimL l.rest))] * (Dsp pb oc { v with obs := v.obs ++ [⟨.iface 258 (.pointer (some ⟨w2.heap.size, 0, none⟩)), ⟨none, 0, 0⟩, [], v.n, v.n⟩] } p * (row w2.heap.size 262 [.slice none 0 0, .pointer none] * (row A 181 l.cells * (row (A + 1) 181 Ln.zero.cells * F))))) rfl (.tmp 168) (.tmp 170) 31 rfl 9 i0 (.string ⟨#[]⟩) 1 16 Tryz.underlying31 hi hz0 hz1 hz2 rfl (.slice none 0 0) 0 [] rfl ?c0 ⟨w5.heap.size, 0, none⟩ 1 1 [.string (B.bs (B.trimL l.rest))] rfl rfl ?c1 ?c2 ?c3 ?c4 (by decide) ?_)
    case c0 =>
      rw [arr_nil, emp_star]
      exact H5.out.new _ _ rfl
    case c1 => exact cells_new _ [_] _
    case c2 => intro u hu; simp only [List.mem_singleton] at hu; subst hu; rfl
    case c3 => unfold maxLen; omega
    case c4 => omega
    intro g2 c2 w6 s6 _
    have s7 := s6.cast (show _ = row w2.heap.size 262 [.slice none 0 0, .pointer none] * (row (A + 1) 181 Ln.zero.cells * (arr 9 1 (.slice (some ⟨g2, 0, none⟩) 1 c2) 1 [.string (B.bs (B.trimL l.rest))] * (row w5.heap.size 9 [.string (B.bs (B.trimL l.rest))] * (row A 181 l.cells * (Dsp pb oc { v with obs := v.obs ++ [⟨.iface 258 (.pointer (some ⟨w2.heap.size, 0, none⟩)), ⟨none, 0, 0⟩, [], v.n, v.n⟩] } p * F))))) from by
      show arr 9 1 (.slice (some ⟨g2, 0, none⟩) 1 c2) 1 [.string (B.bs (B.trimL l.rest))] * _ = _
      ac_rfl)
    have k7 : w6.cell? ⟨w2.heap.size, 0, none⟩ = some (.slice none 0 0) := s7.cell 0 rfl
    have kf := fun i => s7.frozen i
    have s8 := s7.set 0 (.slice (some ⟨g2, 0, none⟩) (0 + 1) c2)
    obtain ⟨a0, a1, a2, a3, a4, af⟩ := line_cells s8.swap
    have H8 := Lib.hid s8
    clear s6 s7 s8 c0 H5
    go_wp2
    refine bodyPost_ret (v := .tuple #[Ln.zero.agg, .bool true]) (by simp [results, Tryz.results106, go_sem, Ln.agg, Ln.zero, *]) rfl ⟨rfl, w2.heap.size, g2, c2, ?_⟩
    have s9 := (((((H8.out.swap.set 0 (.int .i64 0)).set 1 (.int .i64 0)).set 2 (.int .i64 0)).set 3 (.string ⟨#[]⟩)).set 4 (.int .u8 0)).drop1
    exact (s9.cast (show _ = row w5.heap.size 9 [.string (B.bs (B.trimL l.rest))] * (row A 181 l.cells * (Dsp pb oc { v with obs := v.obs ++ [⟨.iface 258 (.pointer (some ⟨w2.heap.size, 0, none⟩)), ⟨none, 0, 0⟩, [], v.n, v.n⟩] } p *
      (row w2.heap.size 262 [.slice (some ⟨g2, 0, none⟩) 1 c2, .pointer none] * (arr 9 1 (.slice (some ⟨g2, 0, none⟩) 1 c2) 1 [.string (B.bs (B.trimL l.rest))] * F)))) from by
        rw [show ([.slice none 0 0, .pointer none] : List Value).set 0 (.slice (some ⟨g2, 0, none⟩) (0 + 1) c2) = [.slice (some ⟨g2, 0, none⟩) 1 c2, .pointer none] from rfl]
        ac_rfl)).drop1.drop1

end Go.Proofs.YtbfmmikllelfeaaGreatDoor

/- A paragraph of one line is closed: paraBuilder.build. -/
namespace Go.Proofs.YtbfmmikllelfeaaGreatDoor
open Go.RowKit Sl

theorem dsp_pos {w : World} {pb p : Nat} {oc : List Value} {v : DV} {pre : List OB} {o : OB} {F : HP} (ho : v.obs = pre ++ [o]) (hs : Sat w (Dsp pb oc v p * F)) :
    ∃ g cap, p < w.heap.size ∧ g < w.heap.size ∧ w.cell? ⟨p, 4, none⟩ = some (.slice (some ⟨g, 0, none⟩) (pre.length + 1) cap) ∧ w.cell? ⟨g, pre.length * 4 + 2, none⟩ = some (.int .i64 o.st) ∧ w.cell? ⟨g, pre.length * 4 + 3, none⟩ = some (.int .i64 o.en) ∧ pre.length < 1000000000 := by
  obtain ⟨h, ⟨_, _, hf3, _⟩, h1⟩ := dsp_iff.1 hs
  obtain ⟨f0, f1, f2, f3, f4, f5, f6, f7, f8, f9, f10, f11, fz, hlp⟩ := PSt.facts h1
  obtain ⟨junk, j1, j2, j3, j4, hr⟩ := h1.swap.arr_row
  have hlen : v.obs.length = pre.length + 1 := by rw [ho]; simp
  rw [hlen] at hf3
  have key : ∀ j u, j < 4 → o.cells[j]? = some u → w.cell? ⟨h.g, pre.length * 4 + j, none⟩ = some u := by
    intro j u hj hu
    refine hr.cell _ ?_
    have hg := obCells_get (l := v.obs) (k := pre.length) (j := j) (o := o) (by rw [ho]; simp) hj
    rw [List.getElem?_append_left (by rw [obCells_length, hlen]; omega), hg]
    exact hu
  refine ⟨h.g, h.cap, hlp, hr.row_lt, ?_, key 2 _ (by decide) rfl, key 3 _ (by decide) rfl, by omega⟩
  rw [f4]
  show some (Value.slice _ v.obs.length _) = _
  rw [hlen]; rfl

theorem join_one (x sep : List UInt8) : Lib.join [x] sep = x := by simp [Lib.join]


/-- A text that is no definition. -/
def NoDef (s : List UInt8) : Prop := ∀ (p : Option Addr) (w : World), Calls Tryz.prog 395 #[.iface 193 (.pointer p), .string (B.bs s)] w fun e w' => e = .returned (.tuple #[.int .i64 0, .bool false]) ∧ w = w'

set_option maxRecDepth 100000 in
set_option maxHeartbeats 4000000 in
theorem paraBuild_d (pb p q g cap : Nat) (oc : List Value) (v : DV) (pre : List OB) (o : OB) (c : UInt8) (t : List UInt8) (F : HP) (w : World) (hdef : NoDef (c :: t)) (hl : t.length ≤ 1000000) (hcap : 1 ≤ cap)
    (ho : v.obs = pre ++ [o]) (hp : v.ptrs.length < 1000000000) (hst : 0 ≤ o.st ∧ o.st ≤ 1000000000)
    (hs : Sat w (Dsp pb oc v p * (row q 262 [.slice (some ⟨g, 0, none⟩) 1 cap, .pointer none] * (arr 9 1 (.slice (some ⟨g, 0, none⟩) 1 cap) 1 [.string (B.bs (c :: t))] * F)))) :
    Calls Tryz.prog 392 #[.pointer (some ⟨q, 0, none⟩), .iface 193 (.pointer (some ⟨p, 0, none⟩))] w fun e w' => ∃ d tb : Nat, e = .returned (.iface 145 (.pointer (some ⟨d, 0, none⟩))) ∧
      Sat w' (Dsp pb oc { v with ptrs := v.ptrs ++ [.pointer (some ⟨tb, 0, none⟩)] } p * (row d 147 [.int .i64 o.st, .int .i64 o.st, .pointer (some ⟨tb, 0, none⟩)] * (row tb 144 [.int .i64 o.st, .int .i64 o.st, .slice none 0 0, .string (B.bs (c :: t))] * F))) := by
  have q0 : w.cell? ⟨q, 0, none⟩ = some (.slice (some ⟨g, 0, none⟩) 1 cap) := hs.swap.cell 0 rfl
  have q1 : w.cell? ⟨q, 1, none⟩ = some (.pointer none) := hs.swap.cell 1 rfl
  obtain ⟨junk, j1, j2, j3, j4, hr⟩ := hs.third.arr_row
  have g0 : w.cell? ⟨g, 0, none⟩ = some (.string (B.bs (c :: t))) := hr.cell 0 rfl
  have hlg := hr.row_lt
  have hj := Sk.strings_Join g 0 cap [B.bs (c :: t)] ⟨#[10]⟩ w (by
    intro j x hx
    cases j with
    | zero => obtain rfl : _ = x := by simpa using hx
              exact g0
    | succ j => simp at hx) hlg (by simp) hcap (by
      show (Lib.join [(B.bs (c :: t)).data.toList] _).length ≤ _
      rw [join_one, B.bs_data]; simp; omega)
  have hjj : (⟨(Lib.join ([B.bs (c :: t)].map (·.data.toList)) (⟨#[10]⟩ : ByteArray).data.toList).toArray⟩ : ByteArray) = B.bs (c :: t) := by
    show (⟨(Lib.join [(B.bs (c :: t)).data.toList] _).toArray⟩ : ByteArray) = _
    rw [join_one, B.bs_data]; rfl
  rw [hjj] at hj
  have HJ := Lib.hid hj
  have hne : (B.bs (c :: t)).toList.isEmpty = false := by rw [Lib.toList_data, B.bs_data]; rfl
  have HL := Lib.hid (show ∀ (p : Option Addr) (w : World), _ from hdef)
  clear hdef
  have HS := Lib.hid hs
  have HO := Lib.hid ho
  have m1 := fun w => meth_parseState_pos ⟨p, 0, none⟩ w
  have n1 := fun w => ahead_parseState_pos ⟨p, 0, none⟩ w
  have m2 := fun w => meth_parseState_newText ⟨p, 0, none⟩ w
  have n2 := fun w => ahead_parseState_newText ⟨p, 0, none⟩ w
  generalize hT : B.bs (c :: t) = txt at *
  clear hjj hj hs hr j1 j2 j3 j4 g0 ho hlg
  go_enter Tryz.func392, Tryz.ntmps392
  go_wp2_with fail
  refine HJ.out.mono ?_
  rintro e w1 ⟨rfl, hb1⟩
  have s1 := HS.out.ext hb1
  clear HS q1 HJ
  have q0 : w1.cell? ⟨q, 0, none⟩ = some (.slice (some ⟨g, 0, none⟩) 1 cap) := s1.swap.cell 0 rfl
  have S1 := Lib.hid s1
  clear s1 hb1
  go_wp2
  go_loopw [5] (fun s wr => s = .string txt ∧ w1 = wr) (fun _ _ => 0)
  case atStart => exact ⟨rfl, rfl⟩
  case round =>
    obtain ⟨rfl, rfl⟩ := hrel
    go_wp2_with fail
    refine (HL.out _ _).mono ?_
    rintro e w2 ⟨rfl, rfl⟩
    obtain ⟨pg, pcap, hp1, hp2, p4, p6, p7, hpn⟩ := dsp_pos HO.out S1.out
    have HP := Lib.hid (pos_w p pg pre.length pcap o.st o.en w1 hpn hp1 hp2 p4 p6 p7)
    clear p4 p6 p7 HL
    go_wp2_with fail
    refine HP.out.mono ?_
    rintro e w3 ⟨rfl, hb3⟩
    have s3 := S1.out.ext hb3
    clear HP S1 q0 hb3
    have q0 : w3.cell? ⟨q, 0, none⟩ = some (.slice (some ⟨g, 0, none⟩) 1 cap) := s3.swap.cell 0 rfl
    have S3 := Lib.hid s3
    have hql := s3.swap.row_lt
    clear s3
    go_wp2
    have s4 := S3.out.new (d := w3.heap.size) [.int .i64 o.st, .int .i64 o.en] 111 rfl
    clear S3 q0 hql
    have hbl : w3.heap.size < (w3.alloc (.cells #[.int .i64 o.st, .int .i64 o.en] 111)).heap.size := by simp
    generalize w3.alloc (.cells #[.int .i64 o.st, .int .i64 o.en] 111) = w4 at *
    generalize w3.heap.size = b at *
    have b0 : w4.cell? ⟨b, 0, none⟩ = some (.int .i64 o.st) := s4.cell 0 rfl
    have b1 : w4.cell? ⟨b, 1, none⟩ = some (.int .i64 o.en) := s4.cell 1 rfl
    have bf := fun i => s4.frozen i
    have q0 : w4.cell? ⟨q, 0, none⟩ = some (.slice (some ⟨g, 0, none⟩) 1 cap) := s4.third.cell 0 rfl
    generalize hz : o.st = z at *
    have S4 := Lib.hid s4
    clear s4
    go_cut [57] (fun t57 wx => Sat wx (row b 111 [.int .i64 z, .int .i64 z] * (Dsp pb oc v p * (row q 262 [.slice (some ⟨g, 0, none⟩) 1 cap, .pointer none] * (arr 9 1 (.slice (some ⟨g, 0, none⟩) 1 cap) 1 [.string txt] * F)))))
    case first =>
      go_region
      all_goals
        go_wp2
        go_meet
        exact (S4.out.set 1 (.int .i64 z)).drew
    case rest =>
      have s7 := hcut.cast (show _ = Dsp pb oc v p * (row b 111 [.int .i64 z, .int .i64 z] * (row q 262 [.slice (some ⟨g, 0, none⟩) 1 cap, .pointer none] * (arr 9 1 (.slice (some ⟨g, 0, none⟩) 1 cap) 1 [.string txt] * F))) from by ac_rfl)
      have b0 : wc.cell? ⟨b, 0, none⟩ = some (.int .i64 z) := s7.swap.cell 0 rfl
      have b1 : wc.cell? ⟨b, 1, none⟩ = some (.int .i64 z) := s7.swap.cell 1 rfl
      have S7 := Lib.hid s7
      clear hcut s7 S4
      have HNT := Lib.hid (fun (w : World) (F : HP) hs => newText_d pb p oc v z z (c :: t) F w hp hs)
      rw [hT] at HNT
      go_wp2_with fail
      go_region_law (first
        | (go_simp; go_at_call 196; (first | refine (HNT.out wc.drew _ S7.out.drew).mono ?_ | refine (HNT.out _ _ (S7.out.drewN _)).mono ?_ | refine (HNT.out _ _ S7.out).mono ?_); rintro e5 w5 ⟨tb, rfl, s8⟩; have b0' : w5.cell? ⟨b, 0, none⟩ = some (.int .i64 z) := s8.third.cell 0 rfl; have b1' : w5.cell? ⟨b, 1, none⟩ = some (.int .i64 z) := s8.third.cell 1 rfl))
      all_goals
        have s9 := (s8.new (d := w5.heap.size) [.int .i64 z, .int .i64 z, .pointer (some ⟨tb, 0, none⟩)] 147 rfl).cast (show _ = row b 111 [.int .i64 z, .int .i64 z] * (row q 262 [.slice (some ⟨g, 0, none⟩) 1 cap, .pointer none] * (arr 9 1 (.slice (some ⟨g, 0, none⟩) 1 cap) 1 [.string txt] * (Dsp pb oc { v with ptrs := v.ptrs ++ [.pointer (some ⟨tb, 0, none⟩)] } p * (row w5.heap.size 147 [.int .i64 z, .int .i64 z, .pointer (some ⟨tb, 0, none⟩)] * (row tb 144 [.int .i64 z, .int .i64 z, .slice none 0 0, .string txt] * F))))) from by ac_rfl)
        have S9 := Lib.hid s9.drop1.drop1.drop1
        clear s8 s9 S7 b0 b1 b0' b1'
        go_wp2
        go_ret
        exact ⟨w5.heap.size, tb, rfl, by rw [hz]; exact S9.out⟩

end Go.Proofs.YtbfmmikllelfeaaGreatDoor

/- A block of code is closed: its builder's build, and closeBlock where a leaf is open in the root. -/
namespace Go.Proofs.YtbfmmikllelfeaaGreatDoor
open Go.RowKit Sl

theorem info_Block' : (Tryz.prog.info? 97).map (fun i => (i.zero, i.size, i.bytes)) = some (some .nilIface, 1, 16) := by kernel_rfl

/-- The open block (T, q), closed, is the block (TB, d); it lies in the stack's second place. -/
structure Bld (p g cap : Nat) (T TB : TypeId) (q : Addr) (st en : Int) (R : HP) (R' : Nat → HP) : Prop where
  run : ∃ f : FuncId, (∀ w, (method 527 T (.pointer (some q)) "pub-paratext/pub/rscmarkdown.build").run Tryz.prog w = .ok (f, .pointer (some q)) w) ∧
    (∀ w, (nilAhead 527 T (.pointer (some q)) "pub-paratext/pub/rscmarkdown.build").run Tryz.prog w = .ok (some false) w) ∧ (∀ (args : Array Value) (w : World), (callFunc f args).run Tryz.prog w = .ok (.enter f args) w) ∧
    ∀ (x : PSt) (w : World) (F : HP) (cs : List Value), x.stack = ⟨some ⟨g, 0, none⟩, 2, cap⟩ → cs[6]? = some (.int .i64 st) → cs[7]? = some (.int .i64 en) → Sat w (row p 173 x.cells * (row g 197 cs * (R * F))) →
      Calls Tryz.prog f #[.pointer (some q), .iface 193 (.pointer (some ⟨p, 0, none⟩))] w fun e w' =>
        ∃ d : Nat, e = .returned (.iface TB (.pointer (some ⟨d, 0, none⟩))) ∧ Sat w' (row p 173 x.cells * (row g 197 cs * (R' d * F)))

set_option maxRecDepth 100000 in
set_option maxHeartbeats 1000000 in
theorem preBuild_w (p q g cap : Nat) (st en : Int) (ts : SV) (F : HP) (x : PSt) (w : World) (cs : List Value) (hx : x.stack = ⟨some ⟨g, 0, none⟩, 2, cap⟩) (h6 : cs[6]? = some (.int .i64 st)) (h7 : cs[7]? = some (.int .i64 en))
    (hs : Sat w (row p 173 x.cells * (row g 197 cs * (row q 334 (preCells ts) * F)))) :
    Calls Tryz.prog 412 #[.pointer (some ⟨q, 0, none⟩), .iface 193 (.pointer (some ⟨p, 0, none⟩))] w fun e w' =>
      ∃ d, e = .returned (.iface 148 (.pointer (some ⟨d, 0, none⟩))) ∧ Sat w' (row p 173 x.cells * (row g 197 cs * (row d 150 [.int .i64 st, .int .i64 en, .string ⟨#[]⟩, .string ⟨#[]⟩, ts.v] * F))) := by
  have m1 := fun w => meth_parseState_pos ⟨p, 0, none⟩ w
  have n1 := fun w => ahead_parseState_pos ⟨p, 0, none⟩ w
  have hp : w.cell? ⟨p, 4, none⟩ = some (.slice (some ⟨g, 0, none⟩) (1 + 1) cap) := by have := hs.cell 4 rfl; rw [hx] at this; exact this
  have hlp := hs.row_lt
  have hlg := hs.swap.row_lt
  have h2 : w.cell? ⟨g, 1 * 4 + 2, none⟩ = some (.int .i64 st) := hs.swap.cell 6 h6
  have h3 : w.cell? ⟨g, 1 * 4 + 3, none⟩ = some (.int .i64 en) := hs.swap.cell 7 h7
  have q1 : w.cell? ⟨q, 1, none⟩ = some (.slice ts.a ts.len ts.cap) := hs.third.cell 1 rfl
  have xq := fun x : Qt.Ext w => x.cell q1
  go_enter Tryz.func412, Tryz.ntmps412
  go_wp2
  refine Qt.wp_region (fun w' => ∃ x : Qt.Ext w, w' = x.w) 7 (by kernel_rfl) (by kernel_rfl) (Qt.Ext.start w) ?_
  simp only [List.take_succ_cons, List.take_zero, List.drop_succ_cons, List.drop_zero]
  repeat (quiet_step (first
    | (rename_i x; go_at_call 342; exact x.call (pos_w p g 1 cap st en _ (by decide) (x.lt hlp) (x.lt hlg) (x.cell hp) (x.cell h2) (x.cell h3)))))
  refine wpQuiet_nil ?_
  rintro _ ⟨y, rfl⟩
  have hy : Sat y.w _ := hs.ext y.below
  have HY := Lib.hid hy
  clear hy hs
  go_wp2
  go_ret
  refine ⟨_, rfl, ?_⟩
  have h5 := HY.out.new (d := y.w.heap.size) [.int .i64 st, .int .i64 en, .string ⟨#[]⟩, .string ⟨#[]⟩, ts.v] 150 rfl
  exact (h5.cast (show _ = row q 334 (preCells ts) * (row p 173 x.cells * (row g 197 cs * (row y.w.heap.size 150 [.int .i64 st, .int .i64 en, .string ⟨#[]⟩, .string ⟨#[]⟩, ts.v] * F))) from by ac_rfl)).drop1

theorem bld_pre (p q g cap : Nat) (st en : Int) (ts : SV) (txt : List Value) : Bld p g cap 332 148 ⟨q, 0, none⟩ st en (row q 334 (preCells ts) * arr 9 1 ts.v ts.len txt)
    (fun d => row d 150 [.int .i64 st, .int .i64 en, .string ⟨#[]⟩, .string ⟨#[]⟩, ts.v] * arr 9 1 ts.v ts.len txt) :=
  ⟨412, fun w => meth_preBuilder_build ⟨q, 0, none⟩ w, fun w => ahead_preBuilder_build ⟨q, 0, none⟩ w, enters_of Tryz.func412 (by kernel_rfl) rfl, fun x w F cs hx h6 h7 hs => by
    refine (preBuild_w p q g cap st en ts (arr 9 1 ts.v ts.len txt * F) x w cs hx h6 h7 (hs.cast (by ac_rfl))).mono ?_
    rintro e w' ⟨d, rfl, h⟩
    exact ⟨d, rfl, h.cast (by ac_rfl)⟩⟩

set_option maxRecDepth 100000 in
set_option maxHeartbeats 1000000 in
theorem closeLeaf_w (p g cap : Nat) (T TB : TypeId) (q : Addr) (b0 s0 e0 inn2 : Value) (inn : SV) (items : List Value) (st en : Int) (junk : List Value) (R : HP) (R' : Nat → HP) (x : PSt) (F : HP) (w : World)
    (hx : x.stack = ⟨some ⟨g, 0, none⟩, 2, cap⟩) (hcap : 2 ≤ cap) (hil : inn.len ≤ 1000000000) (hb : Bld p g cap T TB q st en R R') (hTL : ∀ v w, (Instr.typeAssert (.iface TB v) 97 131 true).run Tryz.prog w = .ok (.tuple #[.pointer none, .bool false]) w)
    (hs : Sat w (row p 173 x.cells * (row g 197 ([b0, inn.v, s0, e0, .iface T (.pointer (some q)), inn2, .int .i64 st, .int .i64 en] ++ junk) * (arr 97 1 inn.v inn.len items * (R * F))))) :
    Calls Tryz.prog 107 #[.pointer (some ⟨p, 0, none⟩)] w fun e w' => (∃ v, e = .returned v) ∧ ∃ (d : Nat) (inn' : SV), inn'.len = inn.len + 1 ∧
      Sat w' (row p 173 { x with stack := ⟨some ⟨g, 0, none⟩, 1, cap⟩ }.cells * (row g 197 ([b0, inn'.v, s0, e0, .iface T (.pointer (some q)), inn2, .int .i64 st, .int .i64 en] ++ junk) *
        (arr 97 1 inn'.v inn'.len (items ++ [.iface TB (.pointer (some ⟨d, 0, none⟩))]) * (R' d * F)))) := by
  obtain ⟨f, hm, hna, hen, hrun⟩ := hb
  obtain ⟨f0, f1, f2, f3, f4, f5, f6, f7, f8, f9, f10, f11, fz, hlp⟩ := PSt.facts hs
  rw [hx] at f4
  clear f0 f1 f2 f3 f5 f6 f7 f8 f9 f10 f11
  have g4 : w.cell? ⟨g, 4, none⟩ = some (.iface T (.pointer (some q))) := hs.swap.cell 4 rfl
  have hlg := hs.swap.row_lt
  have hr2 := hrun x w (arr 97 1 inn.v inn.len items * F) _ hx rfl rfl (hs.cast (by ac_rfl))
  have HR := Lib.hid hrun
  have HS := Lib.hid hs
  have hw1 : IntKind.i64.wrap 1 = 1 := by decide
  clear hs hrun hr2
  go_enter Tryz.func107, Tryz.ntmps107
  go_wp2
  go_quiet (fail)
  go_wp2_with fail
  refine (HR.out x _ (arr 97 1 inn.v inn.len items * F) ([b0, inn.v, s0, e0, .iface T (.pointer (some q)), inn2, .int .i64 st, .int .i64 en] ++ junk) hx rfl rfl ((HS.out.drewN nq).cast (by ac_rfl))).mono ?_
  rintro e w1 ⟨d, rfl, s1⟩
  obtain ⟨f0, f1, f2, f3, f4, f5, f6, f7, f8, f9, f10, f11, fz, hlp⟩ := PSt.facts s1
  rw [hx] at f4
  clear f0 f1 f2 f3 f5 f6 f7 f8 f9 f10 f11
  have s2 := (s1.set 4 (.slice (some ⟨g, 0, none⟩) 1 cap))
  have S2 := Lib.hid s2
  clear s1 s2
  go_wp2
  go_region
  have s3 : Sat ((w1.setCell ⟨p, 4, none⟩ (.slice (some ⟨g, 0, none⟩) 1 cap)).drew) (row p 173 { x with stack := ⟨some ⟨g, 0, none⟩, 1, cap⟩ }.cells * (row g 197 ([b0, inn.v, s0, e0, .iface T (.pointer (some q)), inn2, .int .i64 st, .int .i64 en] ++ junk) * (R' d * (arr 97 1 inn.v inn.len items * F)))) := S2.out
  generalize (w1.setCell ⟨p, 4, none⟩ (.slice (some ⟨g, 0, none⟩) 1 cap)).drew = w2 at s3 ⊢
  clear S2 f4 fz hlp g4 hlg HR HS
  obtain ⟨f0, f1, f2, f3, f4, f5, f6, f7, f8, f9, f10, f11, fz, hlp⟩ := PSt.facts s3
  simp only at f4
  clear f0 f1 f2 f3 f5 f6 f7 f8 f9 f10 f11
  have S3 := Lib.hid s3
  clear s3
  go_wp2
  go_quiet (fail)
  have s4 := S3.out.drewN nq
  generalize w2.drewN nq = w3 at s4 ⊢
  clear S3 f4 fz hlp
  have g1 : w3.cell? ⟨g, 1, none⟩ = some (.slice inn.a inn.len inn.cap) := s4.swap.cell 1 rfl
  have gz := fun i => s4.swap.frozen i
  have hlg := s4.swap.row_lt
  have hlp := s4.row_lt
  have hne := s4.row_ne
  obtain ⟨i0, hi, hz0, hz1, hz2⟩ := info_parts info_Block'
  have hsB := (s4.new [.iface TB (.pointer (some ⟨d, 0, none⟩))] 97 rfl).cast (show _ = arr 97 1 inn.v inn.len items * (row w3.heap.size 97 [.iface TB (.pointer (some ⟨d, 0, none⟩))] * (row p 173 { x with stack := ⟨some ⟨g, 0, none⟩, 1, cap⟩ }.cells *
    (row g 197 ([b0, inn.v, s0, e0, .iface T (.pointer (some q)), inn2, .int .i64 st, .int .i64 en] ++ junk) * (R' d * F)))) from by ac_rfl)
  go_wp2_with (at_builtin; refine wpList_append_sl rfl (.tmp 106) (.tmp 108) 114 rfl 97 i0 _ 1 16 Tryz.underlying114 hi hz0 hz1 hz2 rfl inn.v _ items rfl hsB ⟨w3.heap.size, 0, none⟩ 1 1 [.iface TB (.pointer (some ⟨d, 0, none⟩))] rfl rfl ?c1 ?c2 ?c3 ?c4 (by decide) ?_)
  case c1 => exact cells_new _ _ _
  case c2 => intro u hu; simp at hu; rcases hu with rfl; rfl
  case c3 => unfold maxLen; omega
  case c4 => omega
  intro g2 cap2 w4 hs1 hz1
  have s5 := hs1.cast (show _ = row g 197 ([b0, inn.v, s0, e0, .iface T (.pointer (some q)), inn2, .int .i64 st, .int .i64 en] ++ junk) * (row w3.heap.size 97 [.iface TB (.pointer (some ⟨d, 0, none⟩))] * (row p 173 { x with stack := ⟨some ⟨g, 0, none⟩, 1, cap⟩ }.cells *
    (arr 97 1 (.slice (some ⟨g2, 0, none⟩) (inn.len + 1) cap2) (inn.len + 1) (items ++ [.iface TB (.pointer (some ⟨d, 0, none⟩))]) * (R' d * F)))) from by ac_rfl)
  have k1 : w4.cell? ⟨g, 1, none⟩ = some (.slice inn.a inn.len inn.cap) := s5.cell 1 rfl
  have kz := fun i => s5.frozen i
  have klt := s5.row_lt
  have S5 := Lib.hid s5
  clear hs1 s5 hsB s4
  go_wp2
  go_ret
  refine ⟨⟨_, rfl⟩, d, ⟨some ⟨g2, 0, none⟩, inn.len + 1, cap2⟩, rfl, ?_⟩
  have h5 := S5.out.set 1 (.slice (some ⟨g2, 0, none⟩) (inn.len + 1) cap2)
  exact h5.drop2.swap

end Go.Proofs.YtbfmmikllelfeaaGreatDoor

/- An open leaf is closed: closeBlock over the general state, where its build may lay down texts. -/
namespace Go.Proofs.YtbfmmikllelfeaaGreatDoor
open Go.RowKit Sl

set_option maxRecDepth 100000 in
set_option maxHeartbeats 4000000 in
theorem closeOne_d (pb p : Nat) (oc : List Value) (v : DV) (pre : List OB) (o0 o1 : OB) (T TB : TypeId) (q : Addr) (f : FuncId) (R : HP) (R' : Nat → List Value → HP) (F : HP) (w : World)
    (ho : v.obs = pre ++ [o0, o1]) (hq : o1.bv = .iface T (.pointer (some q))) (hi : o0.items.length < 1000000000)
    (hm : ∀ w, (method 527 T (.pointer (some q)) "pub-paratext/pub/rscmarkdown.build").run Tryz.prog w = .ok (f, .pointer (some q)) w)
    (_hna : ∀ w, (nilAhead 527 T (.pointer (some q)) "pub-paratext/pub/rscmarkdown.build").run Tryz.prog w = .ok (some false) w) (hen : ∀ (args : Array Value) (w : World), (callFunc f args).run Tryz.prog w = .ok (.enter f args) w)
    (hrun : ∀ (w : World) (F : HP), Sat w (Dsp pb oc v p * (R * F)) → Calls Tryz.prog f #[.pointer (some q), .iface 193 (.pointer (some ⟨p, 0, none⟩))] w fun e w' =>
      ∃ (d : Nat) (ps : List Value), e = .returned (.iface TB (.pointer (some ⟨d, 0, none⟩))) ∧ Sat w' (Dsp pb oc { v with ptrs := ps } p * (R' d ps * F)))
    (hTL : ∀ v w, (Instr.typeAssert (.iface TB v) 97 131 true).run Tryz.prog w = .ok (.tuple #[.pointer none, .bool false]) w)
    (hs : Sat w (Dsp pb oc v p * (R * F))) :
    Calls Tryz.prog 107 #[.pointer (some ⟨p, 0, none⟩)] w fun e w' => (∃ u, e = .returned u) ∧ ∃ (d : Nat) (ps : List Value) (inn : SV),
      Sat w' (Dsp pb oc { v with obs := pre ++ [{ o0 with inn := inn, items := o0.items ++ [.iface TB (.pointer (some ⟨d, 0, none⟩))] }], ptrs := ps } p * (R' d ps * F)) := by
  obtain ⟨g, cap, h4, h5, h0, _, hn⟩ := dsp_top (pre := pre ++ [o0]) (o := o1) (by rw [ho]; simp) hs
  have hl0 : (pre ++ [o0]).length = pre.length + 1 := by simp
  rw [hl0] at h4 h0 hn
  rw [hq] at h0
  have HR := Lib.hid hrun
  have HS := Lib.hid hs
  have HO := Lib.hid ho
  clear hs hrun ho h5
  go_enter Tryz.func107, Tryz.ntmps107
  go_wp2
  go_quiet (fail)
  go_wp2_with fail
  refine (HR.out _ F (HS.out.drewN nq)).mono ?_
  rintro e w1 ⟨d, ps, rfl, s1⟩
  obtain ⟨h, ⟨hf1, hf2, hf3, hf4⟩, s1⟩ := dsp_iff.1 s1
  have HF3 := Lib.hid (And.intro hf1 (And.intro hf2 (And.intro hf3 hf4)))
  obtain ⟨f0, f1, f2, f3, f4, f5, f6, f7, f8, f9, f10, f11, fz, hlp⟩ := PSt.facts s1
  have hlen : v.obs.length = pre.length + 2 := by rw [HO.out]; simp
  have f4' : w1.cell? ⟨p, 4, none⟩ = some (.slice (some ⟨h.g, 0, none⟩) (pre.length + 2) h.cap) := by
    rw [f4]
    show some (Value.slice _ v.obs.length _) = _
    rw [hlen]; rfl
  clear f0 f1 f2 f3 f5 f6 f7 f8 f9 f10 f11 f4 h4 h0
  obtain ⟨junk, j1, j2, j3, j4, hr⟩ := s1.swap.arr_row
  rw [show ({ v with ptrs := ps } : DV).obs = v.obs from rfl, hlen] at j2
  have HJ2 := Lib.hid j2
  have HJ3 := Lib.hid j3
  have HJ4 := Lib.hid j4
  have S1 := Lib.hid hr
  clear s1 hr
  go_wp2
  go_region
  have s2 : Sat ((w1.setCell ⟨p, 4, none⟩ (.slice (some ⟨h.g, 0, none⟩) (pre.length + 1) h.cap)).drew) (row p 173 { ({ v with ptrs := ps } : DV).ps pb h with stack := ⟨some ⟨h.g, 0, none⟩, pre.length + 1, h.cap⟩ }.cells * (row h.g 197 (obCells v.obs ++ junk) * (obOwn v.obs * (arr 139 1 h.tx.v h.tx.len ps * (row pb 105 oc * (R' d ps * F)))))) := (S1.out.swap.set 4 _).drew
  generalize (w1.setCell ⟨p, 4, none⟩ (.slice (some ⟨h.g, 0, none⟩) (pre.length + 1) h.cap)).drew = w2 at s2 ⊢
  have hc : obCells v.obs ++ junk = obCells pre ++ ([o0.bv, o0.inn.v, .int .i64 o0.st, .int .i64 o0.en] ++ ([o1.bv, o1.inn.v, .int .i64 o1.st, .int .i64 o1.en] ++ junk)) := by
    rw [HO.out, obCells_append]
    simp [obCells, OB.cells]
  have hw : obOwn v.obs = obOwn pre * (o0.own * o1.own) := by
    rw [HO.out, obOwn_append]
    show _ * (o0.own * (o1.own * emp)) = _
    rw [star_emp]
  obtain ⟨hfo1, hfo2⟩ := hf4 o0 (by show o0 ∈ v.obs; rw [HO.out]; simp)
  rw [hc, hw] at s2
  have HFO := Lib.hid (And.intro hfo1 hfo2)
  clear hfo1 hfo2 hf1 hf2 hf3
  clear S1 f4' fz hlp HR HS j1
  obtain ⟨f0, f1, f2, f3, f4, f5, f6, f7, f8, f9, f10, f11, fz, hlp⟩ := PSt.facts s2
  simp only at f4
  clear f0 f1 f2 f3 f5 f6 f7 f8 f9 f10 f11
  have g1 : w2.cell? ⟨h.g, pre.length * 4 + 1, none⟩ = some (.slice o0.inn.a o0.inn.len o0.inn.cap) := by
    refine s2.swap.cell _ ?_
    rw [List.getElem?_append_right (by rw [obCells_length]; omega), obCells_length, Nat.add_sub_cancel_left]; rfl
  have S2 := Lib.hid s2
  clear s2
  go_wp2
  go_quiet (fail)
  have s4 := S2.out.drewN nq
  generalize w2.drewN nq = w3 at s4 ⊢
  clear S2 f4 fz hlp g1
  have hrow := s4.cast (show _ = row h.g 197 (obCells pre ++ ([o0.bv, o0.inn.v, .int .i64 o0.st, .int .i64 o0.en] ++ ([o1.bv, o1.inn.v, .int .i64 o1.st, .int .i64 o1.en] ++ junk))) * (o0.own * (row p 173 { ({ v with ptrs := ps } : DV).ps pb h with stack := ⟨some ⟨h.g, 0, none⟩, pre.length + 1, h.cap⟩ }.cells * (obOwn pre * (o1.own * (arr 139 1 h.tx.v h.tx.len ps * (row pb 105 oc * (R' d ps * F))))))) from by ac_rfl)
  have g1 : w3.cell? ⟨h.g, pre.length * 4 + 1, none⟩ = some (.slice o0.inn.a o0.inn.len o0.inn.cap) := by
    refine hrow.cell _ ?_
    rw [List.getElem?_append_right (by rw [obCells_length]; omega), obCells_length, Nat.add_sub_cancel_left]; rfl
  have hget : (obCells pre ++ ([o0.bv, o0.inn.v, .int .i64 o0.st, .int .i64 o0.en] ++ ([o1.bv, o1.inn.v, .int .i64 o1.st, .int .i64 o1.en] ++ junk)))[pre.length * 4 + 1]? = some (.slice o0.inn.a o0.inn.len o0.inn.cap) := by
    rw [List.getElem?_append_right (by rw [obCells_length]; omega), obCells_length, Nat.add_sub_cancel_left]; rfl
  generalize hLc : obCells pre ++ ([o0.bv, o0.inn.v, .int .i64 o0.st, .int .i64 o0.en] ++ ([o1.bv, o1.inn.v, .int .i64 o1.st, .int .i64 o1.en] ++ junk)) = Lc at hrow hget
  have HLc := Lib.hid (And.intro hLc hget)
  clear hLc hget
  obtain ⟨i0, hi0, hz0, hz1, hz2⟩ := info_parts info_Block'
  generalize hG : row p 173 { ({ v with ptrs := ps } : DV).ps pb h with stack := ⟨some ⟨h.g, 0, none⟩, pre.length + 1, h.cap⟩ }.cells * (obOwn pre * (o1.own * (arr 139 1 h.tx.v h.tx.len ps * (row pb 105 oc * (R' d ps * F))))) = G at hrow
  have hsB := (hrow.new [.iface TB (.pointer (some ⟨d, 0, none⟩))] 97 rfl).cast (show _ = arr 97 1 o0.inn.v o0.inn.len o0.items * (row w3.heap.size 97 [.iface TB (.pointer (some ⟨d, 0, none⟩))] * (row h.g 197 Lc * G)) from by
    unfold OB.own
    ac_rfl)
  have HSB := Lib.hid hsB
  clear hsB hrow s4
  go_wp2_with (at_builtin; refine wpList_append_sl rfl (.tmp 106) (.tmp 108) 114 rfl 97 i0 _ 1 16 Tryz.underlying114 hi0 hz0 hz1 hz2 rfl o0.inn.v _ o0.items rfl HSB.out ⟨w3.heap.size, 0, none⟩ 1 1 [.iface TB (.pointer (some ⟨d, 0, none⟩))] rfl rfl ?c1 ?c2 ?c3 ?c4 (by decide) ?_)
  case c2 => rfl
  case c3 => have := HFO.out; unfold maxLen; omega
  case c4 => have := HFO.out; omega
  intro g2 cap2 w4 hs1 _
  have s5 := hs1.cast (show _ = row h.g 197 Lc * (row w3.heap.size 97 [.iface TB (.pointer (some ⟨d, 0, none⟩))] *
    (arr 97 1 (.slice (some ⟨g2, 0, none⟩) (o0.inn.len + 1) cap2) (o0.inn.len + 1) (o0.items ++ [.iface TB (.pointer (some ⟨d, 0, none⟩))]) * G)) from by ac_rfl)
  have k1 : w4.cell? ⟨h.g, pre.length * 4 + 1, none⟩ = some (.slice o0.inn.a o0.inn.len o0.inn.cap) := by
    exact s5.cell _ HLc.out.2
  have kz := fun i => s5.frozen i
  have S5 := Lib.hid s5
  clear hs1 s5 HSB
  go_wp2
  go_ret
  refine ⟨⟨_, rfl⟩, d, ps, ⟨some ⟨g2, 0, none⟩, o0.inn.len + 1, cap2⟩, ?_⟩
  have s6 := (S5.out.set (pre.length * 4 + 1) (.slice (some ⟨g2, 0, none⟩) (o0.inn.len + 1) cap2)).swap.drop1
  obtain ⟨o', ho'⟩ : ∃ o' : OB, o' = { o0 with inn := ⟨some ⟨g2, 0, none⟩, o0.inn.len + 1, cap2⟩, items := o0.items ++ [.iface TB (.pointer (some ⟨d, 0, none⟩))] } := ⟨_, rfl⟩
  have hset : Lc.set (pre.length * 4 + 1) (.slice (some ⟨g2, 0, none⟩) (o0.inn.len + 1) cap2) = obCells (pre ++ [o']) ++ ([o1.bv, o1.inn.v, .int .i64 o1.st, .int .i64 o1.en] ++ junk) := by
    rw [← HLc.out.1, List.set_append_right _ _ (by rw [obCells_length]; omega), obCells_length, Nat.add_sub_cancel_left, obCells_append, ho', List.append_assoc]
    rfl
  rw [hset] at s6
  have hln : (pre ++ [o']).length = pre.length + 1 := by simp
  have hj4 : (obCells (pre ++ [o']) ++ ([o1.bv, o1.inn.v, .int .i64 o1.st, .int .i64 o1.en] ++ junk)).length = h.cap * 4 := by
    have := HJ4.out
    rw [List.length_append, obCells_length, hlen] at this
    rw [List.length_append, obCells_length, hln, List.length_append]
    simp only [List.length_cons, List.length_nil]
    omega
  have s7 := arr_mk (sz := 4) (n := pre.length + 1) (by rw [obCells_length, hln]) (by have := HJ2.out; omega) HJ3.out hj4 s6
  obtain ⟨f1, f2, f3, f4⟩ := HF3.out
  refine dsp_iff.2 ⟨⟨h.g, h.cap, h.corner, h.tx⟩, ⟨f1, f2, ?_, ?_⟩, ?_⟩
  · show (pre ++ [_]).length ≤ _
    simp; omega
  · intro o hom
    rcases List.mem_append.1 hom with hom | hom
    · exact f4 o (by show o ∈ v.obs; rw [HO.out]; exact List.mem_append_left _ hom)
    · obtain rfl := List.mem_singleton.1 hom
      refine ⟨?_, ?_⟩
      · show o0.inn.len + 1 = (o0.items ++ [_]).length
        rw [List.length_append, HFO.out.1]; rfl
      · show (o0.items ++ [_]).length ≤ _
        simp; omega
  · rw [← hG] at s7
    have e1 : obOwn (pre ++ [o']) = obOwn pre * o'.own := by
      rw [obOwn_append]
      show _ * (o'.own * emp) = _
      rw [star_emp]
    have e2 : o'.own = arr 97 1 (.slice (some ⟨g2, 0, none⟩) (o0.inn.len + 1) cap2) (o0.inn.len + 1) (o0.items ++ [.iface TB (.pointer (some ⟨d, 0, none⟩))]) := by rw [ho']; rfl
    have s8 := (s7.cast (show _ = o1.own * (row p 173 { ({ v with ptrs := ps } : DV).ps pb h with stack := ⟨some ⟨h.g, 0, none⟩, pre.length + 1, h.cap⟩ }.cells * (arr 197 4 (.slice (some ⟨h.g, 0, none⟩) (pre.length + 1) h.cap) (pre.length + 1) (obCells (pre ++ [o'])) * (obOwn (pre ++ [o']) * (arr 139 1 h.tx.v h.tx.len ps * (row pb 105 oc * (R' d ps * F)))))) from by
      rw [e1, e2]
      ac_rfl)).drop1
    simp only [← ho']
    unfold DV.ps
    simp only [hln]
    exact s8

end Go.Proofs.YtbfmmikllelfeaaGreatDoor
