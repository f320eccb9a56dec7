/- startHTML where a mark begins the line: remarks, instructions, declarations, CDATA. -/
import Derived.Test.YtbfmmikllelfeaaGreatDoorGa
import Derived.Test.YtbfmmikllelfeaaGreatDoorHc
import Derived.Test.YtbfmmikllelfeaaGreatDoorIx
import Derived.Test.YtbfmmikllelfeaaGreatDoorQ1
namespace Go.Proofs.YtbfmmikllelfeaaGreatDoor
open Go.RowKit Sl

set_option maxHeartbeats 400000 in
theorem isLetter_up (c : UInt8) (w : World) (h1 : 65 ≤ c.toNat) (h2 : c.toNat ≤ 90) : Calls Tryz.prog 206 #[.int .u8 c.toNat] w fun e w' => e = .returned (.bool true) ∧ w = w' := by
  go_enter Tryz.func206, Tryz.ntmps206
  go_wp2
  go_ret
  exact ⟨rfl, rfl⟩

/-- A line that begins with a mark, and the sign that ends the block. -/
inductive Mark (t : List UInt8) : List UInt8 → Prop
  | com (h : [60, 33, 45, 45].isPrefixOf t = true) : Mark t [45, 45, 62]
  | pi (h0 : [60, 33, 45, 45].isPrefixOf t = false) (h : [60, 63].isPrefixOf t = true) : Mark t [63, 62]
  | cdata (h0 : [60, 33, 45, 45].isPrefixOf t = false) (h1 : [60, 63].isPrefixOf t = false) (h : [60, 33, 91, 67, 68, 65, 84, 65, 91].isPrefixOf t = true) : Mark t [93, 93, 62]
  | decl (c : UInt8) (h0 : [60, 33, 45, 45].isPrefixOf t = false) (h1 : [60, 63].isPrefixOf t = false) (h2 : [60, 33, 91, 67, 68, 65, 84, 65, 91].isPrefixOf t = false) (h : [60, 33].isPrefixOf t = true) (hl : 3 ≤ t.length) (hc : t[2]? = some c) (hc1 : 65 ≤ c.toNat) (hc2 : c.toNat ≤ 90) : Mark t [62]

theorem hp_w (t pr : List UInt8) (x : Bool) (w : World) (ht : t.length ≤ 1000000000) (hp : pr.length ≤ 1000) (h : pr.isPrefixOf t = x) :
    Calls Tryz.prog 39 #[.string (B.bs t), .string (B.bs pr)] w fun e w' => e = .returned (.bool x) ∧ w = w' := by
  have := hasPrefix_w (B.bs t) (B.bs pr) w (by rw [B.bs_size]; omega) (by rw [B.bs_size]; omega)
  rw [B.bs_data, B.bs_data, h] at this
  exact this

theorem Heads.str {l : Ln} {c : UInt8} (h : Heads l c) : l.str = l.rest := by
  unfold Ln.str
  rw [h.sp]
  rfl

set_option maxRecDepth 100000 in
set_option maxHeartbeats 4000000 in
/-- Up to the builder: what ends the block is known. -/
theorem startMark_w (pb p b : Nat) (oc : List Value) (v v' : DV) (R R' : HP) (x : Ln) (t e : List UInt8) (F : HP) (w : World) (hx : x.OK) (hh : Heads x 60) (ht : x.rest = t) (htl : t.length ≤ 100000000) (hm : Mark t e) (hfs : B.findSub e t = none)
    (htr : Trims pb oc p v R (Dsp pb oc v' p * R')) (hd : v'.dep + 1 = v'.obs.length) (hdep : v'.dep = v.dep) (hn : v'.obs.length < 1000000000)
    (hs : Sat w (row b 181 x.cells * (Dsp pb oc v p * (R * F)))) :
    Calls Tryz.prog 204 #[.pointer (some ⟨p, 0, none⟩), .pointer (some ⟨b, 0, none⟩)] w fun e' w' => e' = .returned (.bool true) ∧ ∃ lx : LX, (HK.has e).fits lx ∧
      Sat w' (Dsp pb oc { v' with obs := v'.obs ++ (Leaf.html v'.n v'.n (.has e) [t]).obs lx } p * ((Leaf.html v'.n v'.n (.has e) [t]).own lx * (R' * (row b 181 x.cells * F)))) := by
  obtain ⟨i0, hi9, hz0, hz1, hz2⟩ := info_parts info_string
  have h2 := hs.new (d := w.heap.size) x.cells 181 (by simp)
  obtain ⟨c0, c1, c2, c3, c4, cf⟩ := line_cells hs
  have hbl := hs.row_lt
  have hi : (x.trimSpace 0 3 false).getD x = x := hh.indent
  have hpk := hh.peek
  have hst : x.str = t := by rw [hh.str, ht]
  have HI := Lib.hid hi
  have HP := Lib.hid hpk
  have HST := Lib.hid hst
  have H2 := Lib.hid h2
  have HTR := Lib.hid htr
  have HDD := Lib.hid (And.intro hd (And.intro hdep hn))
  have HFS := Lib.hid hfs
  clear h2 hs hi hpk hst htr hd hdep hn ht hh hfs
  go_enter Tryz.func204, Tryz.ntmps204
  go_wp2
  go_step3
  go_wp2_with fail
  refine (trimSpace_w _ x 0 3 false _ _ hx (by decide) H2.out).mono ?_
  rintro e' w1 ⟨rfl, s1⟩
  rw [HI.out] at s1
  go_wp2_with fail
  refine (peek_w _ x _ _ hx s1).mono ?_
  rintro e' w2 ⟨rfl, m, hm2⟩
  rw [HP.out]
  have s2 : Sat w2 (row w.heap.size 181 x.cells * (row b 181 x.cells * (Dsp pb oc v p * (R * F)))) := by rw [hm2]; exact s1.drewN m
  clear s1 hm2 H2
  have S2 := Lib.hid s2
  clear s2
  go_wp2_with fail
  refine (string_w _ x _ _ hx S2.out).mono ?_
  rintro e' w3 ⟨rfl, m3, hm3⟩
  rw [HST.out]
  have s3 : Sat w3 (row w.heap.size 181 x.cells * (row b 181 x.cells * (Dsp pb oc v p * (R * F)))) := by rw [hm3]; exact S2.out.drewN m3
  clear hm3 S2
  have S4 := Lib.hid ((s3.drop1.new (d := w3.heap.size) [.string ⟨#[]⟩] 9 rfl))
  clear s3
  have hz : (B.bs t).size = t.length := rfl
  cases hm with
  | com h =>
    go_wp2_with fail
    refine (hp_w t [60, 33, 45, 45] _ _ (by omega) (by decide) h).mono ?_
    rintro e' w5 ⟨rfl, rfl⟩
    have s4 := S4.out
    generalize w3.alloc (.cells #[.string ⟨#[]⟩] 9) = w4 at s4 ⊢
    generalize w3.heap.size = cb at s4 ⊢
    have k0 := s4.cell 0 rfl
    have kf := fun i => s4.frozen i
    have S5 := Lib.hid (s4.set 0 (.string (B.bs [45, 45, 62])))
    have k1 := S5.out.cell 0 rfl
    clear s4 S4
    go_wp2_with fail
    have s5 : Sat (w4.setCell ⟨cb, 0, none⟩ (.string ⟨#[45, 45, 62]⟩)) (row cb 9 [.string (B.bs [45, 45, 62])] * (row b 181 x.cells * (Dsp pb oc v p * (R * F)))) := S5.out
    clear S5 k0 k1 kf
    have hsz : w4.heap.size = (w4.setCell ⟨cb, 0, none⟩ (.string ⟨#[45, 45, 62]⟩)).heap.size := by simp
    generalize w4.setCell ⟨cb, 0, none⟩ (.string ⟨#[45, 45, 62]⟩) = w5 at s5 hsz ⊢
    generalize hQ : w4.heap.size = q at hsz ⊢
    have s6 := (s5.new (d := q) [.bool false, .slice none 0 0, .func (.func 243) #[] #[.pointer (some ⟨cb, 0, none⟩)]] 358 hsz).cast (show _ = Dsp pb oc v p * (R * (row q 358 [.bool false, .slice none 0 0, .func (.func 243) #[] #[.pointer (some ⟨cb, 0, none⟩)]] * (row b 181 x.cells * (row cb 9 [.string (B.bs [45, 45, 62])] * F)))) from by
      show row q 358 _ * (row cb 9 [.string (B.bs [45, 45, 62])] * _) = _
      ac_rfl)
    have HAB := Lib.hid (addBlock_t pb p oc v v' R R' 356 (some ⟨q, 0, none⟩) _ _ HTR.out HDD.out.1 HDD.out.2.1 HDD.out.2.2 s6)
    clear s6 s5
    refine HAB.out.mono ?_
    rintro e' w6 ⟨rfl, s7⟩
    clear HAB
    have s8 := s7.cast (show _ = row q 358 [.bool false, .slice none 0 0, .func (.func 243) #[] #[.pointer (some ⟨cb, 0, none⟩)]] * (row b 181 x.cells * (row cb 9 [.string (B.bs [45, 45, 62])] * (Dsp pb oc { v' with obs := v'.obs ++ [⟨.iface 356 (.pointer (some ⟨q, 0, none⟩)), ⟨none, 0, 0⟩, [], v'.n, v'.n⟩] } p * (R' * F)))) from by ac_rfl)
    have t0 : w6.cell? ⟨q, 1, none⟩ = some (.slice none 0 0) := s8.cell 1 rfl
    have tf := fun i => s8.frozen i
    have tl := s8.row_lt
    obtain ⟨z0, z1, z2, z3, z4, zf⟩ := line_cells s8.swap
    have zl := s8.swap.row_lt
    clear s7 HTR HDD hQ hsz
    have hA : ∀ m, Sat ((w6.drewN m).alloc (.cells #[.string (B.bs t)] 9)) (arr 9 1 (.slice none 0 0) 0 [] * (row w6.heap.size 9 [.string (B.bs t)] * (row q 358 [.bool false, .slice none 0 0, .func (.func 243) #[] #[.pointer (some ⟨cb, 0, none⟩)]] * _))) := fun m => by
      rw [arr_nil, emp_star]
      exact (s8.drewN m).new (d := w6.heap.size) [.string (B.bs t)] 9 (by simp)
    have hK : ∀ m o, ((w6.drewN m).alloc o).cell? ⟨q, 1, none⟩ = some (.slice none 0 0) := fun m o => by
      rw [World.cell?_alloc_lt _ _ _ (by simpa using tl)]; exact t0
    go_wp2_with fail
    go_region_law (first
      | (go_simp; go_at_call 190; (first | refine (string_w _ x w6.drew _ hx s8.swap.drew).mono ?_ | refine (string_w _ x _ _ hx (s8.swap.drewN _)).mono ?_); rw [HST.out]; rintro e7 w7 ⟨rfl, m7, rfl⟩)
      | (refine step_append_sl (by rfl) (.tmp 80) (.tmp 83) 31 (by rfl) 9 i0 (.string ⟨#[]⟩) 1 16 Tryz.underlying31 hi9 hz0 hz1 hz2 rfl (.slice none 0 0) 0 [] (by rfl) (hA _) ⟨w6.heap.size, 0, none⟩ 1 1 [.string (B.bs t)] (by rfl) rfl (cells_new _ _ _) (by intro u hu; simp at hu; rcases hu with rfl; rfl) (by unfold maxLen; omega) (by decide) (by decide) ?_; intro g7 c7 w7 s9 z9; have k7 : w7.cell? ⟨q, 1, none⟩ = some (.slice none 0 0) := s9.third.cell 1 rfl; have kf := fun i => s9.third.frozen i))
    all_goals
      have s10 := s9.third.set 1 (.slice (some ⟨g7, 0, none⟩) 1 c7)
      have k2 := s10.cell 2 rfl
      have s11 := s10.cast (show _ = row w6.heap.size 9 [.string (B.bs t)] * (row cb 9 [.string (B.bs [45, 45, 62])] * (row q 358 [.bool false, .slice (some ⟨g7, 0, none⟩) 1 c7, .func (.func 243) #[] #[.pointer (some ⟨cb, 0, none⟩)]] * (row b 181 x.cells * (arr 9 1 (.slice (some ⟨g7, 0, none⟩) 1 c7) 1 [.string (B.bs t)] * (Dsp pb oc { v' with obs := v'.obs ++ [⟨.iface 356 (.pointer (some ⟨q, 0, none⟩)), ⟨none, 0, 0⟩, [], v'.n, v'.n⟩] } p * (R' * F)))))) from by
        show row q 358 [.bool false, .slice (some ⟨g7, 0, none⟩) 1 c7, .func (.func 243) #[] #[.pointer (some ⟨cb, 0, none⟩)]] * (arr 9 1 (.slice (some ⟨g7, 0, none⟩) 1 c7) 1 [.string (B.bs t)] * (row w6.heap.size 9 [.string (B.bs t)] * (row b 181 x.cells * (row cb 9 [.string (B.bs [45, 45, 62])] * _)))) = _
        ac_rfl)
      have S12 := Lib.hid s11.drop1
      have HEC := Lib.hid (endClos_w cb [45, 45, 62] t _ _ (by omega) (by decide) S12.out)
      rw [HFS.out] at HEC
      clear s9 s10 s11 k7 kf hA hK s8 t0 z0 z1 z2 z3 z4 zf tf
      go_wp2_with fail
      refine HEC.out.mono ?_
      rintro e' w9 ⟨rfl, rfl⟩
      clear HEC
      go_wp2
      rw [Exit.noGoto_ret]
      refine bodyPost_ret (v := .bool true) (by simp [results, Tryz.results204, go_sem]) rfl ⟨rfl, ⟨q, ⟨some ⟨g7, 0, none⟩, 1, c7⟩, cb, .func (.func 243) #[] #[.pointer (some ⟨cb, 0, none⟩)]⟩, rfl, ?_⟩
      refine S12.out.cast ?_
      show _ = Dsp pb oc { v' with obs := v'.obs ++ [⟨.iface 356 (.pointer (some ⟨q, 0, none⟩)), ⟨none, 0, 0⟩, [], v'.n, v'.n⟩] } p * ((row q 358 [.bool false, .slice (some ⟨g7, 0, none⟩) 1 c7, .func (.func 243) #[] #[.pointer (some ⟨cb, 0, none⟩)]] * (arr 9 1 (.slice (some ⟨g7, 0, none⟩) 1 c7) 1 [.string (B.bs t)] * row cb 9 [.string (B.bs [45, 45, 62])])) * (R' * (row b 181 x.cells * F)))
      ac_rfl
  | pi h0 h =>
    go_wp2_with fail
    refine (hp_w t [60, 33, 45, 45] _ _ (by omega) (by decide) h0).mono ?_
    rintro e' w5 ⟨rfl, rfl⟩
    go_wp2_with fail
    refine (hp_w t [60, 63] _ _ (by omega) (by decide) h).mono ?_
    rintro e' w5 ⟨rfl, rfl⟩
    have s4 := S4.out
    generalize w3.alloc (.cells #[.string ⟨#[]⟩] 9) = w4 at s4 ⊢
    generalize w3.heap.size = cb at s4 ⊢
    have k0 := s4.cell 0 rfl
    have kf := fun i => s4.frozen i
    have S5 := Lib.hid (s4.set 0 (.string (B.bs [63, 62])))
    have k1 := S5.out.cell 0 rfl
    clear s4 S4
    go_wp2_with fail
    have s5 : Sat (w4.setCell ⟨cb, 0, none⟩ (.string ⟨#[63, 62]⟩)) (row cb 9 [.string (B.bs [63, 62])] * (row b 181 x.cells * (Dsp pb oc v p * (R * F)))) := S5.out
    clear S5 k0 k1 kf
    have hsz : w4.heap.size = (w4.setCell ⟨cb, 0, none⟩ (.string ⟨#[63, 62]⟩)).heap.size := by simp
    generalize w4.setCell ⟨cb, 0, none⟩ (.string ⟨#[63, 62]⟩) = w5 at s5 hsz ⊢
    generalize hQ : w4.heap.size = q at hsz ⊢
    have s6 := (s5.new (d := q) [.bool false, .slice none 0 0, .func (.func 243) #[] #[.pointer (some ⟨cb, 0, none⟩)]] 358 hsz).cast (show _ = Dsp pb oc v p * (R * (row q 358 [.bool false, .slice none 0 0, .func (.func 243) #[] #[.pointer (some ⟨cb, 0, none⟩)]] * (row b 181 x.cells * (row cb 9 [.string (B.bs [63, 62])] * F)))) from by
      show row q 358 _ * (row cb 9 [.string (B.bs [63, 62])] * _) = _
      ac_rfl)
    have HAB := Lib.hid (addBlock_t pb p oc v v' R R' 356 (some ⟨q, 0, none⟩) _ _ HTR.out HDD.out.1 HDD.out.2.1 HDD.out.2.2 s6)
    clear s6 s5
    refine HAB.out.mono ?_
    rintro e' w6 ⟨rfl, s7⟩
    clear HAB
    have s8 := s7.cast (show _ = row q 358 [.bool false, .slice none 0 0, .func (.func 243) #[] #[.pointer (some ⟨cb, 0, none⟩)]] * (row b 181 x.cells * (row cb 9 [.string (B.bs [63, 62])] * (Dsp pb oc { v' with obs := v'.obs ++ [⟨.iface 356 (.pointer (some ⟨q, 0, none⟩)), ⟨none, 0, 0⟩, [], v'.n, v'.n⟩] } p * (R' * F)))) from by ac_rfl)
    have t0 : w6.cell? ⟨q, 1, none⟩ = some (.slice none 0 0) := s8.cell 1 rfl
    have tf := fun i => s8.frozen i
    have tl := s8.row_lt
    obtain ⟨z0, z1, z2, z3, z4, zf⟩ := line_cells s8.swap
    have zl := s8.swap.row_lt
    clear s7 HTR HDD hQ hsz
    have hA : ∀ m, Sat ((w6.drewN m).alloc (.cells #[.string (B.bs t)] 9)) (arr 9 1 (.slice none 0 0) 0 [] * (row w6.heap.size 9 [.string (B.bs t)] * (row q 358 [.bool false, .slice none 0 0, .func (.func 243) #[] #[.pointer (some ⟨cb, 0, none⟩)]] * _))) := fun m => by
      rw [arr_nil, emp_star]
      exact (s8.drewN m).new (d := w6.heap.size) [.string (B.bs t)] 9 (by simp)
    have hK : ∀ m o, ((w6.drewN m).alloc o).cell? ⟨q, 1, none⟩ = some (.slice none 0 0) := fun m o => by
      rw [World.cell?_alloc_lt _ _ _ (by simpa using tl)]; exact t0
    go_wp2_with fail
    go_region_law (first
      | (go_simp; go_at_call 190; (first | refine (string_w _ x w6.drew _ hx s8.swap.drew).mono ?_ | refine (string_w _ x _ _ hx (s8.swap.drewN _)).mono ?_); rw [HST.out]; rintro e7 w7 ⟨rfl, m7, rfl⟩)
      | (refine step_append_sl (by rfl) (.tmp 80) (.tmp 83) 31 (by rfl) 9 i0 (.string ⟨#[]⟩) 1 16 Tryz.underlying31 hi9 hz0 hz1 hz2 rfl (.slice none 0 0) 0 [] (by rfl) (hA _) ⟨w6.heap.size, 0, none⟩ 1 1 [.string (B.bs t)] (by rfl) rfl (cells_new _ _ _) (by intro u hu; simp at hu; rcases hu with rfl; rfl) (by unfold maxLen; omega) (by decide) (by decide) ?_; intro g7 c7 w7 s9 z9; have k7 : w7.cell? ⟨q, 1, none⟩ = some (.slice none 0 0) := s9.third.cell 1 rfl; have kf := fun i => s9.third.frozen i))
    all_goals
      have s10 := s9.third.set 1 (.slice (some ⟨g7, 0, none⟩) 1 c7)
      have k2 := s10.cell 2 rfl
      have s11 := s10.cast (show _ = row w6.heap.size 9 [.string (B.bs t)] * (row cb 9 [.string (B.bs [63, 62])] * (row q 358 [.bool false, .slice (some ⟨g7, 0, none⟩) 1 c7, .func (.func 243) #[] #[.pointer (some ⟨cb, 0, none⟩)]] * (row b 181 x.cells * (arr 9 1 (.slice (some ⟨g7, 0, none⟩) 1 c7) 1 [.string (B.bs t)] * (Dsp pb oc { v' with obs := v'.obs ++ [⟨.iface 356 (.pointer (some ⟨q, 0, none⟩)), ⟨none, 0, 0⟩, [], v'.n, v'.n⟩] } p * (R' * F)))))) from by
        show row q 358 [.bool false, .slice (some ⟨g7, 0, none⟩) 1 c7, .func (.func 243) #[] #[.pointer (some ⟨cb, 0, none⟩)]] * (arr 9 1 (.slice (some ⟨g7, 0, none⟩) 1 c7) 1 [.string (B.bs t)] * (row w6.heap.size 9 [.string (B.bs t)] * (row b 181 x.cells * (row cb 9 [.string (B.bs [63, 62])] * _)))) = _
        ac_rfl)
      have S12 := Lib.hid s11.drop1
      have HEC := Lib.hid (endClos_w cb [63, 62] t _ _ (by omega) (by decide) S12.out)
      rw [HFS.out] at HEC
      clear s9 s10 s11 k7 kf hA hK s8 t0 z0 z1 z2 z3 z4 zf tf
      go_wp2_with fail
      refine HEC.out.mono ?_
      rintro e' w9 ⟨rfl, rfl⟩
      clear HEC
      go_wp2
      rw [Exit.noGoto_ret]
      refine bodyPost_ret (v := .bool true) (by simp [results, Tryz.results204, go_sem]) rfl ⟨rfl, ⟨q, ⟨some ⟨g7, 0, none⟩, 1, c7⟩, cb, .func (.func 243) #[] #[.pointer (some ⟨cb, 0, none⟩)]⟩, rfl, ?_⟩
      refine S12.out.cast ?_
      show _ = Dsp pb oc { v' with obs := v'.obs ++ [⟨.iface 356 (.pointer (some ⟨q, 0, none⟩)), ⟨none, 0, 0⟩, [], v'.n, v'.n⟩] } p * ((row q 358 [.bool false, .slice (some ⟨g7, 0, none⟩) 1 c7, .func (.func 243) #[] #[.pointer (some ⟨cb, 0, none⟩)]] * (arr 9 1 (.slice (some ⟨g7, 0, none⟩) 1 c7) 1 [.string (B.bs t)] * row cb 9 [.string (B.bs [63, 62])])) * (R' * (row b 181 x.cells * F)))
      ac_rfl
  | cdata h0 h1 h =>
    go_wp2_with fail
    refine (hp_w t [60, 33, 45, 45] _ _ (by omega) (by decide) h0).mono ?_
    rintro e' w5 ⟨rfl, rfl⟩
    go_wp2_with fail
    refine (hp_w t [60, 63] _ _ (by omega) (by decide) h1).mono ?_
    rintro e' w5 ⟨rfl, rfl⟩
    go_wp2_with fail
    refine (hp_w t [60, 33, 91, 67, 68, 65, 84, 65, 91] _ _ (by omega) (by decide) h).mono ?_
    rintro e' w5 ⟨rfl, rfl⟩
    have s4 := S4.out
    generalize w3.alloc (.cells #[.string ⟨#[]⟩] 9) = w4 at s4 ⊢
    generalize w3.heap.size = cb at s4 ⊢
    have k0 := s4.cell 0 rfl
    have kf := fun i => s4.frozen i
    have S5 := Lib.hid (s4.set 0 (.string (B.bs [93, 93, 62])))
    have k1 := S5.out.cell 0 rfl
    clear s4 S4
    go_wp2_with fail
    have s5 : Sat (w4.setCell ⟨cb, 0, none⟩ (.string ⟨#[93, 93, 62]⟩)) (row cb 9 [.string (B.bs [93, 93, 62])] * (row b 181 x.cells * (Dsp pb oc v p * (R * F)))) := S5.out
    clear S5 k0 k1 kf
    have hsz : w4.heap.size = (w4.setCell ⟨cb, 0, none⟩ (.string ⟨#[93, 93, 62]⟩)).heap.size := by simp
    generalize w4.setCell ⟨cb, 0, none⟩ (.string ⟨#[93, 93, 62]⟩) = w5 at s5 hsz ⊢
    generalize hQ : w4.heap.size = q at hsz ⊢
    have s6 := (s5.new (d := q) [.bool false, .slice none 0 0, .func (.func 243) #[] #[.pointer (some ⟨cb, 0, none⟩)]] 358 hsz).cast (show _ = Dsp pb oc v p * (R * (row q 358 [.bool false, .slice none 0 0, .func (.func 243) #[] #[.pointer (some ⟨cb, 0, none⟩)]] * (row b 181 x.cells * (row cb 9 [.string (B.bs [93, 93, 62])] * F)))) from by
      show row q 358 _ * (row cb 9 [.string (B.bs [93, 93, 62])] * _) = _
      ac_rfl)
    have HAB := Lib.hid (addBlock_t pb p oc v v' R R' 356 (some ⟨q, 0, none⟩) _ _ HTR.out HDD.out.1 HDD.out.2.1 HDD.out.2.2 s6)
    clear s6 s5
    refine HAB.out.mono ?_
    rintro e' w6 ⟨rfl, s7⟩
    clear HAB
    have s8 := s7.cast (show _ = row q 358 [.bool false, .slice none 0 0, .func (.func 243) #[] #[.pointer (some ⟨cb, 0, none⟩)]] * (row b 181 x.cells * (row cb 9 [.string (B.bs [93, 93, 62])] * (Dsp pb oc { v' with obs := v'.obs ++ [⟨.iface 356 (.pointer (some ⟨q, 0, none⟩)), ⟨none, 0, 0⟩, [], v'.n, v'.n⟩] } p * (R' * F)))) from by ac_rfl)
    have t0 : w6.cell? ⟨q, 1, none⟩ = some (.slice none 0 0) := s8.cell 1 rfl
    have tf := fun i => s8.frozen i
    have tl := s8.row_lt
    obtain ⟨z0, z1, z2, z3, z4, zf⟩ := line_cells s8.swap
    have zl := s8.swap.row_lt
    clear s7 HTR HDD hQ hsz
    have hA : ∀ m, Sat ((w6.drewN m).alloc (.cells #[.string (B.bs t)] 9)) (arr 9 1 (.slice none 0 0) 0 [] * (row w6.heap.size 9 [.string (B.bs t)] * (row q 358 [.bool false, .slice none 0 0, .func (.func 243) #[] #[.pointer (some ⟨cb, 0, none⟩)]] * _))) := fun m => by
      rw [arr_nil, emp_star]
      exact (s8.drewN m).new (d := w6.heap.size) [.string (B.bs t)] 9 (by simp)
    have hK : ∀ m o, ((w6.drewN m).alloc o).cell? ⟨q, 1, none⟩ = some (.slice none 0 0) := fun m o => by
      rw [World.cell?_alloc_lt _ _ _ (by simpa using tl)]; exact t0
    go_wp2_with fail
    go_region_law (first
      | (go_simp; go_at_call 190; (first | refine (string_w _ x w6.drew _ hx s8.swap.drew).mono ?_ | refine (string_w _ x _ _ hx (s8.swap.drewN _)).mono ?_); rw [HST.out]; rintro e7 w7 ⟨rfl, m7, rfl⟩)
      | (refine step_append_sl (by rfl) (.tmp 80) (.tmp 83) 31 (by rfl) 9 i0 (.string ⟨#[]⟩) 1 16 Tryz.underlying31 hi9 hz0 hz1 hz2 rfl (.slice none 0 0) 0 [] (by rfl) (hA _) ⟨w6.heap.size, 0, none⟩ 1 1 [.string (B.bs t)] (by rfl) rfl (cells_new _ _ _) (by intro u hu; simp at hu; rcases hu with rfl; rfl) (by unfold maxLen; omega) (by decide) (by decide) ?_; intro g7 c7 w7 s9 z9; have k7 : w7.cell? ⟨q, 1, none⟩ = some (.slice none 0 0) := s9.third.cell 1 rfl; have kf := fun i => s9.third.frozen i))
    all_goals
      have s10 := s9.third.set 1 (.slice (some ⟨g7, 0, none⟩) 1 c7)
      have k2 := s10.cell 2 rfl
      have s11 := s10.cast (show _ = row w6.heap.size 9 [.string (B.bs t)] * (row cb 9 [.string (B.bs [93, 93, 62])] * (row q 358 [.bool false, .slice (some ⟨g7, 0, none⟩) 1 c7, .func (.func 243) #[] #[.pointer (some ⟨cb, 0, none⟩)]] * (row b 181 x.cells * (arr 9 1 (.slice (some ⟨g7, 0, none⟩) 1 c7) 1 [.string (B.bs t)] * (Dsp pb oc { v' with obs := v'.obs ++ [⟨.iface 356 (.pointer (some ⟨q, 0, none⟩)), ⟨none, 0, 0⟩, [], v'.n, v'.n⟩] } p * (R' * F)))))) from by
        show row q 358 [.bool false, .slice (some ⟨g7, 0, none⟩) 1 c7, .func (.func 243) #[] #[.pointer (some ⟨cb, 0, none⟩)]] * (arr 9 1 (.slice (some ⟨g7, 0, none⟩) 1 c7) 1 [.string (B.bs t)] * (row w6.heap.size 9 [.string (B.bs t)] * (row b 181 x.cells * (row cb 9 [.string (B.bs [93, 93, 62])] * _)))) = _
        ac_rfl)
      have S12 := Lib.hid s11.drop1
      have HEC := Lib.hid (endClos_w cb [93, 93, 62] t _ _ (by omega) (by decide) S12.out)
      rw [HFS.out] at HEC
      clear s9 s10 s11 k7 kf hA hK s8 t0 z0 z1 z2 z3 z4 zf tf
      go_wp2_with fail
      refine HEC.out.mono ?_
      rintro e' w9 ⟨rfl, rfl⟩
      clear HEC
      go_wp2
      rw [Exit.noGoto_ret]
      refine bodyPost_ret (v := .bool true) (by simp [results, Tryz.results204, go_sem]) rfl ⟨rfl, ⟨q, ⟨some ⟨g7, 0, none⟩, 1, c7⟩, cb, .func (.func 243) #[] #[.pointer (some ⟨cb, 0, none⟩)]⟩, rfl, ?_⟩
      refine S12.out.cast ?_
      show _ = Dsp pb oc { v' with obs := v'.obs ++ [⟨.iface 356 (.pointer (some ⟨q, 0, none⟩)), ⟨none, 0, 0⟩, [], v'.n, v'.n⟩] } p * ((row q 358 [.bool false, .slice (some ⟨g7, 0, none⟩) 1 c7, .func (.func 243) #[] #[.pointer (some ⟨cb, 0, none⟩)]] * (arr 9 1 (.slice (some ⟨g7, 0, none⟩) 1 c7) 1 [.string (B.bs t)] * row cb 9 [.string (B.bs [93, 93, 62])])) * (R' * (row b 181 x.cells * F)))
      ac_rfl
  | decl c h0 h1 h2 h hl hc hc1 hc2 =>
    have hix : ∀ hh, (B.bs t)[2]'hh = c := fun hh => (List.getElem?_eq_some_iff.1 hc).2
    clear hc
    go_wp2_with fail
    refine (hp_w t [60, 33, 45, 45] _ _ (by omega) (by decide) h0).mono ?_
    rintro e' w5 ⟨rfl, rfl⟩
    go_wp2_with fail
    refine (hp_w t [60, 63] _ _ (by omega) (by decide) h1).mono ?_
    rintro e' w5 ⟨rfl, rfl⟩
    go_wp2_with fail
    refine (hp_w t [60, 33, 91, 67, 68, 65, 84, 65, 91] _ _ (by omega) (by decide) h2).mono ?_
    rintro e' w5 ⟨rfl, rfl⟩
    go_wp2_with fail
    refine (hp_w t [60, 33] _ _ (by omega) (by decide) h).mono ?_
    rintro e' w5 ⟨rfl, rfl⟩
    go_wp2_with fail
    refine (isLetter_up c _ hc1 hc2).mono ?_
    rintro e' w5 ⟨rfl, rfl⟩
    have s4 := S4.out
    generalize w3.alloc (.cells #[.string ⟨#[]⟩] 9) = w4 at s4 ⊢
    generalize w3.heap.size = cb at s4 ⊢
    have k0 := s4.cell 0 rfl
    have kf := fun i => s4.frozen i
    have S5 := Lib.hid (s4.set 0 (.string (B.bs [62])))
    have k1 := S5.out.cell 0 rfl
    clear s4 S4
    go_wp2_with fail
    have s5 : Sat (w4.setCell ⟨cb, 0, none⟩ (.string ⟨#[62]⟩)) (row cb 9 [.string (B.bs [62])] * (row b 181 x.cells * (Dsp pb oc v p * (R * F)))) := S5.out
    clear S5 k0 k1 kf
    have hsz : w4.heap.size = (w4.setCell ⟨cb, 0, none⟩ (.string ⟨#[62]⟩)).heap.size := by simp
    generalize w4.setCell ⟨cb, 0, none⟩ (.string ⟨#[62]⟩) = w5 at s5 hsz ⊢
    generalize hQ : w4.heap.size = q at hsz ⊢
    have s6 := (s5.new (d := q) [.bool false, .slice none 0 0, .func (.func 243) #[] #[.pointer (some ⟨cb, 0, none⟩)]] 358 hsz).cast (show _ = Dsp pb oc v p * (R * (row q 358 [.bool false, .slice none 0 0, .func (.func 243) #[] #[.pointer (some ⟨cb, 0, none⟩)]] * (row b 181 x.cells * (row cb 9 [.string (B.bs [62])] * F)))) from by
      show row q 358 _ * (row cb 9 [.string (B.bs [62])] * _) = _
      ac_rfl)
    have HAB := Lib.hid (addBlock_t pb p oc v v' R R' 356 (some ⟨q, 0, none⟩) _ _ HTR.out HDD.out.1 HDD.out.2.1 HDD.out.2.2 s6)
    clear s6 s5
    refine HAB.out.mono ?_
    rintro e' w6 ⟨rfl, s7⟩
    clear HAB
    have s8 := s7.cast (show _ = row q 358 [.bool false, .slice none 0 0, .func (.func 243) #[] #[.pointer (some ⟨cb, 0, none⟩)]] * (row b 181 x.cells * (row cb 9 [.string (B.bs [62])] * (Dsp pb oc { v' with obs := v'.obs ++ [⟨.iface 356 (.pointer (some ⟨q, 0, none⟩)), ⟨none, 0, 0⟩, [], v'.n, v'.n⟩] } p * (R' * F)))) from by ac_rfl)
    have t0 : w6.cell? ⟨q, 1, none⟩ = some (.slice none 0 0) := s8.cell 1 rfl
    have tf := fun i => s8.frozen i
    have tl := s8.row_lt
    obtain ⟨z0, z1, z2, z3, z4, zf⟩ := line_cells s8.swap
    have zl := s8.swap.row_lt
    clear s7 HTR HDD hQ hsz
    have hA : ∀ m, Sat ((w6.drewN m).alloc (.cells #[.string (B.bs t)] 9)) (arr 9 1 (.slice none 0 0) 0 [] * (row w6.heap.size 9 [.string (B.bs t)] * (row q 358 [.bool false, .slice none 0 0, .func (.func 243) #[] #[.pointer (some ⟨cb, 0, none⟩)]] * _))) := fun m => by
      rw [arr_nil, emp_star]
      exact (s8.drewN m).new (d := w6.heap.size) [.string (B.bs t)] 9 (by simp)
    have hK : ∀ m o, ((w6.drewN m).alloc o).cell? ⟨q, 1, none⟩ = some (.slice none 0 0) := fun m o => by
      rw [World.cell?_alloc_lt _ _ _ (by simpa using tl)]; exact t0
    go_wp2_with fail
    go_region_law (first
      | (go_simp; go_at_call 190; (first | refine (string_w _ x w6.drew _ hx s8.swap.drew).mono ?_ | refine (string_w _ x _ _ hx (s8.swap.drewN _)).mono ?_); rw [HST.out]; rintro e7 w7 ⟨rfl, m7, rfl⟩)
      | (refine step_append_sl (by rfl) (.tmp 80) (.tmp 83) 31 (by rfl) 9 i0 (.string ⟨#[]⟩) 1 16 Tryz.underlying31 hi9 hz0 hz1 hz2 rfl (.slice none 0 0) 0 [] (by rfl) (hA _) ⟨w6.heap.size, 0, none⟩ 1 1 [.string (B.bs t)] (by rfl) rfl (cells_new _ _ _) (by intro u hu; simp at hu; rcases hu with rfl; rfl) (by unfold maxLen; omega) (by decide) (by decide) ?_; intro g7 c7 w7 s9 z9; have k7 : w7.cell? ⟨q, 1, none⟩ = some (.slice none 0 0) := s9.third.cell 1 rfl; have kf := fun i => s9.third.frozen i))
    all_goals
      have s10 := s9.third.set 1 (.slice (some ⟨g7, 0, none⟩) 1 c7)
      have k2 := s10.cell 2 rfl
      have s11 := s10.cast (show _ = row w6.heap.size 9 [.string (B.bs t)] * (row cb 9 [.string (B.bs [62])] * (row q 358 [.bool false, .slice (some ⟨g7, 0, none⟩) 1 c7, .func (.func 243) #[] #[.pointer (some ⟨cb, 0, none⟩)]] * (row b 181 x.cells * (arr 9 1 (.slice (some ⟨g7, 0, none⟩) 1 c7) 1 [.string (B.bs t)] * (Dsp pb oc { v' with obs := v'.obs ++ [⟨.iface 356 (.pointer (some ⟨q, 0, none⟩)), ⟨none, 0, 0⟩, [], v'.n, v'.n⟩] } p * (R' * F)))))) from by
        show row q 358 [.bool false, .slice (some ⟨g7, 0, none⟩) 1 c7, .func (.func 243) #[] #[.pointer (some ⟨cb, 0, none⟩)]] * (arr 9 1 (.slice (some ⟨g7, 0, none⟩) 1 c7) 1 [.string (B.bs t)] * (row w6.heap.size 9 [.string (B.bs t)] * (row b 181 x.cells * (row cb 9 [.string (B.bs [62])] * _)))) = _
        ac_rfl)
      have S12 := Lib.hid s11.drop1
      have HEC := Lib.hid (endClos_w cb [62] t _ _ (by omega) (by decide) S12.out)
      rw [HFS.out] at HEC
      clear s9 s10 s11 k7 kf hA hK s8 t0 z0 z1 z2 z3 z4 zf tf
      go_wp2_with fail
      refine HEC.out.mono ?_
      rintro e' w9 ⟨rfl, rfl⟩
      clear HEC
      go_wp2
      rw [Exit.noGoto_ret]
      refine bodyPost_ret (v := .bool true) (by simp [results, Tryz.results204, go_sem]) rfl ⟨rfl, ⟨q, ⟨some ⟨g7, 0, none⟩, 1, c7⟩, cb, .func (.func 243) #[] #[.pointer (some ⟨cb, 0, none⟩)]⟩, rfl, ?_⟩
      refine S12.out.cast ?_
      show _ = Dsp pb oc { v' with obs := v'.obs ++ [⟨.iface 356 (.pointer (some ⟨q, 0, none⟩)), ⟨none, 0, 0⟩, [], v'.n, v'.n⟩] } p * ((row q 358 [.bool false, .slice (some ⟨g7, 0, none⟩) 1 c7, .func (.func 243) #[] #[.pointer (some ⟨cb, 0, none⟩)]] * (arr 9 1 (.slice (some ⟨g7, 0, none⟩) 1 c7) 1 [.string (B.bs t)] * row cb 9 [.string (B.bs [62])])) * (R' * (row b 181 x.cells * F)))
      ac_rfl

end Go.Proofs.YtbfmmikllelfeaaGreatDoor
