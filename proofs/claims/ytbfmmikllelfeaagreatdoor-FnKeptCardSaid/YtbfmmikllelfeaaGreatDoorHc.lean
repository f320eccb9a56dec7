/- Blocks of HTML: their builder goes on, and is closed. -/
import Derived.Test.YtbfmmikllelfeaaGreatDoorDb
import Derived.Test.YtbfmmikllelfeaaGreatDoorSk
import Derived.Test.YtbfmmikllelfeaaGreatDoorG8
import Derived.Test.YtbfmmikllelfeaaGreatDoorKi
namespace Go.Proofs.YtbfmmikllelfeaaGreatDoor
open Go.RowKit Sl

/-- No end tag stands in a line. -/
def NoEnd (s : List UInt8) : Prop := ∀ k : Nat, s[k]? = some 60 → s[k + 1]? ≠ some 47

set_option maxRecDepth 100000 in
set_option maxHeartbeats 1000000 in
theorem hasEndPre_no (s : List UInt8) (w : World) (hl : s.length ≤ 1000000000) (h : NoEnd s) :
    Calls Tryz.prog 245 #[.string (B.bs s)] w fun e w' => e = .returned (.bool false) ∧ w = w' := by
  have hz : (B.bs s).size = s.length := rfl
  have hget : ∀ k c, s[k]? = some c → ∀ hh, (B.bs s)[k]'hh = c := fun k c hk hh => (List.getElem?_eq_some_iff.1 hk).2
  have HG := Lib.hid hget
  have HN := Lib.hid (show ∀ k : Nat, s[k]? = some 60 → s[k + 1]? ≠ some 47 from h)
  clear h hget
  go_enter Tryz.func245, Tryz.ntmps245
  go_wp2
  go_loopw [3] (fun i wr => ∃ k : Nat, k ≤ s.length ∧ i = .int .i64 (k : Int) ∧ w = wr) (fun i _ => s.length - (intOf i).toNat)
  case atStart => exact ⟨0, Nat.zero_le _, by go_num, rfl⟩
  case round =>
    obtain ⟨k, hk, rfl, rfl⟩ := hrel
    by_cases hlt : k < s.length
    · have hc : s[k]? = some (s[k]'hlt) := by simp [hlt]
      generalize s[k]'hlt = c at hc
      have hix := HG.out k c hc
      by_cases h1 : c = 60
      · subst h1
        by_cases hlt2 : k + 1 < s.length
        · have hd : s[k + 1]? = some (s[k + 1]'hlt2) := by simp [hlt2]
          have hne := HN.out k hc
          rw [hd] at hne
          generalize s[k + 1]'hlt2 = d at hd hne
          have hiy := HG.out (k + 1) d hd
          have e2 : ((d.toNat : Int) == 47) = false := u8_ne (b := 47) (by rintro rfl; exact hne rfl)
          clear hc hd hne
          go_wp2
          go_roundw
          case rel => exact ⟨k + 1, by omega, by go_num, by first | trivial | rfl⟩
          case measure => simp [intOf]; omega
        · go_wp2
          go_roundw
          case rel => exact ⟨k + 1, by omega, by go_num, by first | trivial | rfl⟩
          case measure => simp [intOf]; omega
      · have e1 : ((c.toNat : Int) == 60) = false := u8_ne (b := 60) h1
        clear hc
        go_wp2
        go_roundw
        case rel => exact ⟨k + 1, by omega, by go_num, by first | trivial | rfl⟩
        case measure => simp [intOf]; omega
    · obtain rfl : k = s.length := by omega
      go_wp2
      go_ret
      exact ⟨rfl, rfl⟩

/-- Whether a line ends such a block. -/
def HK.stops : HK → List UInt8 → Bool → Prop
  | .blank, _, b => b = false
  | .pre, t, b => ∀ w, Calls Tryz.prog 245 #[.string (B.bs t)] w fun e w' => e = .returned (.bool b) ∧ w = w'
  | .has e, t, b => e.length ≤ 1000 ∧ (B.findSub e t).isSome = b

set_option maxRecDepth 100000 in
set_option maxHeartbeats 1000000 in
theorem htmlExtend_blank (p : Value) (x : LX) (l : Ln) (F : HP) (w : World) (hl : l.OK) (hb : l.blank = true)
    (hs : Sat w (row x.q 358 [.bool true, x.sv.v, x.fv] * F)) :
    Calls Tryz.prog 415 #[.pointer (some ⟨x.q, 0, none⟩), p, l.agg] w fun e w' => e = .returned (.tuple #[l.agg, .bool false]) ∧ Sat w' (row x.q 358 [.bool true, x.sv.v, x.fv] * F) := by
  have h1 := (hs.new (d := w.heap.size) l.cells 181 rfl).new (d := w.heap.size + 1) Ln.zero.cells 181 (by simp)
  have q0 : ∀ w', Sat w' (row (w.heap.size + 1) 181 Ln.zero.cells * (row w.heap.size 181 l.cells * (row x.q 358 [.bool true, x.sv.v, x.fv] * F))) → w'.cell? ⟨x.q, 0, none⟩ = some (.bool true) := fun w' h => h.third.cell 0 rfl
  have c0 := q0 _ h1
  have H1 := Lib.hid h1
  simp only [Ln.cells, Ln.zero, Int.natCast_zero, UInt8.toNat_zero] at c0
  clear h1 hs q0
  unfold Ln.agg
  go_enter Tryz.func415, Tryz.ntmps415
  go_wp2_with fail
  refine (isBlank_w w.heap.size l.i l.text _ hl.i hl.size (H1.out.swap.cell 3 rfl) (H1.out.swap.cell 1 rfl)).mono ?_
  rintro e w1 ⟨rfl, m, hm⟩
  have s1 : Sat w1 (row (w.heap.size + 1) 181 Ln.zero.cells * (row w.heap.size 181 l.cells * (row x.q 358 [.bool true, x.sv.v, x.fv] * F))) := by rw [hm]; exact H1.out.drewN _
  clear hm H1 c0
  rw [show (B.trimL (List.drop l.i l.text.data.toList)).isEmpty = true from hb]
  obtain ⟨a0, a1, a2, a3, a4, af⟩ := line_cells s1
  obtain ⟨b0, b1, b2, b3, b4, bf⟩ := line_cells s1.swap
  have S1 := Lib.hid s1
  clear s1
  go_wp2
  refine bodyPost_ret (v := .tuple #[l.agg, .bool false]) (by simp [results, Tryz.results415, go_sem, Ln.agg, *]) rfl ⟨rfl, ?_⟩
  exact (((((S1.out.set 0 _).set 1 _).set 2 _).set 3 _).set 4 _).drop1.drop1

theorem neq_nilF (w : World) : (binOp .neq 22 .nilFunc .nilFunc).run Tryz.prog w = .ok (.bool false) w := by kernel_rfl
theorem neq_funcF (f : FuncId) (cs : Array Value) (w : World) : (binOp .neq 22 (.func (.func f) #[] cs) .nilFunc).run Tryz.prog w = .ok (.bool true) w := by kernel_rfl

set_option maxRecDepth 100000 in
set_option maxHeartbeats 1000000 in
theorem endClos_w (cb : Nat) (e s : List UInt8) (F : HP) (w : World) (hs : s.length ≤ 1000000000) (he : e.length ≤ 1000) (h : Sat w (row cb 9 [.string (B.bs e)] * F)) :
    Calls Tryz.prog 243 #[.string (B.bs s), .pointer (some ⟨cb, 0, none⟩)] w fun e' w' => e' = .returned (.bool (B.findSub e s).isSome) ∧ w = w' := by
  have c0 := h.cell 0 rfl
  have HC := Lib.hid (zzContains_w (B.bs s) (B.bs e) w (by rw [B.bs_size]; omega) (by rw [B.bs_size]; omega))
  go_enter Tryz.func243, Tryz.ntmps243
  go_wp2_with fail
  refine HC.out.mono ?_
  rintro e' w' ⟨rfl, rfl⟩
  rw [B.bs_data, B.bs_data]
  go_wp2
  go_ret
  exact ⟨rfl, rfl⟩

set_option maxRecDepth 100000 in
set_option maxHeartbeats 2000000 in
/-- A line is taken up. -/
theorem htmlExtend_w (p : Value) (k : HK) (x : LX) (ls : List (List UInt8)) (l : Ln) (b : Bool) (F : HP) (w : World) (hl : l.OK) (hb : k.isBlank = true → l.blank = false) (hfit : k.fits x) (hn : ls.length < 1000000000) (hst : k.stops l.str b) (hsz : l.str.length ≤ 1000000000)
    (hs : Sat w (row x.q 358 [.bool k.isBlank, x.sv.v, x.fv] * (arr 9 1 x.sv.v x.sv.len (strVals ls) * (k.own x * F)))) :
    Calls Tryz.prog 415 #[.pointer (some ⟨x.q, 0, none⟩), p, l.agg] w fun e w' => e = .returned (.tuple #[Ln.zero.agg, .bool (!b)]) ∧ ∃ sv : SV,
      Sat w' (row x.q 358 [.bool k.isBlank, sv.v, x.fv] * (arr 9 1 sv.v sv.len (strVals (ls ++ [l.str])) * (k.own x * F))) := by
  obtain ⟨i0, hi, hz0, hz1, hz2⟩ := info_parts info_string
  have n1 := neq_nilF
  have n2 := neq_funcF
  have hal := hs.swap.arr_length
  have hsl : x.sv.len = ls.length := by unfold strVals at hal; rw [List.length_map, Nat.mul_one] at hal; exact hal.symm
  have h1 := (hs.new (d := w.heap.size) l.cells 181 rfl).new (d := w.heap.size + 1) Ln.zero.cells 181 (by simp)
  have c0 := h1.third.cell 0 rfl
  have H1 := Lib.hid h1
  simp only [Ln.cells, Ln.zero, Int.natCast_zero, UInt8.toNat_zero] at c0
  have hsl2 : x.sv.len < 1000000000 := by omega
  clear h1 hs hal hsl
  unfold Ln.agg
  cases k with
  | blank =>
    have hbl := hb rfl
    obtain rfl : b = false := hst
    have hfv : x.fv = .nilFunc := hfit
    rw [hfv] at H1 ⊢
    clear hfv hfit
    have c0' : (w.alloc (.cells #[.int .i64 l.spaces, .int .i64 l.i, .int .i64 l.tab, .string l.text, .int .u8 l.nl.toNat] 181)).heap.size = w.heap.size + 1 := by simp
    go_enter Tryz.func415, Tryz.ntmps415
    go_wp2_with fail
    refine (isBlank_w w.heap.size l.i l.text _ hl.i hl.size (H1.out.swap.cell 3 rfl) (H1.out.swap.cell 1 rfl)).mono ?_
    rintro e w1 ⟨rfl, m, hm⟩
    rw [show (B.trimL (List.drop l.i l.text.data.toList)).isEmpty = false from hbl]
    have S1 := Lib.hid (show Sat w1 (row (w.heap.size + 1) 181 Ln.zero.cells * (row w.heap.size 181 l.cells * (row x.q 358 [.bool true, x.sv.v, .nilFunc] * (arr 9 1 x.sv.v x.sv.len (strVals ls) * (HK.own .blank x * F))))) from by rw [hm]; exact H1.out.drewN _)
    clear hm H1 c0
    go_wp2_with fail
    refine (string_w w.heap.size l _ _ hl S1.out.swap).mono ?_
    rintro e w2 ⟨rfl, m2, hm2⟩
    have s2 : Sat w2 (row (w.heap.size + 1) 181 Ln.zero.cells * (row w.heap.size 181 l.cells * (row x.q 358 [.bool true, x.sv.v, .nilFunc] * (arr 9 1 x.sv.v x.sv.len (strVals ls) * (HK.own .blank x * F))))) := by rw [hm2]; exact S1.out.drewN _
    have c1 := s2.third.cell 1 rfl
    have c2 := s2.third.cell 2 rfl
    unfold SV.v at c1
    have hB := (s2.new (d := w2.heap.size) [.string (B.bs l.str)] 9 rfl).cast (show _ = arr 9 1 x.sv.v x.sv.len (strVals ls) * (row w2.heap.size 9 [.string (B.bs l.str)] * (row (w.heap.size + 1) 181 Ln.zero.cells * (row w.heap.size 181 l.cells * (row x.q 358 [.bool true, x.sv.v, .nilFunc] * (HK.own .blank x * F))))) from by ac_rfl)
    have HB := Lib.hid hB
    clear hm2 S1 s2 hB
    go_wp2_with (at_builtin; refine wpList_append_sl rfl (.tmp 22) (.tmp 24) 31 rfl 9 i0 (.string ⟨#[]⟩) 1 16 Tryz.underlying31 hi hz0 hz1 hz2 rfl x.sv.v x.sv.len (strVals ls) rfl HB.out ⟨w2.heap.size, 0, none⟩ 1 1 [.string (B.bs l.str)] rfl rfl ?c1 ?c2 ?c3 ?c4 (by decide) ?_)
    case c1 => exact cells_new _ [_] _
    case c2 => intro v hv; simp only [List.mem_singleton] at hv; subst hv; rfl
    case c3 => unfold maxLen; omega
    case c4 => omega
    intro g c w3 s3 _
    have s4 := (s3.cast (show _ = row w2.heap.size 9 [.string (B.bs l.str)] * (row x.q 358 [.bool true, x.sv.v, .nilFunc] * (arr 9 1 (.slice (some ⟨g, 0, none⟩) (x.sv.len + 1) c) (x.sv.len + 1) (strVals ls ++ [.string (B.bs l.str)]) * (row (w.heap.size + 1) 181 Ln.zero.cells * (row w.heap.size 181 l.cells * (HK.own .blank x * F))))) from by ac_rfl)).drop1
    have c1 := s4.cell 1 rfl
    have c2 := s4.cell 2 rfl
    have cf := fun i => s4.frozen i
    unfold SV.v at c1
    have s5 := s4.set 1 (.slice (some ⟨g, 0, none⟩) (x.sv.len + 1) c)
    have c2' := s5.cell 2 rfl
    have S5 := Lib.hid s5
    clear s3 s4 s5 HB
    have S6 := S5
    clear S5
    obtain ⟨a0, a1, a2, a3, a4, af⟩ := line_cells ((S6.out.cast (show _ = row (w.heap.size + 1) 181 Ln.zero.cells * (row w.heap.size 181 l.cells * (row x.q 358 [.bool true, .slice (some ⟨g, 0, none⟩) (x.sv.len + 1) c, .nilFunc] * (arr 9 1 (.slice (some ⟨g, 0, none⟩) (x.sv.len + 1) c) (x.sv.len + 1) (strVals ls ++ [.string (B.bs l.str)]) * (HK.own .blank x * F)))) from by ac_rfl)))
    go_wp2
    refine bodyPost_ret (v := .tuple #[Ln.zero.agg, .bool true]) (by simp [results, Tryz.results415, go_sem, Ln.agg, Ln.zero, *]) rfl ⟨rfl, ⟨some ⟨g, 0, none⟩, x.sv.len + 1, c⟩, ?_⟩
    have s9 := ((((((S6.out.cast (show _ = row (w.heap.size + 1) 181 Ln.zero.cells * (row w.heap.size 181 l.cells * (row x.q 358 [.bool true, .slice (some ⟨g, 0, none⟩) (x.sv.len + 1) c, .nilFunc] * (arr 9 1 (.slice (some ⟨g, 0, none⟩) (x.sv.len + 1) c) (x.sv.len + 1) (strVals ls ++ [.string (B.bs l.str)]) * (HK.own .blank x * F)))) from by ac_rfl)).set 0 (.int .i64 0)).set 1 (.int .i64 0)).set 2 (.int .i64 0)).set 3 (.string ⟨#[]⟩)).set 4 (.int .u8 0)).drop1.drop1
    rw [show strVals (ls ++ [l.str]) = strVals ls ++ [.string (B.bs l.str)] from by unfold strVals; rw [List.map_append]; rfl]
    exact s9
  | pre =>
    have hfv : x.fv = .func (.func 245) #[] #[] := hfit
    rw [hfv] at H1 ⊢
    clear hfv hfit
    have HST := Lib.hid (show ∀ w, Calls Tryz.prog 245 #[.string (B.bs l.str)] w fun e w' => e = .returned (.bool b) ∧ w = w' from hst)
    clear hst
    have S1 := H1
    clear H1
    go_enter Tryz.func415, Tryz.ntmps415
    go_wp2_with fail
    refine (string_w w.heap.size l _ _ hl S1.out.swap).mono ?_
    rintro e w2 ⟨rfl, m2, hm2⟩
    have s2 : Sat w2 (row (w.heap.size + 1) 181 Ln.zero.cells * (row w.heap.size 181 l.cells * (row x.q 358 [.bool false, x.sv.v, .func (.func 245) #[] #[]] * (arr 9 1 x.sv.v x.sv.len (strVals ls) * (HK.own .pre x * F))))) := by rw [hm2]; exact S1.out.drewN _
    have c1 := s2.third.cell 1 rfl
    have c2 := s2.third.cell 2 rfl
    unfold SV.v at c1
    have hB := (s2.new (d := w2.heap.size) [.string (B.bs l.str)] 9 rfl).cast (show _ = arr 9 1 x.sv.v x.sv.len (strVals ls) * (row w2.heap.size 9 [.string (B.bs l.str)] * (row (w.heap.size + 1) 181 Ln.zero.cells * (row w.heap.size 181 l.cells * (row x.q 358 [.bool false, x.sv.v, .func (.func 245) #[] #[]] * (HK.own .pre x * F))))) from by ac_rfl)
    have HB := Lib.hid hB
    clear hm2 S1 s2 hB
    go_wp2_with (at_builtin; refine wpList_append_sl rfl (.tmp 22) (.tmp 24) 31 rfl 9 i0 (.string ⟨#[]⟩) 1 16 Tryz.underlying31 hi hz0 hz1 hz2 rfl x.sv.v x.sv.len (strVals ls) rfl HB.out ⟨w2.heap.size, 0, none⟩ 1 1 [.string (B.bs l.str)] rfl rfl ?c1 ?c2 ?c3 ?c4 (by decide) ?_)
    case c1 => exact cells_new _ [_] _
    case c2 => intro v hv; simp only [List.mem_singleton] at hv; subst hv; rfl
    case c3 => unfold maxLen; omega
    case c4 => omega
    intro g c w3 s3 _
    have s4 := (s3.cast (show _ = row w2.heap.size 9 [.string (B.bs l.str)] * (row x.q 358 [.bool false, x.sv.v, .func (.func 245) #[] #[]] * (arr 9 1 (.slice (some ⟨g, 0, none⟩) (x.sv.len + 1) c) (x.sv.len + 1) (strVals ls ++ [.string (B.bs l.str)]) * (row (w.heap.size + 1) 181 Ln.zero.cells * (row w.heap.size 181 l.cells * (HK.own .pre x * F))))) from by ac_rfl)).drop1
    have c1 := s4.cell 1 rfl
    have c2 := s4.cell 2 rfl
    have cf := fun i => s4.frozen i
    unfold SV.v at c1
    have s5 := s4.set 1 (.slice (some ⟨g, 0, none⟩) (x.sv.len + 1) c)
    have c2' := s5.cell 2 rfl
    have S5 := Lib.hid s5
    clear s3 s4 s5 HB
    go_wp2_with fail
    refine (HST.out _).mono ?_
    rintro e w6 ⟨rfl, rfl⟩
    have S6 := S5
    clear S5
    cases b
    all_goals
      obtain ⟨a0, a1, a2, a3, a4, af⟩ := line_cells ((S6.out.cast (show _ = row (w.heap.size + 1) 181 Ln.zero.cells * (row w.heap.size 181 l.cells * (row x.q 358 [.bool false, .slice (some ⟨g, 0, none⟩) (x.sv.len + 1) c, .func (.func 245) #[] #[]] * (arr 9 1 (.slice (some ⟨g, 0, none⟩) (x.sv.len + 1) c) (x.sv.len + 1) (strVals ls ++ [.string (B.bs l.str)]) * (HK.own .pre x * F)))) from by ac_rfl)))
      go_wp2
      refine bodyPost_ret (v := .tuple #[Ln.zero.agg, .bool _]) (by simp [results, Tryz.results415, go_sem, Ln.agg, Ln.zero, *]) rfl ⟨rfl, ⟨some ⟨g, 0, none⟩, x.sv.len + 1, c⟩, ?_⟩
      have s9 := ((((((S6.out.cast (show _ = row (w.heap.size + 1) 181 Ln.zero.cells * (row w.heap.size 181 l.cells * (row x.q 358 [.bool false, .slice (some ⟨g, 0, none⟩) (x.sv.len + 1) c, .func (.func 245) #[] #[]] * (arr 9 1 (.slice (some ⟨g, 0, none⟩) (x.sv.len + 1) c) (x.sv.len + 1) (strVals ls ++ [.string (B.bs l.str)]) * (HK.own .pre x * F)))) from by ac_rfl)).set 0 (.int .i64 0)).set 1 (.int .i64 0)).set 2 (.int .i64 0)).set 3 (.string ⟨#[]⟩)).set 4 (.int .u8 0)).drop1.drop1
      rw [show strVals (ls ++ [l.str]) = strVals ls ++ [.string (B.bs l.str)] from by unfold strVals; rw [List.map_append]; rfl]
      exact s9
  
  | has e =>
    have hfv : x.fv = .func (.func 243) #[] #[.pointer (some ⟨x.cb, 0, none⟩)] := hfit
    rw [hfv] at H1 ⊢
    clear hfv hfit
    obtain ⟨he, hst⟩ := hst
    have HST := Lib.hid hst
    clear hst
    have S1 := H1
    clear H1
    go_enter Tryz.func415, Tryz.ntmps415
    go_wp2_with fail
    refine (string_w w.heap.size l _ _ hl S1.out.swap).mono ?_
    rintro e w2 ⟨rfl, m2, hm2⟩
    have s2 : Sat w2 (row (w.heap.size + 1) 181 Ln.zero.cells * (row w.heap.size 181 l.cells * (row x.q 358 [.bool false, x.sv.v, .func (.func 243) #[] #[.pointer (some ⟨x.cb, 0, none⟩)]] * (arr 9 1 x.sv.v x.sv.len (strVals ls) * (HK.own (.has e) x * F))))) := by rw [hm2]; exact S1.out.drewN _
    have c1 := s2.third.cell 1 rfl
    have c2 := s2.third.cell 2 rfl
    unfold SV.v at c1
    have hB := (s2.new (d := w2.heap.size) [.string (B.bs l.str)] 9 rfl).cast (show _ = arr 9 1 x.sv.v x.sv.len (strVals ls) * (row w2.heap.size 9 [.string (B.bs l.str)] * (row (w.heap.size + 1) 181 Ln.zero.cells * (row w.heap.size 181 l.cells * (row x.q 358 [.bool false, x.sv.v, .func (.func 243) #[] #[.pointer (some ⟨x.cb, 0, none⟩)]] * (HK.own (.has e) x * F))))) from by ac_rfl)
    have HB := Lib.hid hB
    clear hm2 S1 s2 hB
    go_wp2_with (at_builtin; refine wpList_append_sl rfl (.tmp 22) (.tmp 24) 31 rfl 9 i0 (.string ⟨#[]⟩) 1 16 Tryz.underlying31 hi hz0 hz1 hz2 rfl x.sv.v x.sv.len (strVals ls) rfl HB.out ⟨w2.heap.size, 0, none⟩ 1 1 [.string (B.bs l.str)] rfl rfl ?c1 ?c2 ?c3 ?c4 (by decide) ?_)
    case c1 => exact cells_new _ [_] _
    case c2 => intro v hv; simp only [List.mem_singleton] at hv; subst hv; rfl
    case c3 => unfold maxLen; omega
    case c4 => omega
    intro g c w3 s3 _
    have s4 := (s3.cast (show _ = row w2.heap.size 9 [.string (B.bs l.str)] * (row x.q 358 [.bool false, x.sv.v, .func (.func 243) #[] #[.pointer (some ⟨x.cb, 0, none⟩)]] * (arr 9 1 (.slice (some ⟨g, 0, none⟩) (x.sv.len + 1) c) (x.sv.len + 1) (strVals ls ++ [.string (B.bs l.str)]) * (row (w.heap.size + 1) 181 Ln.zero.cells * (row w.heap.size 181 l.cells * (HK.own (.has e) x * F))))) from by ac_rfl)).drop1
    have c1 := s4.cell 1 rfl
    have c2 := s4.cell 2 rfl
    have cf := fun i => s4.frozen i
    unfold SV.v at c1
    have s5 := s4.set 1 (.slice (some ⟨g, 0, none⟩) (x.sv.len + 1) c)
    have c2' := s5.cell 2 rfl
    have S5 := Lib.hid s5
    clear s3 s4 s5 HB
    go_wp2_with fail
    have s6 := S5.out.cast (show _ = row x.cb 9 [.string (B.bs e)] * (row x.q 358 [.bool false, .slice (some ⟨g, 0, none⟩) (x.sv.len + 1) c, .func (.func 243) #[] #[.pointer (some ⟨x.cb, 0, none⟩)]] * (arr 9 1 (.slice (some ⟨g, 0, none⟩) (x.sv.len + 1) c) (x.sv.len + 1) (strVals ls ++ [.string (B.bs l.str)]) * (row (w.heap.size + 1) 181 Ln.zero.cells * (row w.heap.size 181 l.cells * F)))) from by
      rw [show HK.own (.has e) x = row x.cb 9 [.string (B.bs e)] from rfl]
      ac_rfl)
    refine (endClos_w x.cb e l.str _ _ hsz he s6).mono ?_
    rw [HST.out]
    rintro e6 w6 ⟨rfl, rfl⟩
    clear s6
    have S6 := S5
    clear S5
    cases b
    all_goals
      obtain ⟨a0, a1, a2, a3, a4, af⟩ := line_cells ((S6.out.cast (show _ = row (w.heap.size + 1) 181 Ln.zero.cells * (row w.heap.size 181 l.cells * (row x.q 358 [.bool false, .slice (some ⟨g, 0, none⟩) (x.sv.len + 1) c, .func (.func 243) #[] #[.pointer (some ⟨x.cb, 0, none⟩)]] * (arr 9 1 (.slice (some ⟨g, 0, none⟩) (x.sv.len + 1) c) (x.sv.len + 1) (strVals ls ++ [.string (B.bs l.str)]) * (HK.own (.has e) x * F)))) from by ac_rfl)))
      go_wp2
      refine bodyPost_ret (v := .tuple #[Ln.zero.agg, .bool _]) (by simp [results, Tryz.results415, go_sem, Ln.agg, Ln.zero, *]) rfl ⟨rfl, ⟨some ⟨g, 0, none⟩, x.sv.len + 1, c⟩, ?_⟩
      have s9 := ((((((S6.out.cast (show _ = row (w.heap.size + 1) 181 Ln.zero.cells * (row w.heap.size 181 l.cells * (row x.q 358 [.bool false, .slice (some ⟨g, 0, none⟩) (x.sv.len + 1) c, .func (.func 243) #[] #[.pointer (some ⟨x.cb, 0, none⟩)]] * (arr 9 1 (.slice (some ⟨g, 0, none⟩) (x.sv.len + 1) c) (x.sv.len + 1) (strVals ls ++ [.string (B.bs l.str)]) * (HK.own (.has e) x * F)))) from by ac_rfl)).set 0 (.int .i64 0)).set 1 (.int .i64 0)).set 2 (.int .i64 0)).set 3 (.string ⟨#[]⟩)).set 4 (.int .u8 0)).drop1.drop1
      rw [show strVals (ls ++ [l.str]) = strVals ls ++ [.string (B.bs l.str)] from by unfold strVals; rw [List.map_append]; rfl]
      exact s9
  
end Go.Proofs.YtbfmmikllelfeaaGreatDoor

/- Blocks of HTML, closed; paragraphs of several lines, closed. -/
namespace Go.Proofs.YtbfmmikllelfeaaGreatDoor
open Go.RowKit Sl

set_option maxRecDepth 100000 in
set_option maxHeartbeats 1000000 in
theorem htmlBuild_d (pb p q : Nat) (oc : List Value) (v : DV) (pre : List OB) (o : OB) (eb fv : Value) (sv : SV) (F : HP) (w : World) (ho : v.obs = pre ++ [o]) (hs : Sat w (Dsp pb oc v p * (row q 358 [eb, sv.v, fv] * F))) :
    Calls Tryz.prog 414 #[.pointer (some ⟨q, 0, none⟩), .iface 193 (.pointer (some ⟨p, 0, none⟩))] w fun e w' =>
      ∃ d : Nat, e = .returned (.iface 151 (.pointer (some ⟨d, 0, none⟩))) ∧ Sat w' (Dsp pb oc v p * (row d 153 [.int .i64 o.st, .int .i64 o.en, sv.v] * F)) := by
  obtain ⟨g, cap, hlp, hlg, hp, h2, h3, hn⟩ := dsp_pos ho hs
  have m1 := fun w => meth_parseState_pos ⟨p, 0, none⟩ w
  have n1 := fun w => ahead_parseState_pos ⟨p, 0, none⟩ w
  have q1 : w.cell? ⟨q, 1, none⟩ = some (.slice sv.a sv.len sv.cap) := hs.swap.cell 1 rfl
  have xq := fun x : Qt.Ext w => x.cell q1
  go_enter Tryz.func414, Tryz.ntmps414
  go_wp2
  refine Qt.wp_region (fun w' => ∃ x : Qt.Ext w, w' = x.w) 7 (by kernel_rfl) (by kernel_rfl) (Qt.Ext.start w) ?_
  simp only [List.take_succ_cons, List.take_zero, List.drop_succ_cons, List.drop_zero]
  repeat (quiet_step (first
    | (rename_i x; go_at_call 342; exact x.call (pos_w p g pre.length cap o.st o.en _ hn (x.lt hlp) (x.lt hlg) (x.cell hp) (x.cell h2) (x.cell h3)))))
  refine wpQuiet_nil ?_
  rintro _ ⟨y, rfl⟩
  have hy : Sat y.w _ := hs.ext y.below
  have HY := Lib.hid hy
  clear hy hs
  go_wp2
  go_ret
  refine ⟨_, rfl, ?_⟩
  have h5 := HY.out.new (d := y.w.heap.size) [.int .i64 o.st, .int .i64 o.en, sv.v] 153 rfl
  exact (h5.cast (show _ = row q 358 [eb, sv.v, fv] * (Dsp pb oc v p * (row y.w.heap.size 153 [.int .i64 o.st, .int .i64 o.en, sv.v] * F)) from by ac_rfl)).drop1

/-- The open block of HTML is closed. -/
theorem html_close (oc : List Value) (n : Int) (bs : List Blk) (st en : Int) (k : HK) (ls : List (List UInt8)) (hb : bs.length < 1000000) : Shuts oc ⟨n, bs, .html st en k ls⟩ (bs ++ [.html st en ls]) := by
  refine .inr ⟨(by intro e; cases e), ?_⟩
  intro pb p w F hs
  obtain ⟨x, e1, e2, h⟩ := docSt_iff.1 hs
  have hbl : x.l.length < 1000000 := by rw [← List.length_map (f := CB.b), e1]; exact hb
  have h1 : Sat w (Dsp pb oc (x.dv ⟨n, bs, .html st en k ls⟩) p * ((row x.lx.q 358 [.bool k.isBlank, x.lx.sv.v, x.lx.fv] * arr 9 1 x.lx.sv.v x.lx.sv.len (strVals ls)) * (cbOwn x.l * (TxsAt 0 (cbTxs x.l) * F)))) := by
    have h2 := h.cast (show _ = k.own x.lx * (Dsp pb oc (x.dv ⟨n, bs, .html st en k ls⟩) p * ((row x.lx.q 358 [.bool k.isBlank, x.lx.sv.v, x.lx.fv] * arr 9 1 x.lx.sv.v x.lx.sv.len (strVals ls)) * (cbOwn x.l * (TxsAt 0 (cbTxs x.l) * F)))) from by
      show Dsp pb oc _ p * (cbOwn x.l * (TxsAt 0 (cbTxs x.l) * (row x.lx.q 358 [.bool k.isBlank, x.lx.sv.v, x.lx.fv] * (arr 9 1 x.lx.sv.v x.lx.sv.len (strVals ls) * k.own x.lx) * F))) = _
      ac_rfl)
    exact h2.drop1
  refine (closeOne_d pb p oc (x.dv ⟨n, bs, .html st en k ls⟩) [] (rootOB x.r x.inn (x.l.map CB.v)) ⟨.iface 356 (.pointer (some ⟨x.lx.q, 0, none⟩)), ⟨none, 0, 0⟩, [], st, en⟩ 356 151 ⟨x.lx.q, 0, none⟩ 414 _
    (fun d ps => Sl.pur (ps = (cbTxs x.l).map TX.ptr) * (row d 153 [.int .i64 st, .int .i64 en, x.lx.sv.v] * arr 9 1 x.lx.sv.v x.lx.sv.len (strVals ls))) _ w rfl rfl (by show (x.l.map CB.v).length < _; rw [List.length_map]; omega)
    (fun w => meth_htmlBuilder_build ⟨x.lx.q, 0, none⟩ w) (fun w => ahead_htmlBuilder_build ⟨x.lx.q, 0, none⟩ w) (enters_of Tryz.func414 (by kernel_rfl) rfl) ?_ (fun v w => by kernel_rfl) h1).mono ?_
  · intro w F hs
    refine (htmlBuild_d pb p x.lx.q oc _ [rootOB x.r x.inn (x.l.map CB.v)] ⟨.iface 356 (.pointer (some ⟨x.lx.q, 0, none⟩)), ⟨none, 0, 0⟩, [], st, en⟩ _ _ x.lx.sv (arr 9 1 x.lx.sv.v x.lx.sv.len (strVals ls) * F) w rfl (hs.cast (by ac_rfl))).mono ?_
    rintro e w' ⟨d, rfl, h5⟩
    refine ⟨d, (cbTxs x.l).map TX.ptr, rfl, ?_⟩
    rw [pur_star rfl]
    exact h5.cast (by ac_rfl)
  · rintro e w' ⟨⟨u, rfl⟩, d, ps, inn', h5⟩
    refine ⟨u, rfl, ?_⟩
    have h5' := h5.swap.cast (star_assoc _ _ _)
    obtain ⟨rfl, h6⟩ := h5'.pur
    obtain ⟨c, hc⟩ : ∃ c : CB, c = ⟨.html st en ls, d, 0, x.lx.sv⟩ := ⟨_, rfl⟩
    have eT : cbTxs (x.l ++ [c]) = cbTxs x.l := by
      rw [cbTxs_append, hc]
      exact List.append_nil _
    have eO : cbOwn (x.l ++ [c]) = cbOwn x.l * (row d 153 [.int .i64 st, .int .i64 en, x.lx.sv.v] * arr 9 1 x.lx.sv.v x.lx.sv.len (strVals ls)) := by
      rw [cbOwn_append, hc]
      show _ * ((row d 153 [.int .i64 st, .int .i64 en, x.lx.sv.v] * arr 9 1 x.lx.sv.v x.lx.sv.len (strVals ls)) * emp) = _
      rw [star_emp]
    have eV : (x.l ++ [c]).map CB.v = x.l.map CB.v ++ [.iface 151 (.pointer (some ⟨d, 0, none⟩))] := by
      rw [List.map_append, hc]
      rfl
    refine docSt_iff.2 ⟨⟨x.r, inn', x.dep, x.l ++ [c], x.lx⟩, ?_, trivial, ?_⟩
    · show (x.l ++ [c]).map CB.b = bs ++ [_]
      rw [List.map_append, e1, hc]
      rfl
    · have eD : (⟨x.r, inn', x.dep, x.l ++ [c], x.lx⟩ : DX).dv ⟨n, bs ++ [.html st en ls], .none⟩ = ⟨n, x.dep, [rootOB x.r inn' (x.l.map CB.v ++ [.iface 151 (.pointer (some ⟨d, 0, none⟩))])], (cbTxs x.l).map TX.ptr, none⟩ := by
        show (⟨n, x.dep, [rootOB x.r inn' ((x.l ++ [c]).map CB.v)], (cbTxs (x.l ++ [c])).map TX.ptr, none⟩ : DV) = _
        rw [eV, eT]
      rw [eD]
      show Sat w' (_ * (cbOwn (x.l ++ [c]) * (TxsAt 0 (cbTxs (x.l ++ [c])) * (emp * F))))
      rw [eT, eO, emp_star]
      refine h6.cast ?_
      show (row d 153 [.int .i64 st, .int .i64 en, x.lx.sv.v] * arr 9 1 x.lx.sv.v x.lx.sv.len (strVals ls)) * (Dsp pb oc ⟨n, x.dep, [rootOB x.r inn' (x.l.map CB.v ++ [.iface 151 (.pointer (some ⟨d, 0, none⟩))])], (cbTxs x.l).map TX.ptr, none⟩ p * (cbOwn x.l * (TxsAt 0 (cbTxs x.l) * F))) = _
      ac_rfl

end Go.Proofs.YtbfmmikllelfeaaGreatDoor

/- A paragraph of several lines is closed: paraBuilder.build. -/
namespace Go.Proofs.YtbfmmikllelfeaaGreatDoor
open Go.RowKit Sl

theorem map_bs_data (ls : List (List UInt8)) : (ls.map B.bs).map (·.data.toList) = ls := by
  rw [List.map_map]
  conv => rhs; rw [← List.map_id ls]
  exact List.map_congr_left fun s _ => B.bs_data s

theorem join_nl : ∀ (xs : List (List UInt8)), Lib.join xs [10] = joinNL xs
  | [] => rfl
  | [a] => by simp [Lib.join, joinNL]
  | a :: b :: r => by
    have ih := join_nl (b :: r)
    show _ = a ++ 10 :: joinNL (b :: r)
    rw [← ih]
    simp [Lib.join, List.intercalate]

set_option maxRecDepth 100000 in
set_option maxHeartbeats 4000000 in
theorem paraBuild_n (pb p q g cap n : Nat) (oc : List Value) (v : DV) (pre : List OB) (o : OB) (ls : List (List UInt8)) (raw : List UInt8) (F : HP) (w : World) (hdef : NoDef raw) (hraw : joinNL ls = raw) (hne : raw ≠ []) (hn : n = ls.length) (hn2 : n ≤ 1000000) (hl : raw.length ≤ 100000000) (hcap : n ≤ cap)
    (ho : v.obs = pre ++ [o]) (hp : v.ptrs.length < 1000000000) (hst : 0 ≤ o.st ∧ o.st ≤ 1000000000)
    (hs : Sat w (Dsp pb oc v p * (row q 262 [.slice (some ⟨g, 0, none⟩) n cap, .pointer none] * (arr 9 1 (.slice (some ⟨g, 0, none⟩) n cap) n (strVals ls) * F)))) :
    Calls Tryz.prog 392 #[.pointer (some ⟨q, 0, none⟩), .iface 193 (.pointer (some ⟨p, 0, none⟩))] w fun e w' => ∃ d tb : Nat, e = .returned (.iface 145 (.pointer (some ⟨d, 0, none⟩))) ∧
      Sat w' (Dsp pb oc { v with ptrs := v.ptrs ++ [.pointer (some ⟨tb, 0, none⟩)] } p * (row d 147 [.int .i64 o.st, .int .i64 (o.st + n - 1), .pointer (some ⟨tb, 0, none⟩)] * (row tb 144 [.int .i64 o.st, .int .i64 (o.st + n - 1), .slice none 0 0, .string (B.bs raw)] * F))) := by
  have q0 : w.cell? ⟨q, 0, none⟩ = some (.slice (some ⟨g, 0, none⟩) n cap) := hs.swap.cell 0 rfl
  have q1 : w.cell? ⟨q, 1, none⟩ = some (.pointer none) := hs.swap.cell 1 rfl
  obtain ⟨junk, j1, j2, j3, j4, hr⟩ := hs.third.arr_row
  have hlg := hr.row_lt
  have hj := Sk.strings_Join g 0 cap (ls.map B.bs) ⟨#[10]⟩ w (by
    intro j x hx
    rw [List.getElem?_map] at hx
    obtain ⟨u, hu, rfl⟩ := Option.map_eq_some_iff.1 hx
    rw [Nat.zero_add]
    refine hr.cell j ?_
    rw [List.getElem?_append_left (by unfold strVals; rw [List.length_map]; exact (List.getElem?_eq_some_iff.1 hu).1)]
    unfold strVals
    rw [List.getElem?_map, hu]; rfl) hlg (by rw [List.length_map]; omega) (by rw [List.length_map, ← hn]; exact hcap) (by
      rw [map_bs_data]
      show (Lib.join ls [10]).length ≤ _
      rw [join_nl, hraw]; omega)
  have hjj : (⟨(Lib.join ((ls.map B.bs).map (·.data.toList)) (⟨#[10]⟩ : ByteArray).data.toList).toArray⟩ : ByteArray) = B.bs raw := by
    rw [map_bs_data]
    show (⟨(Lib.join ls [10]).toArray⟩ : ByteArray) = _
    rw [join_nl, hraw]; rfl
  rw [hjj, List.length_map, ← hn] at hj
  have HJ := Lib.hid hj
  have hne' : (B.bs raw).toList.isEmpty = false := by
    rw [Lib.toList_data, B.bs_data]
    cases raw with
    | nil => exact absurd rfl hne
    | cons => rfl
  have HL := Lib.hid (show ∀ (p : Option Addr) (w : World), _ from hdef)
  clear hdef
  have HS := Lib.hid hs
  have HO := Lib.hid ho
  have m1 := fun w => meth_parseState_pos ⟨p, 0, none⟩ w
  have n1 := fun w => ahead_parseState_pos ⟨p, 0, none⟩ w
  have m2 := fun w => meth_parseState_newText ⟨p, 0, none⟩ w
  have n2 := fun w => ahead_parseState_newText ⟨p, 0, none⟩ w
  generalize hT : B.bs raw = txt at *
  generalize strVals ls = VS at *
  clear hjj hj hs hr j1 j2 j3 j4 ho hlg hn hraw hne hcap hl
  go_enter Tryz.func392, Tryz.ntmps392
  go_wp2_with fail
  refine HJ.out.mono ?_
  rintro e w1 ⟨rfl, hb1⟩
  have s1 := HS.out.ext hb1
  clear HS q1 HJ
  have q0 : w1.cell? ⟨q, 0, none⟩ = some (.slice (some ⟨g, 0, none⟩) n cap) := s1.swap.cell 0 rfl
  have S1 := Lib.hid s1
  clear s1 hb1
  go_wp2
  go_loopw [5] (fun s wr => s = .string txt ∧ w1 = wr) (fun _ _ => 0)
  case atStart => exact ⟨rfl, rfl⟩
  case round =>
    obtain ⟨rfl, rfl⟩ := hrel
    go_wp2_with fail
    refine (HL.out _ _).mono ?_
    rintro e w2 ⟨rfl, rfl⟩
    obtain ⟨pg, pcap, hp1, hp2, p4, p6, p7, hpn⟩ := dsp_pos HO.out S1.out
    have HP := Lib.hid (pos_w p pg pre.length pcap o.st o.en w1 hpn hp1 hp2 p4 p6 p7)
    clear p4 p6 p7 HL
    go_wp2_with fail
    refine HP.out.mono ?_
    rintro e w3 ⟨rfl, hb3⟩
    have s3 := S1.out.ext hb3
    clear HP S1 q0 hb3
    have q0 : w3.cell? ⟨q, 0, none⟩ = some (.slice (some ⟨g, 0, none⟩) n cap) := s3.swap.cell 0 rfl
    have S3 := Lib.hid s3
    have hql := s3.swap.row_lt
    clear s3
    go_wp2
    have s4 := S3.out.new (d := w3.heap.size) [.int .i64 o.st, .int .i64 o.en] 111 rfl
    clear S3 q0 hql
    have hbl : w3.heap.size < (w3.alloc (.cells #[.int .i64 o.st, .int .i64 o.en] 111)).heap.size := by simp
    generalize w3.alloc (.cells #[.int .i64 o.st, .int .i64 o.en] 111) = w4 at *
    generalize w3.heap.size = b at *
    have b0 : w4.cell? ⟨b, 0, none⟩ = some (.int .i64 o.st) := s4.cell 0 rfl
    have b1 : w4.cell? ⟨b, 1, none⟩ = some (.int .i64 o.en) := s4.cell 1 rfl
    have bf := fun i => s4.frozen i
    have q0 : w4.cell? ⟨q, 0, none⟩ = some (.slice (some ⟨g, 0, none⟩) n cap) := s4.third.cell 0 rfl
    generalize hz : o.st = z at *
    generalize hy : z + (n : Int) - 1 = y at *
    have HZ := Lib.hid hz
    have HY := Lib.hid hy
    clear hz
    have S4 := Lib.hid s4
    clear s4
    go_cut [57] (fun t57 wx => Sat wx (row b 111 [.int .i64 z, .int .i64 y] * (Dsp pb oc v p * (row q 262 [.slice (some ⟨g, 0, none⟩) n cap, .pointer none] * (arr 9 1 (.slice (some ⟨g, 0, none⟩) n cap) n VS * F)))))
    case first =>
      go_region
      all_goals
        go_wp2
        go_meet
        exact (S4.out.set 1 (.int .i64 y)).drew
    case rest =>
      have s7 := hcut.cast (show _ = Dsp pb oc v p * (row b 111 [.int .i64 z, .int .i64 y] * (row q 262 [.slice (some ⟨g, 0, none⟩) n cap, .pointer none] * (arr 9 1 (.slice (some ⟨g, 0, none⟩) n cap) n VS * F))) from by ac_rfl)
      have b0 : wc.cell? ⟨b, 0, none⟩ = some (.int .i64 z) := s7.swap.cell 0 rfl
      have b1 : wc.cell? ⟨b, 1, none⟩ = some (.int .i64 y) := s7.swap.cell 1 rfl
      have S7 := Lib.hid s7
      clear hcut s7 S4
      have HNT := Lib.hid (fun (w : World) (F : HP) hs => newText_d pb p oc v z y raw F w hp hs)
      rw [hT] at HNT
      go_wp2_with fail
      go_region_law (first
        | (go_simp; go_at_call 196; (first | refine (HNT.out wc.drew _ S7.out.drew).mono ?_ | refine (HNT.out _ _ (S7.out.drewN _)).mono ?_ | refine (HNT.out _ _ S7.out).mono ?_); rintro e5 w5 ⟨tb, rfl, s8⟩; have b0' : w5.cell? ⟨b, 0, none⟩ = some (.int .i64 z) := s8.third.cell 0 rfl; have b1' : w5.cell? ⟨b, 1, none⟩ = some (.int .i64 y) := s8.third.cell 1 rfl))
      all_goals
        have s9 := (s8.new (d := w5.heap.size) [.int .i64 z, .int .i64 y, .pointer (some ⟨tb, 0, none⟩)] 147 rfl).cast (show _ = row b 111 [.int .i64 z, .int .i64 y] * (row q 262 [.slice (some ⟨g, 0, none⟩) n cap, .pointer none] * (arr 9 1 (.slice (some ⟨g, 0, none⟩) n cap) n VS * (Dsp pb oc { v with ptrs := v.ptrs ++ [.pointer (some ⟨tb, 0, none⟩)] } p * (row w5.heap.size 147 [.int .i64 z, .int .i64 y, .pointer (some ⟨tb, 0, none⟩)] * (row tb 144 [.int .i64 z, .int .i64 y, .slice none 0 0, .string txt] * F))))) from by ac_rfl)
        have S9 := Lib.hid s9.drop1.drop1.drop1
        clear s8 s9 S7 b0 b1 b0' b1'
        go_wp2
        go_ret
        exact ⟨w5.heap.size, tb, rfl, by rw [HZ.out, HY.out]; exact S9.out⟩


theorem cbTxs_len : ∀ l : List CB, (cbTxs l).length ≤ l.length
  | [] => Nat.le_refl _
  | c :: r => by
    have ih := cbTxs_len r
    show (c.txs ++ cbTxs r).length ≤ r.length + 1
    rw [List.length_append]
    have : c.txs.length ≤ 1 := by
      obtain ⟨b, d, tb, sv⟩ := c
      cases b
      · exact Nat.le_refl _
      · exact Nat.zero_le _
    omega

/-- The open paragraph is closed. -/
theorem para_shut (oc : List Value) (n : Int) (bs : List Blk) (st en : Int) (ls : List (List UInt8)) (raw : List UInt8) (toks : List Tok) (hb : bs.length < 1000000) (hdef : NoDef raw) (hraw : joinNL ls = raw) (hne : raw ≠ []) (hls : 1 ≤ ls.length) (hls2 : ls.length ≤ 1000000) (hl : raw.length ≤ 100000000) (hst : 0 ≤ st ∧ st ≤ 1000000000) :
    Shuts oc ⟨n, bs, .para st en ls⟩ (bs ++ [.para st (st + ls.length - 1) raw toks]) := by
  refine .inr ⟨(by intro e; cases e), ?_⟩
  intro pb p w F hs
  obtain ⟨x, e1, e2, h⟩ := docSt_iff.1 hs
  have hbl : x.l.length < 1000000 := by rw [← List.length_map (f := CB.b), e1]; exact hb
  have htl := cbTxs_len x.l
  have h1 : Sat w (Dsp pb oc (x.dv ⟨n, bs, .para st en ls⟩) p * ((row x.lx.q 262 [x.lx.sv.v, .pointer none] * arr 9 1 x.lx.sv.v x.lx.sv.len (strVals ls)) * (cbOwn x.l * (TxsAt 0 (cbTxs x.l) * F)))) := by
    refine h.cast ?_
    show Dsp pb oc _ p * (cbOwn x.l * (TxsAt 0 (cbTxs x.l) * (row x.lx.q 262 [x.lx.sv.v, .pointer none] * arr 9 1 x.lx.sv.v x.lx.sv.len (strVals ls) * F))) = _
    ac_rfl
  refine (closeOne_d pb p oc (x.dv ⟨n, bs, .para st en ls⟩) [] (rootOB x.r x.inn (x.l.map CB.v)) ⟨.iface 258 (.pointer (some ⟨x.lx.q, 0, none⟩)), ⟨none, 0, 0⟩, [], st, en⟩ 258 145 ⟨x.lx.q, 0, none⟩ 392 _
    (fun d ps => Sl.ex fun tb : Nat => Sl.pur (ps = (cbTxs x.l).map TX.ptr ++ [.pointer (some ⟨tb, 0, none⟩)]) * (row d 147 [.int .i64 st, .int .i64 (st + ls.length - 1), .pointer (some ⟨tb, 0, none⟩)] * row tb 144 [.int .i64 st, .int .i64 (st + ls.length - 1), .slice none 0 0, .string (B.bs raw)])) _ w rfl rfl (by show (x.l.map CB.v).length < _; rw [List.length_map]; omega)
    (fun w => meth_paraBuilder_build ⟨x.lx.q, 0, none⟩ w) (fun w => ahead_paraBuilder_build ⟨x.lx.q, 0, none⟩ w) (enters_of Tryz.func392 (by kernel_rfl) rfl) ?_ (fun v w => tb_Block_Paragraph_List v w) h1).mono ?_
  · intro w F hs
    have hs0 := hs.cast (show _ = arr 9 1 x.lx.sv.v x.lx.sv.len (strVals ls) * (Dsp pb oc (x.dv ⟨n, bs, .para st en ls⟩) p * (row x.lx.q 262 [x.lx.sv.v, .pointer none] * F)) from by ac_rfl)
    have hal := hs0.arr_length
    have hsl : x.lx.sv.len = ls.length := by unfold strVals at hal; rw [List.length_map, Nat.mul_one] at hal; exact hal.symm
    obtain ⟨g, cap, junk, hv, hcap⟩ : ∃ g cap junk, x.lx.sv.v = .slice (some ⟨g, 0, none⟩) ls.length cap ∧ ls.length ≤ cap ∧ junk = junk := by
      rcases hs0.arr_cases with ⟨_, h0, _, _⟩ | ⟨g, cap, junk, hv, _, q1, _, _, _⟩
      · omega
      · exact ⟨g, cap, junk, by rw [hv, hsl], by omega, rfl⟩
    have hs1 := hs0.cast (show _ = Dsp pb oc (x.dv ⟨n, bs, .para st en ls⟩) p * (row x.lx.q 262 [.slice (some ⟨g, 0, none⟩) ls.length cap, .pointer none] * (arr 9 1 (.slice (some ⟨g, 0, none⟩) ls.length cap) ls.length (strVals ls) * F)) from by
      rw [hv, hsl]
      ac_rfl)
    refine (paraBuild_n pb p x.lx.q g cap ls.length oc _ [rootOB x.r x.inn (x.l.map CB.v)] ⟨.iface 258 (.pointer (some ⟨x.lx.q, 0, none⟩)), ⟨none, 0, 0⟩, [], st, en⟩ ls raw F w hdef hraw hne rfl hls2 hl hcap.1 rfl (by show ((cbTxs x.l).map TX.ptr).length < _; rw [List.length_map]; omega) hst hs1).mono ?_
    rintro e w' ⟨d, tb, rfl, h5⟩
    refine ⟨d, (cbTxs x.l).map TX.ptr ++ [.pointer (some ⟨tb, 0, none⟩)], rfl, ?_⟩
    have h6 : Sat w' ((Sl.ex fun tb' : Nat => Sl.pur ((cbTxs x.l).map TX.ptr ++ [.pointer (some ⟨tb, 0, none⟩)] = (cbTxs x.l).map TX.ptr ++ [.pointer (some ⟨tb', 0, none⟩)]) * (row d 147 [.int .i64 st, .int .i64 (st + ls.length - 1), .pointer (some ⟨tb', 0, none⟩)] * row tb' 144 [.int .i64 st, .int .i64 (st + ls.length - 1), .slice none 0 0, .string (B.bs raw)])) * (Dsp pb oc { x.dv ⟨n, bs, .para st en ls⟩ with ptrs := (cbTxs x.l).map TX.ptr ++ [.pointer (some ⟨tb, 0, none⟩)] } p * F)) := by
      refine Sat.ex_mk tb ?_
      rw [star_assoc, pur_star rfl]
      exact h5.cast (by
        show Dsp pb oc { x.dv ⟨n, bs, .para st en ls⟩ with ptrs := (cbTxs x.l).map TX.ptr ++ [.pointer (some ⟨tb, 0, none⟩)] } p * (row d 147 [.int .i64 st, .int .i64 (st + ls.length - 1), .pointer (some ⟨tb, 0, none⟩)] * (row tb 144 [.int .i64 st, .int .i64 (st + ls.length - 1), .slice none 0 0, .string (B.bs raw)] * F)) = _
        ac_rfl)
    exact h6.swap
  · rintro e w' ⟨⟨u, rfl⟩, d, ps, inn', h5⟩
    refine ⟨u, rfl, ?_⟩
    obtain ⟨tb, h5'⟩ := h5.swap.ex
    obtain ⟨rfl, h6⟩ := (h5'.cast (star_assoc _ _ _)).pur
    obtain ⟨c, hc⟩ : ∃ c : CB, c = ⟨.para st (st + ls.length - 1) raw toks, d, tb, x.lx.sv⟩ := ⟨_, rfl⟩
    have eT : cbTxs (x.l ++ [c]) = cbTxs x.l ++ [⟨tb, st, st + ls.length - 1, raw, toks⟩] := by
      rw [cbTxs_append, hc]
      rfl
    have eO : cbOwn (x.l ++ [c]) = cbOwn x.l * row d 147 [.int .i64 st, .int .i64 (st + ls.length - 1), .pointer (some ⟨tb, 0, none⟩)] := by
      rw [cbOwn_append, hc]
      show _ * (row d 147 [.int .i64 st, .int .i64 (st + ls.length - 1), .pointer (some ⟨tb, 0, none⟩)] * emp) = _
      rw [star_emp]
    have eV : (x.l ++ [c]).map CB.v = x.l.map CB.v ++ [.iface 145 (.pointer (some ⟨d, 0, none⟩))] := by
      rw [List.map_append, hc]
      rfl
    have eX : TxsAt 0 (cbTxs (x.l ++ [c])) = TxsAt 0 (cbTxs x.l) * row tb 144 [.int .i64 st, .int .i64 (st + ls.length - 1), .slice none 0 0, .string (B.bs raw)] := by
      rw [eT, txsAt_append]
      exact congrArg (TxsAt 0 (cbTxs x.l) * ·) (star_emp _)
    refine docSt_iff.2 ⟨⟨x.r, inn', x.dep, x.l ++ [c], x.lx⟩, ?_, trivial, ?_⟩
    · show (x.l ++ [c]).map CB.b = bs ++ [_]
      rw [List.map_append, e1, hc]
      rfl
    · have eD : (⟨x.r, inn', x.dep, x.l ++ [c], x.lx⟩ : DX).dv ⟨n, bs ++ [.para st (st + ls.length - 1) raw toks], .none⟩ = ⟨n, x.dep, [rootOB x.r inn' (x.l.map CB.v ++ [.iface 145 (.pointer (some ⟨d, 0, none⟩))])], (cbTxs x.l).map TX.ptr ++ [.pointer (some ⟨tb, 0, none⟩)], none⟩ := by
        show (⟨n, x.dep, [rootOB x.r inn' ((x.l ++ [c]).map CB.v)], (cbTxs (x.l ++ [c])).map TX.ptr, none⟩ : DV) = _
        rw [eV, eT, List.map_append]
        rfl
      rw [eD]
      show Sat w' (_ * (cbOwn (x.l ++ [c]) * (TxsAt 0 (cbTxs (x.l ++ [c])) * (emp * F))))
      rw [eX, eO, emp_star]
      refine h6.cast ?_
      show (row d 147 [.int .i64 st, .int .i64 (st + ls.length - 1), .pointer (some ⟨tb, 0, none⟩)] * row tb 144 [.int .i64 st, .int .i64 (st + ls.length - 1), .slice none 0 0, .string (B.bs raw)]) * (Dsp pb oc ⟨n, x.dep, [rootOB x.r inn' (x.l.map CB.v ++ [.iface 145 (.pointer (some ⟨d, 0, none⟩))])], (cbTxs x.l).map TX.ptr ++ [.pointer (some ⟨tb, 0, none⟩)], none⟩ p * (cbOwn x.l * (TxsAt 0 (cbTxs x.l) * F))) = _
      ac_rfl

end Go.Proofs.YtbfmmikllelfeaaGreatDoor
