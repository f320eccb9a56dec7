/- Blocks of HTML: their builder goes on (where the end's test may make blocks of its own). -/
import Derived.Test.YtbfmmikllelfeaaGreatDoorHc
import Derived.Test.YtbfmmikllelfeaaGreatDoorSb
namespace Go.Proofs.YtbfmmikllelfeaaGreatDoor
open Go.RowKit Sl

/-- Whether a line ends such a block. -/
def HK.ends : HK → List UInt8 → Bool → Prop
  | .blank, _, b => b = false
  | .pre, t, b => ∀ w F, Sat w F → Calls Tryz.prog 245 #[.string (B.bs t)] w fun e w' => e = .returned (.bool b) ∧ Sat w' F
  | .has e, t, b => e.length ≤ 1000 ∧ (B.findSub e t).isSome = b

set_option maxRecDepth 100000 in
set_option maxHeartbeats 2000000 in
/-- A line is taken up. -/
theorem htmlExtend_v (p : Value) (k : HK) (x : LX) (ls : List (List UInt8)) (l : Ln) (b : Bool) (F : HP) (w : World) (hl : l.OK) (hb : k.isBlank = true → l.blank = false) (hfit : k.fits x) (hn : ls.length < 1000000000) (hst : k.ends l.str b) (hsz : l.str.length ≤ 1000000000)
    (hs : Sat w (row x.q 358 [.bool k.isBlank, x.sv.v, x.fv] * (arr 9 1 x.sv.v x.sv.len (strVals ls) * (k.own x * F)))) :
    Calls Tryz.prog 415 #[.pointer (some ⟨x.q, 0, none⟩), p, l.agg] w fun e w' => e = .returned (.tuple #[Ln.zero.agg, .bool (!b)]) ∧ ∃ sv : SV,
      Sat w' (row x.q 358 [.bool k.isBlank, sv.v, x.fv] * (arr 9 1 sv.v sv.len (strVals (ls ++ [l.str])) * (k.own x * F))) := by
  obtain ⟨i0, hi, hz0, hz1, hz2⟩ := info_parts info_string
  have n1 := neq_nilF
  have n2 := neq_funcF
  have hal := hs.swap.arr_length
  have hsl : x.sv.len = ls.length := by unfold strVals at hal; rw [List.length_map, Nat.mul_one] at hal; exact hal.symm
  have h1 := (hs.new (d := w.heap.size) l.cells 181 rfl).new (d := w.heap.size + 1) Ln.zero.cells 181 (by simp)
  have c0 := h1.third.cell 0 rfl
  have H1 := Lib.hid h1
  simp only [Ln.cells, Ln.zero, Int.natCast_zero, UInt8.toNat_zero] at c0
  have hsl2 : x.sv.len < 1000000000 := by omega
  clear h1 hs hal hsl
  unfold Ln.agg
  cases k with
  | blank =>
    have hbl := hb rfl
    obtain rfl : b = false := hst
    have hfv : x.fv = .nilFunc := hfit
    rw [hfv] at H1 ⊢
    clear hfv hfit
    have c0' : (w.alloc (.cells #[.int .i64 l.spaces, .int .i64 l.i, .int .i64 l.tab, .string l.text, .int .u8 l.nl.toNat] 181)).heap.size = w.heap.size + 1 := by simp
    go_enter Tryz.func415, Tryz.ntmps415
    go_wp2_with fail
    refine (isBlank_w w.heap.size l.i l.text _ hl.i hl.size (H1.out.swap.cell 3 rfl) (H1.out.swap.cell 1 rfl)).mono ?_
    rintro e w1 ⟨rfl, m, hm⟩
    rw [show (B.trimL (List.drop l.i l.text.data.toList)).isEmpty = false from hbl]
    have S1 := Lib.hid (show Sat w1 (row (w.heap.size + 1) 181 Ln.zero.cells * (row w.heap.size 181 l.cells * (row x.q 358 [.bool true, x.sv.v, .nilFunc] * (arr 9 1 x.sv.v x.sv.len (strVals ls) * (HK.own .blank x * F))))) from by rw [hm]; exact H1.out.drewN _)
    clear hm H1 c0
    go_wp2_with fail
    refine (string_w w.heap.size l _ _ hl S1.out.swap).mono ?_
    rintro e w2 ⟨rfl, m2, hm2⟩
    have s2 : Sat w2 (row (w.heap.size + 1) 181 Ln.zero.cells * (row w.heap.size 181 l.cells * (row x.q 358 [.bool true, x.sv.v, .nilFunc] * (arr 9 1 x.sv.v x.sv.len (strVals ls) * (HK.own .blank x * F))))) := by rw [hm2]; exact S1.out.drewN _
    have c1 := s2.third.cell 1 rfl
    have c2 := s2.third.cell 2 rfl
    unfold SV.v at c1
    have hB := (s2.new (d := w2.heap.size) [.string (B.bs l.str)] 9 rfl).cast (show _ = arr 9 1 x.sv.v x.sv.len (strVals ls) * (row w2.heap.size 9 [.string (B.bs l.str)] * (row (w.heap.size + 1) 181 Ln.zero.cells * (row w.heap.size 181 l.cells * (row x.q 358 [.bool true, x.sv.v, .nilFunc] * (HK.own .blank x * F))))) from by ac_rfl)
    have HB := Lib.hid hB
    clear hm2 S1 s2 hB
    go_wp2_with (at_builtin; refine wpList_append_sl rfl (.tmp 22) (.tmp 24) 31 rfl 9 i0 (.string ⟨#[]⟩) 1 16 Tryz.underlying31 hi hz0 hz1 hz2 rfl x.sv.v x.sv.len (strVals ls) rfl HB.out ⟨w2.heap.size, 0, none⟩ 1 1 [.string (B.bs l.str)] rfl rfl ?c1 ?c2 ?c3 ?c4 (by decide) ?_)
    case c1 => exact cells_new _ [_] _
    case c2 => intro v hv; simp only [List.mem_singleton] at hv; subst hv; rfl
    case c3 => unfold maxLen; omega
    case c4 => omega
    intro g c w3 s3 _
    have s4 := (s3.cast (show _ = row w2.heap.size 9 [.string (B.bs l.str)] * (row x.q 358 [.bool true, x.sv.v, .nilFunc] * (arr 9 1 (.slice (some ⟨g, 0, none⟩) (x.sv.len + 1) c) (x.sv.len + 1) (strVals ls ++ [.string (B.bs l.str)]) * (row (w.heap.size + 1) 181 Ln.zero.cells * (row w.heap.size 181 l.cells * (HK.own .blank x * F))))) from by ac_rfl)).drop1
    have c1 := s4.cell 1 rfl
    have c2 := s4.cell 2 rfl
    have cf := fun i => s4.frozen i
    unfold SV.v at c1
    have s5 := s4.set 1 (.slice (some ⟨g, 0, none⟩) (x.sv.len + 1) c)
    have c2' := s5.cell 2 rfl
    have S5 := Lib.hid s5
    clear s3 s4 s5 HB
    have S6 := S5
    clear S5
    obtain ⟨a0, a1, a2, a3, a4, af⟩ := line_cells ((S6.out.cast (show _ = row (w.heap.size + 1) 181 Ln.zero.cells * (row w.heap.size 181 l.cells * (row x.q 358 [.bool true, .slice (some ⟨g, 0, none⟩) (x.sv.len + 1) c, .nilFunc] * (arr 9 1 (.slice (some ⟨g, 0, none⟩) (x.sv.len + 1) c) (x.sv.len + 1) (strVals ls ++ [.string (B.bs l.str)]) * (HK.own .blank x * F)))) from by ac_rfl)))
    go_wp2
    refine bodyPost_ret (v := .tuple #[Ln.zero.agg, .bool true]) (by simp [results, Tryz.results415, go_sem, Ln.agg, Ln.zero, *]) rfl ⟨rfl, ⟨some ⟨g, 0, none⟩, x.sv.len + 1, c⟩, ?_⟩
    have s9 := ((((((S6.out.cast (show _ = row (w.heap.size + 1) 181 Ln.zero.cells * (row w.heap.size 181 l.cells * (row x.q 358 [.bool true, .slice (some ⟨g, 0, none⟩) (x.sv.len + 1) c, .nilFunc] * (arr 9 1 (.slice (some ⟨g, 0, none⟩) (x.sv.len + 1) c) (x.sv.len + 1) (strVals ls ++ [.string (B.bs l.str)]) * (HK.own .blank x * F)))) from by ac_rfl)).set 0 (.int .i64 0)).set 1 (.int .i64 0)).set 2 (.int .i64 0)).set 3 (.string ⟨#[]⟩)).set 4 (.int .u8 0)).drop1.drop1
    rw [show strVals (ls ++ [l.str]) = strVals ls ++ [.string (B.bs l.str)] from by unfold strVals; rw [List.map_append]; rfl]
    exact s9
  | pre =>
    have hfv : x.fv = .func (.func 245) #[] #[] := hfit
    rw [hfv] at H1 ⊢
    clear hfv hfit
    have HST := Lib.hid (show ∀ w F, Sat w F → Calls Tryz.prog 245 #[.string (B.bs l.str)] w fun e w' => e = .returned (.bool b) ∧ Sat w' F from hst)
    clear hst
    have S1 := H1
    clear H1
    go_enter Tryz.func415, Tryz.ntmps415
    go_wp2_with fail
    refine (string_w w.heap.size l _ _ hl S1.out.swap).mono ?_
    rintro e w2 ⟨rfl, m2, hm2⟩
    have s2 : Sat w2 (row (w.heap.size + 1) 181 Ln.zero.cells * (row w.heap.size 181 l.cells * (row x.q 358 [.bool false, x.sv.v, .func (.func 245) #[] #[]] * (arr 9 1 x.sv.v x.sv.len (strVals ls) * (HK.own .pre x * F))))) := by rw [hm2]; exact S1.out.drewN _
    have c1 := s2.third.cell 1 rfl
    have c2 := s2.third.cell 2 rfl
    unfold SV.v at c1
    have hB := (s2.new (d := w2.heap.size) [.string (B.bs l.str)] 9 rfl).cast (show _ = arr 9 1 x.sv.v x.sv.len (strVals ls) * (row w2.heap.size 9 [.string (B.bs l.str)] * (row (w.heap.size + 1) 181 Ln.zero.cells * (row w.heap.size 181 l.cells * (row x.q 358 [.bool false, x.sv.v, .func (.func 245) #[] #[]] * (HK.own .pre x * F))))) from by ac_rfl)
    have HB := Lib.hid hB
    clear hm2 S1 s2 hB
    go_wp2_with (at_builtin; refine wpList_append_sl rfl (.tmp 22) (.tmp 24) 31 rfl 9 i0 (.string ⟨#[]⟩) 1 16 Tryz.underlying31 hi hz0 hz1 hz2 rfl x.sv.v x.sv.len (strVals ls) rfl HB.out ⟨w2.heap.size, 0, none⟩ 1 1 [.string (B.bs l.str)] rfl rfl ?c1 ?c2 ?c3 ?c4 (by decide) ?_)
    case c1 => exact cells_new _ [_] _
    case c2 => intro v hv; simp only [List.mem_singleton] at hv; subst hv; rfl
    case c3 => unfold maxLen; omega
    case c4 => omega
    intro g c w3 s3 _
    have s4 := (s3.cast (show _ = row w2.heap.size 9 [.string (B.bs l.str)] * (row x.q 358 [.bool false, x.sv.v, .func (.func 245) #[] #[]] * (arr 9 1 (.slice (some ⟨g, 0, none⟩) (x.sv.len + 1) c) (x.sv.len + 1) (strVals ls ++ [.string (B.bs l.str)]) * (row (w.heap.size + 1) 181 Ln.zero.cells * (row w.heap.size 181 l.cells * (HK.own .pre x * F))))) from by ac_rfl)).drop1
    have c1 := s4.cell 1 rfl
    have c2 := s4.cell 2 rfl
    have cf := fun i => s4.frozen i
    unfold SV.v at c1
    have s5 := s4.set 1 (.slice (some ⟨g, 0, none⟩) (x.sv.len + 1) c)
    have c2' := s5.cell 2 rfl
    have S5 := Lib.hid s5
    clear s3 s4 s5 HB
    go_wp2_with fail
    refine (HST.out _ _ S5.out).mono ?_
    rintro e w6 ⟨rfl, s6⟩
    have S6 := Lib.hid s6
    clear S5 s6
    cases b
    all_goals
      obtain ⟨a0, a1, a2, a3, a4, af⟩ := line_cells ((S6.out.cast (show _ = row (w.heap.size + 1) 181 Ln.zero.cells * (row w.heap.size 181 l.cells * (row x.q 358 [.bool false, .slice (some ⟨g, 0, none⟩) (x.sv.len + 1) c, .func (.func 245) #[] #[]] * (arr 9 1 (.slice (some ⟨g, 0, none⟩) (x.sv.len + 1) c) (x.sv.len + 1) (strVals ls ++ [.string (B.bs l.str)]) * (HK.own .pre x * F)))) from by ac_rfl)))
      go_wp2
      refine bodyPost_ret (v := .tuple #[Ln.zero.agg, .bool _]) (by simp [results, Tryz.results415, go_sem, Ln.agg, Ln.zero, *]) rfl ⟨rfl, ⟨some ⟨g, 0, none⟩, x.sv.len + 1, c⟩, ?_⟩
      have s9 := ((((((S6.out.cast (show _ = row (w.heap.size + 1) 181 Ln.zero.cells * (row w.heap.size 181 l.cells * (row x.q 358 [.bool false, .slice (some ⟨g, 0, none⟩) (x.sv.len + 1) c, .func (.func 245) #[] #[]] * (arr 9 1 (.slice (some ⟨g, 0, none⟩) (x.sv.len + 1) c) (x.sv.len + 1) (strVals ls ++ [.string (B.bs l.str)]) * (HK.own .pre x * F)))) from by ac_rfl)).set 0 (.int .i64 0)).set 1 (.int .i64 0)).set 2 (.int .i64 0)).set 3 (.string ⟨#[]⟩)).set 4 (.int .u8 0)).drop1.drop1
      rw [show strVals (ls ++ [l.str]) = strVals ls ++ [.string (B.bs l.str)] from by unfold strVals; rw [List.map_append]; rfl]
      exact s9
  
  | has e =>
    have hfv : x.fv = .func (.func 243) #[] #[.pointer (some ⟨x.cb, 0, none⟩)] := hfit
    rw [hfv] at H1 ⊢
    clear hfv hfit
    obtain ⟨he, hst⟩ := hst
    have HST := Lib.hid hst
    clear hst
    have S1 := H1
    clear H1
    go_enter Tryz.func415, Tryz.ntmps415
    go_wp2_with fail
    refine (string_w w.heap.size l _ _ hl S1.out.swap).mono ?_
    rintro e w2 ⟨rfl, m2, hm2⟩
    have s2 : Sat w2 (row (w.heap.size + 1) 181 Ln.zero.cells * (row w.heap.size 181 l.cells * (row x.q 358 [.bool false, x.sv.v, .func (.func 243) #[] #[.pointer (some ⟨x.cb, 0, none⟩)]] * (arr 9 1 x.sv.v x.sv.len (strVals ls) * (HK.own (.has e) x * F))))) := by rw [hm2]; exact S1.out.drewN _
    have c1 := s2.third.cell 1 rfl
    have c2 := s2.third.cell 2 rfl
    unfold SV.v at c1
    have hB := (s2.new (d := w2.heap.size) [.string (B.bs l.str)] 9 rfl).cast (show _ = arr 9 1 x.sv.v x.sv.len (strVals ls) * (row w2.heap.size 9 [.string (B.bs l.str)] * (row (w.heap.size + 1) 181 Ln.zero.cells * (row w.heap.size 181 l.cells * (row x.q 358 [.bool false, x.sv.v, .func (.func 243) #[] #[.pointer (some ⟨x.cb, 0, none⟩)]] * (HK.own (.has e) x * F))))) from by ac_rfl)
    have HB := Lib.hid hB
    clear hm2 S1 s2 hB
    go_wp2_with (at_builtin; refine wpList_append_sl rfl (.tmp 22) (.tmp 24) 31 rfl 9 i0 (.string ⟨#[]⟩) 1 16 Tryz.underlying31 hi hz0 hz1 hz2 rfl x.sv.v x.sv.len (strVals ls) rfl HB.out ⟨w2.heap.size, 0, none⟩ 1 1 [.string (B.bs l.str)] rfl rfl ?c1 ?c2 ?c3 ?c4 (by decide) ?_)
    case c1 => exact cells_new _ [_] _
    case c2 => intro v hv; simp only [List.mem_singleton] at hv; subst hv; rfl
    case c3 => unfold maxLen; omega
    case c4 => omega
    intro g c w3 s3 _
    have s4 := (s3.cast (show _ = row w2.heap.size 9 [.string (B.bs l.str)] * (row x.q 358 [.bool false, x.sv.v, .func (.func 243) #[] #[.pointer (some ⟨x.cb, 0, none⟩)]] * (arr 9 1 (.slice (some ⟨g, 0, none⟩) (x.sv.len + 1) c) (x.sv.len + 1) (strVals ls ++ [.string (B.bs l.str)]) * (row (w.heap.size + 1) 181 Ln.zero.cells * (row w.heap.size 181 l.cells * (HK.own (.has e) x * F))))) from by ac_rfl)).drop1
    have c1 := s4.cell 1 rfl
    have c2 := s4.cell 2 rfl
    have cf := fun i => s4.frozen i
    unfold SV.v at c1
    have s5 := s4.set 1 (.slice (some ⟨g, 0, none⟩) (x.sv.len + 1) c)
    have c2' := s5.cell 2 rfl
    have S5 := Lib.hid s5
    clear s3 s4 s5 HB
    go_wp2_with fail
    have s6 := S5.out.cast (show _ = row x.cb 9 [.string (B.bs e)] * (row x.q 358 [.bool false, .slice (some ⟨g, 0, none⟩) (x.sv.len + 1) c, .func (.func 243) #[] #[.pointer (some ⟨x.cb, 0, none⟩)]] * (arr 9 1 (.slice (some ⟨g, 0, none⟩) (x.sv.len + 1) c) (x.sv.len + 1) (strVals ls ++ [.string (B.bs l.str)]) * (row (w.heap.size + 1) 181 Ln.zero.cells * (row w.heap.size 181 l.cells * F)))) from by
      rw [show HK.own (.has e) x = row x.cb 9 [.string (B.bs e)] from rfl]
      ac_rfl)
    refine (endClos_w x.cb e l.str _ _ hsz he s6).mono ?_
    rw [HST.out]
    rintro e6 w6 ⟨rfl, rfl⟩
    clear s6
    have S6 := S5
    clear S5
    cases b
    all_goals
      obtain ⟨a0, a1, a2, a3, a4, af⟩ := line_cells ((S6.out.cast (show _ = row (w.heap.size + 1) 181 Ln.zero.cells * (row w.heap.size 181 l.cells * (row x.q 358 [.bool false, .slice (some ⟨g, 0, none⟩) (x.sv.len + 1) c, .func (.func 243) #[] #[.pointer (some ⟨x.cb, 0, none⟩)]] * (arr 9 1 (.slice (some ⟨g, 0, none⟩) (x.sv.len + 1) c) (x.sv.len + 1) (strVals ls ++ [.string (B.bs l.str)]) * (HK.own (.has e) x * F)))) from by ac_rfl)))
      go_wp2
      refine bodyPost_ret (v := .tuple #[Ln.zero.agg, .bool _]) (by simp [results, Tryz.results415, go_sem, Ln.agg, Ln.zero, *]) rfl ⟨rfl, ⟨some ⟨g, 0, none⟩, x.sv.len + 1, c⟩, ?_⟩
      have s9 := ((((((S6.out.cast (show _ = row (w.heap.size + 1) 181 Ln.zero.cells * (row w.heap.size 181 l.cells * (row x.q 358 [.bool false, .slice (some ⟨g, 0, none⟩) (x.sv.len + 1) c, .func (.func 243) #[] #[.pointer (some ⟨x.cb, 0, none⟩)]] * (arr 9 1 (.slice (some ⟨g, 0, none⟩) (x.sv.len + 1) c) (x.sv.len + 1) (strVals ls ++ [.string (B.bs l.str)]) * (HK.own (.has e) x * F)))) from by ac_rfl)).set 0 (.int .i64 0)).set 1 (.int .i64 0)).set 2 (.int .i64 0)).set 3 (.string ⟨#[]⟩)).set 4 (.int .u8 0)).drop1.drop1
      rw [show strVals (ls ++ [l.str]) = strVals ls ++ [.string (B.bs l.str)] from by unfold strVals; rw [List.map_append]; rfl]
      exact s9
  
end Go.Proofs.YtbfmmikllelfeaaGreatDoor

/- A line that ends a block of HTML of the first kind. -/
namespace Go.Proofs.YtbfmmikllelfeaaGreatDoor
open Go.RowKit Sl

def lowB (c : UInt8) : UInt8 := if 65 ≤ c.toNat ∧ c.toNat ≤ 90 then c + 32 else c
def u8w (l : List UInt8) : List Value := l.map fun c => .int .u8 (lowB c).toNat

theorem arr_made3 (w : World) (n : Nat) (t : TypeId) (z : Value) (P : HP) (hn : n ≤ maxLen) (h : Sat w P) : Sat (w.alloc (.cells (madeCells #[z] n) t)) (arr t 1 (.slice (some ⟨w.heap.size, 0, none⟩) 0 n) 0 [] * P) := by
  refine arr_mk (junk := (madeCells #[z] n).toList) rfl (Nat.zero_le _) hn (by simp [size_madeCells]) ?_
  have := h.alloc (.cells (madeCells #[z] n) t)
  refine this.cast ?_
  unfold row
  congr 3

set_option maxRecDepth 100000 in
set_option maxHeartbeats 4000000 in
theorem hasEndPre_yes (s pr nm r : List UInt8) (F : HP) (w : World) (hl : s.length ≤ 1000000000) (hs : s = pr ++ 60 :: 47 :: (nm ++ 62 :: r)) (hpr : (60 : UInt8) ∉ pr) (hnm : ∀ x ∈ nm, (97 ≤ x.toNat ∧ x.toNat ≤ 122) ∨ (65 ≤ x.toNat ∧ x.toNat ≤ 90)) (hnl : nm.length ≤ 7)
    (hx : nm.map lowB = [112, 114, 101] ∨ nm.map lowB = [115, 99, 114, 105, 112, 116]) (hF : Sat w F) :
    Calls Tryz.prog 245 #[.string (B.bs s)] w fun e w' => e = .returned (.bool true) ∧ Sat w' F := by
  have hz : (B.bs s).size = s.length := rfl
  have hget : ∀ k c, s[k]? = some c → ∀ hh, (B.bs s)[k]'hh = c := fun k c hk hh => (List.getElem?_eq_some_iff.1 hk).2
  have hlen : s.length = pr.length + nm.length + r.length + 3 := by rw [hs]; simp; omega
  have a1 : ∀ k, k < pr.length → ∃ c, c ≠ 60 ∧ s[k]? = some c := fun k hk => ⟨pr[k], fun e => hpr (by rw [← e]; exact List.getElem_mem _), by rw [hs, List.getElem?_append_left hk]; simp [hk]⟩
  have a2 : s[pr.length]? = some 60 := by rw [hs, List.getElem?_append_right (Nat.le_refl _), Nat.sub_self]; rfl
  have a3 : s[pr.length + 1]? = some 47 := by rw [hs, List.getElem?_append_right (by omega), show pr.length + 1 - pr.length = 1 by omega]; rfl
  have a4 : ∀ k (hk : k < nm.length), s[pr.length + 2 + k]? = some nm[k] := fun k hk => by
    rw [hs, List.getElem?_append_right (by omega), show pr.length + 2 + k - pr.length = k + 2 by omega, List.getElem?_cons_succ, List.getElem?_cons_succ, List.getElem?_append_left hk]; simp [hk]
  have a5 : s[pr.length + 2 + nm.length]? = some 62 := by
    rw [hs, List.getElem?_append_right (by omega), show pr.length + 2 + nm.length - pr.length = nm.length + 2 by omega, List.getElem?_cons_succ, List.getElem?_cons_succ, List.getElem?_append_right (Nat.le_refl _), Nat.sub_self]; rfl
  obtain ⟨j0, jj9, jz0, jz1, jz2⟩ := info_parts info_byte
  have hmk : ∀ w, (Instr.makeSlice 44 (.int .i64 0) (.int .i64 8)).run Tryz.prog w = .ok (.slice (some ⟨w.heap.size, 0, none⟩) 0 8) (w.alloc (.cells (madeCells #[.int .u8 0] 8) 5)) := fun w => by
    have := run_make (P := Tryz.prog) w 44 5 j0 _ Tryz.underlying44 jj9 jz0 .i64 .i64 0 8 (by omega) (by omega) (by rw [jz2]; omega) (by omega)
    rw [jz1] at this
    simpa [Value.cells] using this
  have HG := Lib.hid hget
  have A1 := Lib.hid a1
  have A2 := Lib.hid a2
  have A3 := Lib.hid a3
  have A4 := Lib.hid a4
  have A5 := Lib.hid a5
  have HNM := Lib.hid hnm
  have HX := Lib.hid hx
  have HF := Lib.hid hF
  have HLEN := Lib.hid hlen
  have hb1 : pr.length + 2 + nm.length < s.length := by omega
  clear hget a1 a2 a3 a4 a5 hpr hnm hx hs hF hlen
  generalize hP : pr.length = P at *
  go_enter Tryz.func245, Tryz.ntmps245
  go_wp2
  go_loopw [3] (fun i wr => ∃ k : Nat, k ≤ P ∧ i = .int .i64 (k : Int) ∧ w = wr) (fun i _ => s.length - (intOf i).toNat)
  case atStart => exact ⟨0, Nat.zero_le _, by go_num, rfl⟩
  case round =>
    obtain ⟨k, hk, rfl, rfl⟩ := hrel
    by_cases hlt : k < P
    · obtain ⟨c, hne, hc⟩ := A1.out k hlt
      have hix := HG.out k c hc
      have e1 : ((c.toNat : Int) == 60) = false := u8_ne (b := 60) hne
      clear hc hne
      go_wp2
      go_roundw
      case rel => exact ⟨k + 1, by omega, by go_num, by first | trivial | rfl⟩
      case measure => simp [intOf]; omega
    · obtain rfl : k = P := by omega
      have hi0 := HG.out _ _ A2.out
      have hi1 := HG.out _ _ A3.out
      go_wp2_with fail
      have s5 := arr_made3 w 8 5 (.int .u8 0) _ (by decide) HF.out
      clear hi0 hi1
      go_loopw [4, 3] (fun v i wr => ∃ (j g cap : Nat), j ≤ nm.length ∧ i = .int .i64 (k + 2 + j : Nat) ∧ v = .slice (some ⟨g, 0, none⟩) j cap ∧ Sat wr (arr 5 1 (.slice (some ⟨g, 0, none⟩) j cap) j (u8w (nm.take j)) * F)) (fun _ i _ => s.length - (intOf i).toNat)
      case atStart => exact ⟨0, _, 8, Nat.zero_le _, by go_num, rfl, s5⟩
      case round =>
        obtain ⟨j, g, cap, hj, rfl, rfl, h⟩ := hrel
        clear s5
        by_cases hjl : j < nm.length
        · have hc := A4.out j hjl
          have hcl := HNM.out (nm[j]'hjl) (List.getElem_mem _)
          have htk : u8w (nm.take (j + 1)) = u8w (nm.take j) ++ [.int .u8 (lowB (nm[j]'hjl)).toNat] := by unfold u8w; rw [List.take_succ_eq_append_getElem hjl, List.map_append]; rfl
          generalize nm[j]'hjl = c at hc hcl htk
          have hix := HG.out _ _ hc
          have HTK := Lib.hid htk
          have hjs : k + 2 + j < s.length := by omega
          have hj8 : j < 8 := by omega
          clear hc htk
          obtain ⟨d, hd⟩ : ∃ d, d = lowB c := ⟨_, rfl⟩
          rw [← hd] at HTK
          have hB := (h.new (d := wr.heap.size) [.int .u8 d.toNat] 5 rfl).swap
          have HB := Lib.hid hB
          clear h hB
          rcases hcl with ⟨h1, h2⟩ | ⟨h1, h2⟩
          · have hdc : d = c := by rw [hd]; unfold lowB; rw [if_neg (by omega)]
            subst hdc
            have hd2 : decide ((d.toNat : Int) ≤ 90) = false := by simp; omega
            clear hd
            go_wp2_with (at_builtin; refine wpList_append_sl rfl (.tmp 61) (.tmp 63) 44 rfl 5 j0 (.int .u8 0) 1 1 Tryz.underlying44 jj9 jz0 jz1 jz2 rfl (.slice (some ⟨g, 0, none⟩) j cap) j _ (by rfl) HB.out ⟨wr.heap.size, 0, none⟩ 1 1 [.int .u8 d.toNat] (by rfl) rfl ?c1 ?c2 ?c3 ?c4 (by decide) ?_)
            any_goals first | (exact cells_new _ [_] _) | (intro u hu; simp at hu; subst hu; rfl) | rfl | (unfold maxLen; omega) | omega
            intro g2 cap2 w2 hs2 _
            have S2 := Lib.hid hs2.drop2
            clear hs2 HB
            go_wp2
            go_roundw
            case rel => exact ⟨j + 1, g2, cap2, by omega, by go_num, rfl, by rw [HTK.out]; exact S2.out⟩
            case measure => simp [intOf]; omega
          · have hdn : d.toNat = c.toNat + 32 := by
              rw [hd]
              unfold lowB
              rw [if_pos ⟨h1, h2⟩, UInt8.toNat_add]
              show (c.toNat + 32) % 256 = _
              omega
            have hdv : (Value.int .u8 (d.toNat : Int)) = .int .u8 ((c.toNat : Int) + 32) := by rw [hdn]; rfl
            rw [hdv] at HB HTK
            have hq1 : decide ((c.toNat : Int) ≤ 90) = true := by simp; omega
            have hq2 : decide ((c.toNat : Int) + 32 < 97) = false := by simp; omega
            have hq3 : decide ((122 : Int) < (c.toNat : Int) + 32) = false := by simp; omega
            clear hd hdn hdv
            go_wp2_with (at_builtin; refine wpList_append_sl rfl (.tmp 61) (.tmp 63) 44 rfl 5 j0 (.int .u8 0) 1 1 Tryz.underlying44 jj9 jz0 jz1 jz2 rfl (.slice (some ⟨g, 0, none⟩) j cap) j _ (by rfl) HB.out ⟨wr.heap.size, 0, none⟩ 1 1 [.int .u8 ((c.toNat : Int) + 32)] (by rfl) rfl ?f1 ?f2 ?f3 ?f4 (by decide) ?_)
            any_goals first | (exact cells_new _ [_] _) | (intro u hu; simp at hu; subst hu; rfl) | rfl | (unfold maxLen; omega) | omega
            intro g2 cap2 w2 hs2 _
            have S2 := Lib.hid hs2.drop2
            clear hs2 HB
            go_wp2
            go_roundw
            case rel => exact ⟨j + 1, g2, cap2, by omega, by go_num, rfl, by rw [HTK.out]; exact S2.out⟩
            case measure => simp [intOf]; omega
        · obtain rfl : j = nm.length := by omega
          have hxk := HG.out _ _ A5.out
          have hj8 : nm.length < 8 := by omega
          rw [List.take_length] at h
          have hm : u8w nm = (nm.map lowB).map fun c => .int .u8 c.toNat := by unfold u8w; rw [List.map_map]; rfl
          rw [hm] at h
          have hcv : (convert 44 9 (.slice (some ⟨g, 0, none⟩) nm.length cap)).run Tryz.prog wr = .ok (.string (B.bs (nm.map lowB))) wr := conv_bytesR (by simp) (Sl.Sat.bytesR h).1
          have HS := Lib.hid h.drop1
          clear h hm
          have hp1 : ((B.bs [112, 114, 101]).toList == [112, 114, 101]) = true := by rw [Lib.toList_data, B.bs_data]; decide
          have hp2 : ((B.bs [115, 99, 114, 105, 112, 116]).toList == [112, 114, 101]) = false := by rw [Lib.toList_data, B.bs_data]; decide
          have hp3 : ((B.bs [115, 99, 114, 105, 112, 116]).toList == [115, 99, 114, 105, 112, 116]) = true := by rw [Lib.toList_data, B.bs_data]; decide
          rcases HX.out with hx | hx
          · rw [hx] at hcv
            go_wp2
            go_ret
            exact ⟨rfl, HS.out⟩
          · rw [hx] at hcv
            go_wp2
            go_ret
            exact ⟨rfl, HS.out⟩

/-- The two lines that end a block of the first kind. -/
theorem ends_pre0 : HK.ends .pre [60, 47, 115, 99, 114, 105, 112, 116, 62] true := fun w F hF =>
  hasEndPre_yes _ [] [115, 99, 114, 105, 112, 116] [] F w (by decide) rfl (by decide) (by decide) (by decide) (.inr (by decide)) hF

theorem ends_pre1 : HK.ends .pre [97, 60, 47, 80, 82, 69, 62, 32, 98] true := fun w F hF =>
  hasEndPre_yes _ [97] [80, 82, 69] [32, 98] F w (by decide) rfl (by decide) (by decide) (by decide) (.inl (by decide)) hF

end Go.Proofs.YtbfmmikllelfeaaGreatDoor
