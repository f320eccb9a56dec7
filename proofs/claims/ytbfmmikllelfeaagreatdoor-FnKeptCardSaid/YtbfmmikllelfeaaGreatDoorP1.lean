/- Walks: the parser's state in memory; its stack of open blocks. -/
import Derived.Test.YtbfmmikllelfeaaGreatDoorB
import Derived.Test.YtbfmmikllelfeaaGreatDoorM
import Derived.Test.YtbfmmikllelfeaaGreatDoorQt
import Derived.Deep.DeepCutAuto
import Derived.Deep.CutBlock
namespace Go.Proofs.YtbfmmikllelfeaaGreatDoor
open Go.RowKit Sl

theorem quiet_same {P : Program} {f : FuncId} {args : Array Value} {w : World} {n : Nat} {v : Value}
    (h : Calls P f args (w.drewN n) fun e w' => e = .returned v ∧ w.drewN n = w') : Calls P f args (w.drewN n) fun e w'' => e = .returned v ∧ ∃ m, w'' = w.drewN m :=
  h.mono fun _ _ ⟨he, hm⟩ => ⟨he, n, hm.symm⟩

/-- A line, as the program holds it: what is left of a tab, the place, where the tab began, the text, its end. -/
structure Ln where
  spaces : Nat
  i : Nat
  tab : Nat
  text : ByteArray
  nl : UInt8

def Ln.cells (x : Ln) : List Value := [.int .i64 x.spaces, .int .i64 x.i, .int .i64 x.tab, .string x.text, .int .u8 x.nl.toNat]

/-- what stands behind the place -/
def Ln.rest (x : Ln) : List UInt8 := x.text.data.toList.drop x.i

/-- A slice's three words. -/
structure SV where
  a : Option Addr
  len : Nat
  cap : Nat

def SV.v (s : SV) : Value := .slice s.a s.len s.cap

/-- The parser's state: its twelve first cells, and those of the backquotes. -/
structure PSt where
  parser : Option Addr
  root : Option Addr
  links : Option Nat
  lineno : Int
  stack : SV
  depth : Int
  corner : Bool
  s : ByteArray
  emitted : Int
  list : SV
  lists : SV
  texts : SV
  bt : List Value

def PSt.cells (x : PSt) : List Value :=
  [.pointer x.parser, .pointer x.root, .map x.links, .int .i64 x.lineno, x.stack.v, .int .i64 x.depth, .bool x.corner, .string x.s, .int .i64 x.emitted, x.list.v, x.lists.v, x.texts.v] ++ x.bt

set_option maxHeartbeats 400000 in
theorem isBlank_w (b i : Nat) (s : ByteArray) (w : World) (hi : i ≤ s.size) (hs : s.size ≤ 1000000000000) (h3 : w.cell? ⟨b, 3, none⟩ = some (.string s)) (h1 : w.cell? ⟨b, 1, none⟩ = some (.int .i64 i)) :
    Calls Tryz.prog 104 #[.pointer (some ⟨b, 0, none⟩)] w fun e w' => e = .returned (.bool (B.trimL (s.data.toList.drop i)).isEmpty) ∧ ∃ m, w' = w.drewN m := by
  have hz : (s.extract i s.size).size ≤ 1000000000000 := by rw [B.extract_end, B.bs_size, List.length_drop, ← B.size_data]; omega
  go_enter Tryz.func104, Tryz.ntmps104
  go_wp2
  go_quiet ((go_at_call 141; exact quiet_same (trimLeft_w _ _ hz)))
  go_wp2
  go_ret
  exact ⟨ret_bool (by rw [Lib.toList_data, B.bs_data, List.take_of_length_le (by rw [List.length_drop, B.size_data]; omega)]), _, rfl⟩

set_option maxHeartbeats 400000 in
theorem trimStack_noop (p n cap : Nat) (a : Option Addr) (w : World) (_hn : n ≤ 1000000000) (h4 : w.cell? ⟨p, 4, none⟩ = some (.slice a n cap)) :
    Calls Tryz.prog 91 #[.pointer (some ⟨p, 0, none⟩), .int .i64 n] w fun e w' => e = .returned (.tuple #[]) ∧ w = w' := by
  go_enter Tryz.func91, Tryz.ntmps91
  go_wp2
  go_loop [] (True) (0)
  case atStart => trivial
  case round =>
    go_wp2
    go_end0
    exact ⟨rfl, rfl⟩

set_option maxHeartbeats 400000 in
theorem blocks_w (p g k cap : Nat) (inn : Value) (w : World) (hk : k < 1000000000) (hp : w.cell? ⟨p, 4, none⟩ = some (.slice (some ⟨g, 0, none⟩) (k + 1) cap)) (h1 : w.cell? ⟨g, k * 4 + 1, none⟩ = some inn) :
    Calls Tryz.prog 341 #[.pointer (some ⟨p, 0, none⟩)] w fun e w' => e = .returned inn ∧ ∃ m, w' = w.drewN m := by
  go_enter Tryz.func341, Tryz.ntmps341
  go_wp2
  go_quiet (fail)
  go_wp2
  go_ret
  exact ⟨rfl, _, rfl⟩

set_option maxHeartbeats 400000 in
theorem pos_w (p g k cap : Nat) (st en : Int) (w : World) (hk : k < 1000000000) (hlp : p < w.heap.size) (hlg : g < w.heap.size) (hp : w.cell? ⟨p, 4, none⟩ = some (.slice (some ⟨g, 0, none⟩) (k + 1) cap)) (h2 : w.cell? ⟨g, k * 4 + 2, none⟩ = some (.int .i64 st)) (h3 : w.cell? ⟨g, k * 4 + 3, none⟩ = some (.int .i64 en)) :
    Calls Tryz.prog 342 #[.pointer (some ⟨p, 0, none⟩)] w fun e w' => e = .returned (.agg #[.int .i64 st, .int .i64 en]) ∧ Below w.heap.size w w' := by
  go_enter Tryz.func342, Tryz.ntmps342
  go_wp2
  go_quiet (fail)
  go_wp2
  refine bodyPost_ret (v := .agg #[.int .i64 st, .int .i64 en]) (by simp [results, Tryz.results342, go_sem]) rfl ⟨rfl, ?_⟩
  exact ((below_drewN ((Below.refl _ _).alloc (Nat.le_refl _) _) _).setCell (by simp) _).setCell (by simp) _

theorem Sl.Sat.ext {w w' : World} {P : HP} (h : Sat w P) (hb : Below w.heap.size w w') : Sat w' P := by
  obtain ⟨p, hp, hs⟩ := h
  refine ⟨p, ?_, fun b o hk => ?_⟩
  · have e : env w' = env w := by unfold env; rw [hb.os, hb.tape, hb.output]
    rw [e]; exact hp
  · have := hs b o hk
    rw [hb.block b (Array.getElem?_eq_some_iff.1 this).1, this]

set_option maxRecDepth 100000 in
set_option maxHeartbeats 400000 in
theorem rootBuild_w (r : Option Addr) (p g k cap : Nat) (st en : Int) (ia : Option Addr) (il ic : Nat) (ml : Option Nat) (w : World) (hk : k < 1000000000) (hlp : p < w.heap.size) (hlg : g < w.heap.size)
    (hp : w.cell? ⟨p, 4, none⟩ = some (.slice (some ⟨g, 0, none⟩) (k + 1) cap))
    (hl : w.cell? ⟨p, 2, none⟩ = some (.map ml))
    (h1 : w.cell? ⟨g, k * 4 + 1, none⟩ = some (.slice ia il ic))
    (h2 : w.cell? ⟨g, k * 4 + 2, none⟩ = some (.int .i64 st)) (h3 : w.cell? ⟨g, k * 4 + 3, none⟩ = some (.int .i64 en)) :
    Calls Tryz.prog 339 #[.pointer r, .iface 193 (.pointer (some ⟨p, 0, none⟩))] w fun e w' =>
      ∃ x : Qt.Ext w, e = .returned (.iface 80 (.pointer (some ⟨x.w.heap.size, 0, none⟩))) ∧ w' = x.w.alloc (.cells #[.int .i64 st, .int .i64 en, .slice ia il ic, .map ml] 117) := by
  have m1 := fun w => meth_parseState_pos ⟨p, 0, none⟩ w
  have m2 := fun w => meth_parseState_blocks ⟨p, 0, none⟩ w
  have n1 := fun w => ahead_parseState_pos ⟨p, 0, none⟩ w
  have n2 := fun w => ahead_parseState_blocks ⟨p, 0, none⟩ w
  have ta := fun v w => ta_buildState_parseState v w
  have x4 := fun x : Qt.Ext w => x.cell hp
  have x2 := fun x : Qt.Ext w => x.cell hl
  go_enter Tryz.func339, Tryz.ntmps339
  go_wp2
  refine Qt.wp_region (fun w' => ∃ x : Qt.Ext w, w' = x.w) 9 (by kernel_rfl) (by kernel_rfl) (Qt.Ext.start w) ?_
  simp only [List.take_succ_cons, List.take_zero, List.drop_succ_cons, List.drop_zero]
  repeat (quiet_step (first
    | (rename_i x; go_at_call 342; exact x.call (pos_w p g k cap st en _ hk (x.lt hlp) (x.lt hlg) (x.cell hp) (x.cell h2) (x.cell h3)))
    | (rename_i x; go_at_call 341; exact x.quiet (blocks_w p g k cap _ _ hk (x.cell hp) (x.cell h1)))))
  refine wpQuiet_nil ?_
  rintro _ ⟨x, rfl⟩
  go_wp2
  go_ret
  exact ⟨x, rfl, rfl⟩

end Go.Proofs.YtbfmmikllelfeaaGreatDoor

/- Walks: the root is closed; a block is added to the stack. -/
namespace Go.Proofs.YtbfmmikllelfeaaGreatDoor
open Go.RowKit Sl

theorem PSt.facts {w : World} {p : Nat} {x : PSt} {F : HP} (h : Sat w (row p 173 x.cells * F)) :
    w.cell? ⟨p, 0, none⟩ = some (.pointer x.parser) ∧ w.cell? ⟨p, 1, none⟩ = some (.pointer x.root) ∧ w.cell? ⟨p, 2, none⟩ = some (.map x.links) ∧ w.cell? ⟨p, 3, none⟩ = some (.int .i64 x.lineno) ∧
    w.cell? ⟨p, 4, none⟩ = some (.slice x.stack.a x.stack.len x.stack.cap) ∧ w.cell? ⟨p, 5, none⟩ = some (.int .i64 x.depth) ∧ w.cell? ⟨p, 6, none⟩ = some (.bool x.corner) ∧ w.cell? ⟨p, 7, none⟩ = some (.string x.s) ∧
    w.cell? ⟨p, 8, none⟩ = some (.int .i64 x.emitted) ∧ w.cell? ⟨p, 9, none⟩ = some (.slice x.list.a x.list.len x.list.cap) ∧ w.cell? ⟨p, 10, none⟩ = some (.slice x.lists.a x.lists.len x.lists.cap) ∧
    w.cell? ⟨p, 11, none⟩ = some (.slice x.texts.a x.texts.len x.texts.cap) ∧ (∀ i, w.frozen? ⟨p, i, none⟩ = false) ∧ p < w.heap.size :=
  ⟨h.cell 0 rfl, h.cell 1 rfl, h.cell 2 rfl, h.cell 3 rfl, h.cell 4 rfl, h.cell 5 rfl, h.cell 6 rfl, h.cell 7 rfl, h.cell 8 rfl, h.cell 9 rfl, h.cell 10 rfl, h.cell 11 rfl, fun i => h.frozen i, h.row_lt⟩

set_option maxRecDepth 100000 in
set_option maxHeartbeats 400000 in
theorem closeRoot_w (r : Addr) (p g cap : Nat) (st en : Int) (ia : Option Addr) (il ic : Nat) (x : PSt) (junk : List Value) (F : HP) (w : World)
    (hx : x.stack = ⟨some ⟨g, 0, none⟩, 1, cap⟩)
    (hs : Sat w (row p 173 x.cells * (row g 197 ([.iface 176 (.pointer (some r)), .slice ia il ic, .int .i64 st, .int .i64 en] ++ junk) * F))) :
    Calls Tryz.prog 107 #[.pointer (some ⟨p, 0, none⟩)] w fun e w' =>
      ∃ d, e = .returned (.iface 80 (.pointer (some ⟨d, 0, none⟩))) ∧
        Sat w' (row p 173 { x with stack := ⟨some ⟨g, 0, none⟩, 0, cap⟩, root := some ⟨d, 0, none⟩ }.cells * (row d 117 [.int .i64 st, .int .i64 en, .slice ia il ic, .map x.links] * F)) := by
  obtain ⟨f0, f1, f2, f3, f4, f5, f6, f7, f8, f9, f10, f11, fz, hlp⟩ := PSt.facts hs
  have hs2 := hs.cast (left_comm _ _ _)
  have g0 : w.cell? ⟨g, 0, none⟩ = some (.iface 176 (.pointer (some r))) := hs2.cell 0 rfl
  have g1 : w.cell? ⟨g, 1, none⟩ = some (.slice ia il ic) := hs2.cell 1 rfl
  have g2 : w.cell? ⟨g, 2, none⟩ = some (.int .i64 st) := hs2.cell 2 rfl
  have g3 : w.cell? ⟨g, 3, none⟩ = some (.int .i64 en) := hs2.cell 3 rfl
  have hlg := hs2.row_lt
  rw [hx] at f4
  clear f0 f3 f5 f7 f8 f9 f10 f11
  have mb := fun w => meth_rootBuilder_build r w
  have nb := fun w => ahead_rootBuilder_build r w
  have ta := fun v w => ta_Block_Document v w
  have tb := fun v w => tb_Block_Document_List v w
  go_enter Tryz.func107, Tryz.ntmps107
  go_wp2
  go_quiet (fail)
  go_wp2_with fail
  refine (rootBuild_w (some r) p g 0 cap st en ia il ic x.links (w.drewN nq) (by decide) hlp hlg f4 f2 (by simpa using g1) (by simpa using g2) (by simpa using g3)).mono ?_
  rintro e w1 ⟨y, rfl, rfl⟩
  have k4 := y.cell (W := w.drewN nq) f4
  have k1 := y.cell (W := w.drewN nq) f1
  have k6 := y.cell (W := w.drewN nq) f6
  have kl : p < y.w.heap.size := y.lt hlp
  have kz : ∀ i, y.w.frozen? ⟨p, i, none⟩ = false := fun i => (y.below.frozen (p := ⟨p, i, none⟩) hlp).trans (fz i)
  go_wp2
  go_region
  go_wp2
  have hy : Sat y.w _ := (hs.drewN nq).ext y.below
  have h2 := ((hy.drop2.set 4 (.slice (some ⟨g, 0, none⟩) 0 cap)).set 1 (.pointer (some ⟨y.w.heap.size, 0, none⟩))).new [.int .i64 st, .int .i64 en, .slice ia il ic, .map x.links] 117 (d := y.w.heap.size) (by simp)
  go_ret
  exact ⟨_, rfl, h2.swap⟩


theorem info_openBlock : (Tryz.prog.info? 197).map (fun i => (i.zero, i.size, i.bytes)) = some (some (.agg #[.nilIface, .slice none 0 0, .int .i64 0, .int .i64 0]), 4, 56) := by kernel_rfl

set_option maxRecDepth 100000 in
set_option maxHeartbeats 400000 in
theorem addBlock_w (p n : Nat) (T : TypeId) (bp : Option Addr) (x : PSt) (cs : List Value) (F : HP) (w : World) (hn : n ≤ 1000000000) (hd : x.depth + 1 = n) (hn2 : n = x.stack.len)
    (hs : Sat w (row p 173 x.cells * (arr 197 4 x.stack.v n cs * F))) :
    Calls Tryz.prog 88 #[.pointer (some ⟨p, 0, none⟩), .iface T (.pointer bp)] w fun e w' =>
      e = .returned (.tuple #[]) ∧ ∃ g cap, 
        Sat w' (row p 173 { x with stack := ⟨some ⟨g, 0, none⟩, n + 1, cap⟩ }.cells *
          (arr 197 4 (.slice (some ⟨g, 0, none⟩) (n + 1) cap) (n + 1) (cs ++ [.iface T (.pointer bp), .slice none 0 0, .int .i64 x.lineno, .int .i64 x.lineno]) * F)) := by
  subst hn2
  obtain ⟨i0, hi, hz0, hz1, hz2⟩ := info_parts info_openBlock
  obtain ⟨f0, f1, f2, f3, f4, f5, f6, f7, f8, f9, f10, f11, fz, hlp⟩ := PSt.facts hs
  have hlen := hs.swap.arr_length
  have hb : -1 ≤ x.depth ∧ x.depth ≤ 1000000000 := by omega
  clear f0 f1 f2 f6 f7 f8 f9 f10 f11
  have hsA := hs.new [.nilIface, .slice none 0 0, .int .i64 0, .int .i64 0] 197 rfl
  have hsB := hsA.cast (show _ = arr 197 4 x.stack.v x.stack.len cs * (row p 173 x.cells * (row w.heap.size 197 [.nilIface, .slice none 0 0, .int .i64 0, .int .i64 0] * F)) from by ac_rfl)
  clear hsA
  go_enter Tryz.func88, Tryz.ntmps88
  go_wp2_with (go_at_call 91; refine (trimStack_noop p _ x.stack.cap x.stack.a w hn f4).mono ?_; rintro e w' ⟨rfl, rfl⟩; refine Hid.out ?_)
  refine Lib.hid ?_
  go_wp2_with (at_builtin; refine wpList_append_sl rfl (.tmp 16) (.tmp 18) 167 rfl 197 i0 _ 4 56 Tryz.underlying167 hi hz0 hz1 hz2 rfl x.stack.v _ cs rfl hsB ⟨w.heap.size, 0, none⟩ 1 1 [.nilIface, .slice none 0 0, .int .i64 0, .int .i64 0] rfl rfl ?c1 ?c2 ?c3 ?c4 (by decide) ?_)
  case c1 => exact cells_new _ _ _
  case c2 => intro u hu; simp at hu; rcases hu with rfl | rfl | rfl <;> rfl
  case c3 => unfold maxLen; omega
  case c4 => omega
  intro g cap w1 hs1 hz1
  obtain ⟨junk, h1, h2, h3, h4, hr⟩ := hs1.arr_row
  have hq := (hr.cast (show _ = row p 173 x.cells * (row g 197 (cs ++ [.nilIface, .slice none 0 0, .int .i64 0, .int .i64 0] ++ junk) * F * row w.heap.size 197 [.nilIface, .slice none 0 0, .int .i64 0, .int .i64 0]) from by ac_rfl))
  obtain ⟨e0, e1, e2, e3, e4, e5, e6, e7, e8, e9, e10, e11, ez, elp⟩ := PSt.facts hq
  have gc : ∀ i, i < 4 → w1.cell? ⟨g, x.stack.len * 4 + i, none⟩ = [Value.nilIface, .slice none 0 0, .int .i64 0, .int .i64 0][i]? := by
    intro i hi
    refine (hr.cell (x.stack.len * 4 + i) (v := [Value.nilIface, .slice none 0 0, .int .i64 0, .int .i64 0][i]'hi) ?_).trans (by simp [hi])
    rw [List.append_assoc, List.getElem?_append_right (by omega), hlen, List.getElem?_append_left (by simp; omega)]
    simp [hi]
  have g0 := gc 0 (by omega)
  have g2 := gc 2 (by omega)
  have g3 := gc 3 (by omega)
  simp only [Nat.add_zero, List.getElem?_cons_zero, List.getElem?_cons_succ] at g0 g2 g3
  have gz := fun i => hr.frozen i
  have glt := hr.row_lt
  have hne : ¬ g = p := (hr.cast (show _ = row g 197 _ * (row p 173 x.cells * (row w.heap.size 197 [.nilIface, .slice none 0 0, .int .i64 0, .int .i64 0] * F)) from by ac_rfl)).row_ne
  have hne' : ¬ p = g := Ne.symm hne
  clear gc e0 e1 e2 e6 e7 e8 e9 e10 e11 f3 f4 f5 fz hs1 hs hi hz0 hz2 hsB
  go_wp2
  go_quiet (fail)
  go_wp2
  have h5 := (((((hq.set 4 (.slice (some ⟨g, 0, none⟩) (x.stack.len + 1) cap)).drewN nq).cast (show _ = row g 197 (cs ++ [.nilIface, .slice none 0 0, .int .i64 0, .int .i64 0] ++ junk) *
    (row p 173 (x.cells.set 4 (.slice (some ⟨g, 0, none⟩) (x.stack.len + 1) cap)) * F * row w.heap.size 197 [.nilIface, .slice none 0 0, .int .i64 0, .int .i64 0]) from by ac_rfl)).set (x.stack.len * 4) (.iface T (.pointer bp))).set
      (x.stack.len * 4 + 2) (.int .i64 x.lineno)).set (x.stack.len * 4 + 2 + 1) (.int .i64 x.lineno)
  rw [set_mid (i := 0) _ (by omega) (by decide), set_mid (i := 2) _ (by omega) (by simp), set_mid (i := 3) _ (by omega) (by simp)] at h5
  have h6 : Sat _ (row g 197 (cs ++ [.iface T (.pointer bp), .slice none 0 0, .int .i64 x.lineno, .int .i64 x.lineno] ++ junk) * (row p 173 (x.cells.set 4 (.slice (some ⟨g, 0, none⟩) (x.stack.len + 1) cap)) * F)) := (h5.cast (star_assoc _ _ _).symm).left
  go_end0
  refine ⟨rfl, g, cap, Sat.swap (arr_mk ?_ h2 h3 ?_ h6)⟩
  · simpa using h1
  · simpa using h4

end Go.Proofs.YtbfmmikllelfeaaGreatDoor

/- Walks: a blank line, while the root alone is open. -/
namespace Go.Proofs.YtbfmmikllelfeaaGreatDoor
open Go.RowKit Sl

def Ln.agg (x : Ln) : Value := .agg #[.int .i64 x.spaces, .int .i64 x.i, .int .i64 x.tab, .string x.text, .int .u8 x.nl.toNat]

def Ln.blank (x : Ln) : Bool := (B.trimL x.rest).isEmpty

set_option maxRecDepth 100000 in
set_option maxHeartbeats 400000 in
theorem addLine_blank (p : Nat) (l : Ln) (x : PSt) (F : HP) (w : World) (hn : x.stack.len = 1) (hl : l.blank = true) (hi : l.i ≤ l.text.size) (hsz : l.text.size ≤ 1000000000000)
    (hs : Sat w (row p 173 x.cells * F)) :
    Calls Tryz.prog 90 #[.pointer (some ⟨p, 0, none⟩), l.agg] w fun e w' =>
      e = .returned (.tuple #[]) ∧ Sat w' (row p 173 { x with depth := 0 }.cells * F) := by
  obtain ⟨f0, f1, f2, f3, f4, f5, f6, f7, f8, f9, f10, f11, fz, hlp⟩ := PSt.facts hs
  rw [hn] at f4
  clear f0 f1 f2 f3 f6 f7 f8 f9 f10 f11
  have hne : ¬ p = w.heap.size := Nat.ne_of_lt hlp
  unfold Ln.agg
  go_enter Tryz.func90, Tryz.ntmps90
  go_wp2
  go_step3
  go_wp2
  refine wp_loop_once ?_
  go_wp2
  go_quiet (fail)
  go_wp2_with fail
  refine (isBlank_w w.heap.size l.i l.text _ hi hsz ?_ ?_).mono ?_
  · simp [go_sem]
  · simp [go_sem]
  intro e w' h
  obtain ⟨rfl, m, rfl⟩ := h
  have hb : (B.trimL (List.drop l.i l.text.data.toList)).isEmpty = true := hl
  rw [hb]
  clear hb
  go_wp2_with fail
  refine (trimStack_noop p 1 x.stack.cap x.stack.a _ (by decide) ?_).mono ?_
  · simp [go_sem, *]
  intro e w' h
  obtain ⟨rfl, rfl⟩ := h
  go_wp2
  rw [Exit.noGoto_ret]
  have h1 := ((hs.set 5 (.int .i64 0)).new [.int .i64 l.spaces, .int .i64 l.i, .int .i64 l.tab, .string l.text, .int .u8 l.nl.toNat] 181 (d := w.heap.size) (by simp)).drop1
  refine bodyPost_ret (results_none rfl _ _ _) rfl ⟨rfl, ?_⟩
  exact h1

end Go.Proofs.YtbfmmikllelfeaaGreatDoor

/- Walks: (*Parser).parse, over what addLine, trimStack and inline do. -/
namespace Go.Proofs.YtbfmmikllelfeaaGreatDoor
open Go.RowKit Sl

def strLen : Value → Nat | .string s => s.size | _ => 0

/-- The state when the root has been laid. -/
def PSt.first (pb : Nat) (g cap : Nat) (bt : List Value) : PSt :=
  { parser := some ⟨pb, 0, none⟩, root := none, links := none, lineno := 0, stack := ⟨some ⟨g, 0, none⟩, 1, cap⟩, depth := -1, corner := false, s := ⟨#[]⟩, emitted := 0, list := ⟨none, 0, 0⟩, lists := ⟨none, 0, 0⟩, texts := ⟨none, 0, 0⟩, bt := bt }

def LineOf (l : List UInt8 × UInt8) : Ln := ⟨0, 0, 0, B.bs l.1, l.2⟩

theorem zeroCells_PSt : Tryz.zeroCells173.toList = [.pointer none, .pointer none, .map none, .int .i64 0, .slice none 0 0, .int .i64 0, .bool false, .string ⟨#[]⟩, .int .i64 0, .slice none 0 0, .slice none 0 0, .slice none 0 0] ++ Tryz.zeroCells173.toList.drop 12 := by kernel_rfl

noncomputable def bt0 : List Value := Tryz.zeroCells173.toList.drop 12

theorem idx_parts (l : List UInt8) (c : UInt8) : (B.idx l [c] < 0 ∧ decide (0 ≤ B.idx l [c]) = false) ∨ ∃ k : Nat, B.idx l [c] = k ∧ k < l.length := by
  have h := B.idx_lt l c
  by_cases h0 : B.idx l [c] < 0
  · exact .inl ⟨h0, by simpa using h0⟩
  · exact .inr ⟨(B.idx l [c]).toNat, by omega, by omega⟩

theorem zzIndex_nl (l : List UInt8) (w : World) (hs : (B.bs l).size ≤ 1000000000000) : Calls Tryz.prog 89 #[.string (B.bs l), .string ⟨#[10]⟩] w fun e w' => e = .returned (.int .i64 (B.idx l [10])) ∧ w = w' := by
  have := zzIndex_w (B.bs l) ⟨#[10]⟩ w hs (by decide)
  rwa [B.bs_data, show (⟨#[10]⟩ : ByteArray).data.toList = [10] from rfl] at this
theorem zzIndex_cr (l : List UInt8) (w : World) (hs : (B.bs l).size ≤ 1000000000000) : Calls Tryz.prog 89 #[.string (B.bs l), .string ⟨#[13]⟩] w fun e w' => e = .returned (.int .i64 (B.idx l [13])) ∧ w = w' := by
  have := zzIndex_w (B.bs l) ⟨#[13]⟩ w hs (by decide)
  rwa [B.bs_data, show (⟨#[13]⟩ : ByteArray).data.toList = [13] from rfl] at this

/-- What is known when the root has been laid, and what addLine does to it, line by line. -/
structure Lines (K : Nat → List (List UInt8 × UInt8) → HP) (pb : Nat) (text : List UInt8) : Prop where
  first : ∀ p r g cap w F, Sat w (row p 173 (PSt.first pb g cap bt0).cells * (arr 197 4 (.slice (some ⟨g, 0, none⟩) 1 cap) 1 [.iface 176 (.pointer (some ⟨r, 0, none⟩)), .slice none 0 0, .int .i64 0, .int .i64 0] * F)) → Sat w (K p [] * F)
  next : ∀ p done l rest w F, B.lines text = done ++ l :: rest → Sat w (K p done * F) → ∃ x G, x.lineno = (done.length : Int) ∧ Sat w (row p 173 (PSt.cells x) * (G * F)) ∧
    ∀ w', Sat w' (row p 173 { x with lineno := (done.length : Int) + 1 }.cells * (G * F)) → Calls Tryz.prog 90 #[.pointer (some ⟨p, 0, none⟩), (LineOf l).agg] w' fun e w'' => e = .returned (.tuple #[]) ∧ Sat w'' (K p (done ++ [l]) * F)

/-- What closing all blocks leaves, and what the inlines of each text are. -/
structure Ends (K : Nat → List (List UInt8 × UInt8) → HP) (T : Nat → SV → Nat → HP) (text : List UInt8) : Prop where
  close : ∀ p w F, Sat w (K p (B.lines text) * F) → Calls Tryz.prog 91 #[.pointer (some ⟨p, 0, none⟩), .int .i64 0] w fun e w' => e = .returned (.tuple #[]) ∧ ∃ tx : SV, tx.len ≤ 1000000000 ∧ Sat w' (T p tx 0 * F)
  state : ∀ p tx i w F, Sat w (T p tx i * F) → ∃ x G, x.texts = tx ∧ Sat w (row p 173 (PSt.cells x) * (G * F))
  text : ∀ p tx i w F, Sat w (T p tx i * F) → i < tx.len → ∃ a tb raw, tx.a = some ⟨a, 0, none⟩ ∧ w.cell? ⟨a, i, none⟩ = some (.pointer (some ⟨tb, 0, none⟩)) ∧ w.cell? ⟨tb, 3, none⟩ = some (.string raw) ∧
    Calls Tryz.prog 92 #[.pointer (some ⟨p, 0, none⟩), .string raw] w fun e w' => ∃ v : SV, e = .returned v.v ∧ (∃ u, w'.cell? ⟨tb, 2, none⟩ = some u) ∧ w'.frozen? ⟨tb, 2, none⟩ = false ∧ Sat (w'.setCell ⟨tb, 2, none⟩ v.v) (T p tx (i + 1) * F)

set_option maxRecDepth 100000 in
set_option maxHeartbeats 2000000 in
theorem parse_w (pb : Nat) (text : ByteArray) (W : World) (F : HP) (oc : List Value) (hoc : oc[2]? = some (.bool false)) (hsz : text.size ≤ 1000000000) (hnul : B.findSub [0] text.data.toList = none)
    (hW : Sat W (row pb 105 oc * F)) (K : Nat → List (List UInt8 × UInt8) → HP) (hK : Lines K pb text.data.toList) (T : Nat → SV → Nat → HP) (hT : Ends K T text.data.toList) :
    Calls Tryz.prog 68 #[.pointer (some ⟨pb, 0, none⟩), .string text] W fun e w' => ∃ p tx root corner, e = .returned (.tuple #[.pointer root, .bool corner]) ∧ w'.cell? ⟨p, 1, none⟩ = some (.pointer root) ∧ Sat w' (T p tx tx.len * (row pb 105 oc * F)) := by
  have hlp := hW.row_lt
  have hf : (B.findSub (⟨#[0]⟩ : ByteArray).data.toList text.data.toList).isSome = false := by rw [show (⟨#[0]⟩ : ByteArray).data.toList = [0] from rfl, hnul]; rfl
  go_enter Tryz.func68, Tryz.ntmps68
  go_wp2_with fail
  refine (zzContains_w text _ _ (by omega) (by decide)).mono ?_
  rintro e w1 ⟨rfl, rfl⟩
  rw [hf]
  go_wp2_with fail
  have h0 : (Tryz.zeroCells173.setIfInBounds 0 (.pointer (some ⟨pb, 0, none⟩))).setIfInBounds 5 (.int .i64 (-1)) =
      (PSt.cells { parser := some ⟨pb, 0, none⟩, root := none, links := none, lineno := 0, stack := ⟨none, 0, 0⟩, depth := -1, corner := false, s := ⟨#[]⟩, emitted := 0, list := ⟨none, 0, 0⟩, lists := ⟨none, 0, 0⟩, texts := ⟨none, 0, 0⟩, bt := bt0 }).toArray := by
    apply Array.toList_inj.1
    rw [Array.toList_setIfInBounds, Array.toList_setIfInBounds, zeroCells_PSt]
    rfl
  rw [h0]
  have h1 := ((hW.new (PSt.cells { parser := some ⟨pb, 0, none⟩, root := none, links := none, lineno := 0, stack := ⟨none, 0, 0⟩, depth := -1, corner := false, s := ⟨#[]⟩, emitted := 0, list := ⟨none, 0, 0⟩, lists := ⟨none, 0, 0⟩, texts := ⟨none, 0, 0⟩, bt := bt0 }) 173 rfl).new [] 178 (d := W.heap.size + 1) (by simp)).drop1
  have h2 := h1.cast (show _ = row W.heap.size 173 _ * (arr 197 4 (.slice none 0 0) 0 [] * (row pb 105 oc * F)) from by rw [arr_nil, emp_star])
  clear h1 h0
  refine (addBlock_w _ 0 _ _ _ _ _ _ (by decide) rfl rfl h2).mono ?_
  rintro e w1 ⟨rfl, g, cap, h3⟩
  have h4 := hK.first _ _ _ _ _ _ h3
  clear h2 h3
  generalize W.heap.size = p at *
  go_wp2_with fail
  go_loopw [1] (fun t wr => ∃ done rest, B.lines text.data.toList = done ++ B.lines rest ∧ rest.length ≤ text.size ∧ t = .string (B.bs rest) ∧ Sat wr (K p done * (row pb 105 oc * F))) (fun t _ => strLen t)
  case atStart => exact ⟨[], text.data.toList, rfl, by rw [B.size_data]; omega, rfl, h4⟩
  case round =>
    obtain ⟨done, rest, hl, hrl, rfl, hs⟩ := hrel
    by_cases hne : rest = []
    · subst hne
      rw [B.lines_nil, List.append_nil] at hl
      rw [← hl] at hs
      have hcl := hT.close p wr _ hs
      have HCL := Lib.hid hcl
      have HL := Lib.hid hl
      have he : (B.bs []).toList.isEmpty = true := by rw [Lib.toList_data]; rfl
      clear hl hcl hs h4
      go_wp2_with fail
      refine HCL.out.mono ?_
      rintro e w2 ⟨rfl, tx, htx, h5⟩
      obtain ⟨x, G, hx, h6⟩ := hT.state _ _ _ _ _ h5
      have e11 := (PSt.facts h6).2.2.2.2.2.2.2.2.2.2.2.1
      rw [hx] at e11
      clear h6 hx
      go_wp2
      have htab : tx.len = 0 ∨ ∃ a, tx.a = some ⟨a, 0, none⟩ := by
        by_cases h0 : tx.len = 0
        · exact .inl h0
        · obtain ⟨a, tb, raw, ha, _⟩ := hT.text _ _ _ _ _ h5 (by omega)
          exact .inr ⟨a, ha⟩
      obtain ⟨ta, tn, tc⟩ := tx
      simp only at htab htx
      rcases htab with rfl | ⟨a, rfl⟩
      · go_loopw [83] (fun t wx => t = .int .i64 0 ∧ Sat wx (T p ⟨ta, 0, tc⟩ 0 * (row pb 105 oc * F))) (fun t _ => 1000000000 - (intOf t).toNat)
        case atStart => exact ⟨rfl, h5⟩
        case round =>
          obtain ⟨rfl, h6⟩ := hrel
          have c2 : wr.cell? ⟨pb, 2, none⟩ = some (.bool false) := h6.swap.cell 2 hoc
          obtain ⟨y, G2, hy, h8⟩ := hT.state _ _ _ _ _ h6
          obtain ⟨f0, f1, f2, f3, f4, f5, f6, f7, f8, f9, f10, f11, fz, hlp⟩ := PSt.facts h8
          clear f0 f2 f3 f4 f5 f7 f8 f9 f10 f11 fz hy h8
          go_wp2
          go_quiet (fail)
          go_wp2
          go_ret2
          exact ⟨p, _, y.root, y.corner, rfl, f1, h6.drewN _⟩
      · go_loopw [83] (fun t wx => ∃ k : Nat, k ≤ tn ∧ t = .int .i64 k ∧ Sat wx (T p ⟨some ⟨a, 0, none⟩, tn, tc⟩ k * (row pb 105 oc * F))) (fun t _ => tn - (intOf t).toNat)
        case atStart => exact ⟨0, Nat.zero_le _, rfl, h5⟩
        case round =>
          obtain ⟨k, hk, rfl, h6⟩ := hrel
          by_cases hlt : k < tn
          · obtain ⟨a', tb, raw, ha, ca, cr, hin⟩ := hT.text _ _ _ _ _ h6 hlt
            simp only [Option.some.injEq, Addr.mk.injEq, and_self, and_true] at ha
            subst ha
            have HIN := Lib.hid hin
            clear hin
            go_wp2_with fail
            refine HIN.out.mono ?_
            rintro e w3 ⟨v, rfl, ⟨u, hu⟩, hfz, h7⟩
            unfold SV.v at h7 ⊢
            go_wp2
            go_roundw
            case rel => first | exact ⟨k + 1, by omega, by go_num, h7⟩ | ((repeat apply Exists.intro); exact ⟨⟨k + 1, by omega, by go_num, h7⟩, rfl⟩)
            case measure => simp [intOf]; omega
          · obtain rfl : k = tn := by omega
            have c2 : wr.cell? ⟨pb, 2, none⟩ = some (.bool false) := h6.swap.cell 2 hoc
            obtain ⟨y, G2, hy, h8⟩ := hT.state _ _ _ _ _ h6
            obtain ⟨f0, f1, f2, f3, f4, f5, f6, f7, f8, f9, f10, f11, fz, hlp⟩ := PSt.facts h8
            clear f0 f2 f3 f4 f5 f7 f8 f9 f10 f11 fz hy h8
            go_wp2
            go_quiet (fail)
            go_wp2
            go_ret2
            exact ⟨p, _, y.root, y.corner, rfl, f1, h6.drewN _⟩
    · have he : (B.bs rest).toList.isEmpty = false := by
        rw [Lib.toList_data, B.bs_data]
        cases rest with
        | nil => exact absurd rfl hne
        | cons => rfl
      have hz : (B.bs rest).size ≤ 1000000000000 := by rw [B.bs_size]; omega
      have bi := B.idx_lt rest 10
      have bj := B.idx_lt rest 13
      have zi := zzIndex_nl rest wr hz
      have zj := zzIndex_cr rest wr hz
      have nl : B.nextLine rest = B.nextLine rest := rfl
      conv at nl => rhs; unfold B.nextLine
      generalize B.idx rest [10] = ii at *
      generalize B.idx rest [13] = jj at *
      have NL := Lib.hid nl
      have ZI := Lib.hid zi
      have ZJ := Lib.hid zj
      clear nl zi zj
      have bi2 : ii < ((B.bs rest).size : Int) := bi.2
      have bj2 : jj < ((B.bs rest).size : Int) := bj.2
      have bi1 := bi.1
      have bj1 := bj.1
      clear bi bj
      go_wp2_with fail
      refine ZI.out.mono ?_
      rintro e w1 ⟨rfl, rfl⟩
      go_wp2_with fail
      refine ZJ.out.mono ?_
      rintro e w1 ⟨rfl, rfl⟩
      go_upto_block 2 with fail
      go_cut [1, 7, 10] (fun t1 t7 t10 wx => t1 = .string (B.bs (B.nextLine rest).2) ∧ t7 = .string (B.bs (B.nextLine rest).1.1) ∧ t10 = .int .u8 ((B.nextLine rest).1.2).toNat ∧ ∃ n, wx = wr.drewN n)
      case first =>
        by_cases hA : 0 ≤ jj ∧ (ii < 0 ∨ jj < ii)
        · obtain ⟨j, rfl⟩ := Int.eq_ofNat_of_zero_le hA.1
          have e1 : B.bs (List.take j rest) = (B.bs rest).extract 0 j := by rw [B.extract_zero, B.bs_data]
          have e2 : ∀ k, B.bs (List.drop k rest) = (B.bs rest).extract k (B.bs rest).size := fun k => by rw [B.extract_end, B.bs_data]
          have E1 := Lib.hid e1
          have E2 := Lib.hid e2
          clear e1 e2
          go_wp2
          all_goals
            go_meet
            have n1 := NL.out
            rw [if_pos hA] at n1
            simp only [Int.toNat_natCast] at n1
            first
              | (have h : (ii == (j : Int) + 1) = true := by assumption
                 rw [if_pos (by simpa using h)] at n1
                 rw [n1]
                 exact ⟨by rw [E2.out], by rw [E1.out], rfl, 0, rfl⟩)
              | (have h : (ii == (j : Int) + 1) = false := by assumption
                 rw [if_neg (by simpa using h)] at n1
                 rw [n1]
                 exact ⟨by rw [E2.out], by rw [E1.out], rfl, 0, rfl⟩)
        · have n1 := NL.out
          rw [if_neg hA] at n1
          have N1 := Lib.hid n1
          clear n1
          by_cases hB : 0 ≤ ii
          · obtain ⟨i, rfl⟩ := Int.eq_ofNat_of_zero_le hB
            have e1 : B.bs (List.take i rest) = (B.bs rest).extract 0 i := by rw [B.extract_zero, B.bs_data]
            have e2 : B.bs (List.drop (i + 1) rest) = (B.bs rest).extract (i + 1) (B.bs rest).size := by rw [B.extract_end, B.bs_data]
            have E1 := Lib.hid e1
            have E2 := Lib.hid e2
            clear e1 e2
            by_cases hj0 : 0 ≤ jj
            all_goals
              go_wp2
              go_quiet (fail)
              go_wp2
              go_meet
              have n1 := N1.out
              rw [if_pos hB] at n1
              simp only [Int.toNat_natCast] at n1
              rw [n1]
              exact ⟨by rw [E2.out], by rw [E1.out], rfl, _, rfl⟩
          · have hj0 : ¬ 0 ≤ jj := by omega
            go_wp2
            go_meet
            have n1 := N1.out
            rw [if_neg (by omega)] at n1
            rw [n1]
            exact ⟨rfl, rfl, rfl, 0, rfl⟩
      case rest =>
        obtain ⟨rfl, rfl, rfl, n, rfl⟩ := hcut
        have hl2 := B.lines_cons hne
        have hlen := B.nextLine_lt hne
        rw [hl2] at hl
        obtain ⟨x, G, hx, hsx, hadd⟩ := hK.next p done _ _ _ _ hl hs
        obtain ⟨f0, f1, f2, f3, f4, f5, f6, f7, f8, f9, f10, f11, fz, hlp⟩ := PSt.facts hsx
        rw [hx] at f3
        have HADD := Lib.hid hadd
        have HL := Lib.hid hl
        have HX := Lib.hid hx
        have hdl : done.length ≤ 1000000000 := by
          have h1 := B.lines_length text.data.toList
          have h2 := congrArg List.length hl
          rw [List.length_append] at h2
          rw [← B.size_data] at h1
          omega
        clear f0 f1 f2 f4 f5 f6 f7 f8 f9 f10 f11 hadd hl hl2 ZI ZJ NL hx
        go_wp2_with fail
        refine (HADD.out _ ?_).mono ?_
        · exact (hsx.set 3 _).drewN n
        rintro e w2 ⟨rfl, h5⟩
        go_wp2
        go_roundw
        case rel => exact ⟨done ++ [(B.nextLine rest).1], (B.nextLine rest).2, by rw [HL.out, List.append_assoc]; rfl, by omega, rfl, h5⟩
        case measure => simp [strLen, B.bs_size]; omega

end Go.Proofs.YtbfmmikllelfeaaGreatDoor
