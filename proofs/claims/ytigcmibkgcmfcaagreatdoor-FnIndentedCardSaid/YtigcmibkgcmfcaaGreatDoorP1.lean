/- Walks: the parser's state in memory; its stack of open blocks. -/
import Derived.Test.YtigcmibkgcmfcaaGreatDoorL1
import Derived.Test.YtigcmibkgcmfcaaGreatDoorM
import Derived.Test.YtigcmibkgcmfcaaGreatDoorQt
namespace Go.Proofs.YtigcmibkgcmfcaaGreatDoor
open Go.RowKit Sl

theorem quiet_same {P : Program} {f : FuncId} {args : Array Value} {w : World} {n : Nat} {v : Value}
    (h : Calls P f args (w.drewN n) fun e w' => e = .returned v ∧ w.drewN n = w') : Calls P f args (w.drewN n) fun e w'' => e = .returned v ∧ ∃ m, w'' = w.drewN m :=
  h.mono fun _ _ ⟨he, hm⟩ => ⟨he, n, hm.symm⟩

/-- A line, as the program holds it: what is left of a tab, the place, where the tab began, the text, its end. -/
structure Ln where
  spaces : Nat
  i : Nat
  tab : Nat
  text : ByteArray
  nl : UInt8

def Ln.cells (x : Ln) : List Value := [.int .i64 x.spaces, .int .i64 x.i, .int .i64 x.tab, .string x.text, .int .u8 x.nl.toNat]

/-- what stands behind the place -/
def Ln.rest (x : Ln) : List UInt8 := x.text.data.toList.drop x.i

/-- A slice's three words. -/
structure SV where
  a : Option Addr
  len : Nat
  cap : Nat

def SV.v (s : SV) : Value := .slice s.a s.len s.cap

/-- The parser's state: its twelve first cells, and those of the backquotes. -/
structure PSt where
  parser : Option Addr
  root : Option Addr
  links : Option Nat
  lineno : Int
  stack : SV
  depth : Int
  corner : Bool
  s : ByteArray
  emitted : Int
  list : SV
  lists : SV
  texts : SV
  bt : List Value

def PSt.cells (x : PSt) : List Value :=
  [.pointer x.parser, .pointer x.root, .map x.links, .int .i64 x.lineno, x.stack.v, .int .i64 x.depth, .bool x.corner, .string x.s, .int .i64 x.emitted, x.list.v, x.lists.v, x.texts.v] ++ x.bt

set_option maxHeartbeats 400000 in
theorem isBlank_w (b i : Nat) (s : ByteArray) (w : World) (hi : i ≤ s.size) (hs : s.size ≤ 1000000000000) (h3 : w.cell? ⟨b, 3, none⟩ = some (.string s)) (h1 : w.cell? ⟨b, 1, none⟩ = some (.int .i64 i)) :
    Calls Tryz.prog 58 #[.pointer (some ⟨b, 0, none⟩)] w fun e w' => e = .returned (.bool (B.trimL (s.data.toList.drop i)).isEmpty) ∧ ∃ m, w' = w.drewN m := by
  have hz : (s.extract i s.size).size ≤ 1000000000000 := by rw [B.extract_end, B.bs_size, List.length_drop, ← B.size_data]; omega
  go_enter Tryz.func58, Tryz.ntmps58
  go_wp2
  go_quiet ((go_at_call 82; exact quiet_same (trimLeft_w _ _ hz)))
  go_wp2
  go_ret
  exact ⟨ret_bool (by rw [Lib.toList_data, B.bs_data, List.take_of_length_le (by rw [List.length_drop, B.size_data]; omega)]), _, rfl⟩

set_option maxHeartbeats 400000 in
theorem trimStack_noop (p n cap : Nat) (a : Option Addr) (w : World) (_hn : n ≤ 1000000000) (h4 : w.cell? ⟨p, 4, none⟩ = some (.slice a n cap)) :
    Calls Tryz.prog 52 #[.pointer (some ⟨p, 0, none⟩), .int .i64 n] w fun e w' => e = .returned (.tuple #[]) ∧ w = w' := by
  go_enter Tryz.func52, Tryz.ntmps52
  go_wp2
  go_loop [] (True) (0)
  case atStart => trivial
  case round =>
    go_wp2
    go_end0
    exact ⟨rfl, rfl⟩

set_option maxHeartbeats 400000 in
theorem blocks_w (p g k cap : Nat) (inn : Value) (w : World) (hk : k < 1000000000) (hp : w.cell? ⟨p, 4, none⟩ = some (.slice (some ⟨g, 0, none⟩) (k + 1) cap)) (h1 : w.cell? ⟨g, k * 4 + 1, none⟩ = some inn) :
    Calls Tryz.prog 249 #[.pointer (some ⟨p, 0, none⟩)] w fun e w' => e = .returned inn ∧ ∃ m, w' = w.drewN m := by
  go_enter Tryz.func249, Tryz.ntmps249
  go_wp2
  go_quiet (fail)
  go_wp2
  go_ret
  exact ⟨rfl, _, rfl⟩

set_option maxHeartbeats 400000 in
theorem pos_w (p g k cap : Nat) (st en : Int) (w : World) (hk : k < 1000000000) (hlp : p < w.heap.size) (hlg : g < w.heap.size) (hp : w.cell? ⟨p, 4, none⟩ = some (.slice (some ⟨g, 0, none⟩) (k + 1) cap)) (h2 : w.cell? ⟨g, k * 4 + 2, none⟩ = some (.int .i64 st)) (h3 : w.cell? ⟨g, k * 4 + 3, none⟩ = some (.int .i64 en)) :
    Calls Tryz.prog 250 #[.pointer (some ⟨p, 0, none⟩)] w fun e w' => e = .returned (.agg #[.int .i64 st, .int .i64 en]) ∧ Below w.heap.size w w' := by
  go_enter Tryz.func250, Tryz.ntmps250
  go_wp2
  go_quiet (fail)
  go_wp2
  refine bodyPost_ret (v := .agg #[.int .i64 st, .int .i64 en]) (by simp [results, Tryz.results250, go_sem]) rfl ⟨rfl, ?_⟩
  exact ((below_drewN ((Below.refl _ _).alloc (Nat.le_refl _) _) _).setCell (by simp) _).setCell (by simp) _

theorem Sl.Sat.ext {w w' : World} {P : HP} (h : Sat w P) (hb : Below w.heap.size w w') : Sat w' P := by
  obtain ⟨p, hp, hs⟩ := h
  refine ⟨p, ?_, fun b o hk => ?_⟩
  · have e : env w' = env w := by unfold env; rw [hb.os, hb.tape, hb.output]
    rw [e]; exact hp
  · have := hs b o hk
    rw [hb.block b (Array.getElem?_eq_some_iff.1 this).1, this]

set_option maxRecDepth 100000 in
set_option maxHeartbeats 400000 in
theorem rootBuild_w (r : Option Addr) (p g k cap : Nat) (st en : Int) (ia : Option Addr) (il ic : Nat) (ml : Option Nat) (w : World) (hk : k < 1000000000) (hlp : p < w.heap.size) (hlg : g < w.heap.size)
    (hp : w.cell? ⟨p, 4, none⟩ = some (.slice (some ⟨g, 0, none⟩) (k + 1) cap))
    (hl : w.cell? ⟨p, 2, none⟩ = some (.map ml))
    (h1 : w.cell? ⟨g, k * 4 + 1, none⟩ = some (.slice ia il ic))
    (h2 : w.cell? ⟨g, k * 4 + 2, none⟩ = some (.int .i64 st)) (h3 : w.cell? ⟨g, k * 4 + 3, none⟩ = some (.int .i64 en)) :
    Calls Tryz.prog 237 #[.pointer r, .iface 113 (.pointer (some ⟨p, 0, none⟩))] w fun e w' =>
      ∃ x : Qt.Ext w, e = .returned (.iface 44 (.pointer (some ⟨x.w.heap.size, 0, none⟩))) ∧ w' = x.w.alloc (.cells #[.int .i64 st, .int .i64 en, .slice ia il ic, .map ml] 337) := by
  have m1 := fun w => meth_parseState_pos ⟨p, 0, none⟩ w
  have m2 := fun w => meth_parseState_blocks ⟨p, 0, none⟩ w
  have n1 := fun w => ahead_parseState_pos ⟨p, 0, none⟩ w
  have n2 := fun w => ahead_parseState_blocks ⟨p, 0, none⟩ w
  have ta := fun v w => ta_buildState_parseState v w
  have x4 := fun x : Qt.Ext w => x.cell hp
  have x2 := fun x : Qt.Ext w => x.cell hl
  go_enter Tryz.func237, Tryz.ntmps237
  go_wp2
  refine Qt.wp_region (fun w' => ∃ x : Qt.Ext w, w' = x.w) 9 (by kernel_rfl) (by kernel_rfl) (Qt.Ext.start w) ?_
  simp only [List.take_succ_cons, List.take_zero, List.drop_succ_cons, List.drop_zero]
  repeat (quiet_step (first
    | (rename_i x; go_at_call 250; exact x.call (pos_w p g k cap st en _ hk (x.lt hlp) (x.lt hlg) (x.cell hp) (x.cell h2) (x.cell h3)))
    | (rename_i x; go_at_call 249; exact x.quiet (blocks_w p g k cap _ _ hk (x.cell hp) (x.cell h1)))))
  refine wpQuiet_nil ?_
  rintro _ ⟨x, rfl⟩
  go_wp2
  go_ret
  exact ⟨x, rfl, rfl⟩

end Go.Proofs.YtigcmibkgcmfcaaGreatDoor
