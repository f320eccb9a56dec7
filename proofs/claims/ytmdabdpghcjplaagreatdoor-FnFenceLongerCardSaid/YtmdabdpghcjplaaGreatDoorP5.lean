/- A block of code is closed: its builder's build, and closeBlock where a leaf is open in the root. -/
import Derived.Test.YtmdabdpghcjplaaGreatDoorBl
import Derived.Test.YtmdabdpghcjplaaGreatDoorN3
import Derived.Test.YtmdabdpghcjplaaGreatDoorN11
import Derived.Test.YtmdabdpghcjplaaGreatDoorSh
namespace Go.Proofs.YtmdabdpghcjplaaGreatDoor
open Go.RowKit Sl

theorem info_Block' : (Tryz.prog.info? 70).map (fun i => (i.zero, i.size, i.bytes)) = some (some .nilIface, 1, 16) := by kernel_rfl

/-- The open block (T, q), closed, is the block (TB, d); it lies in the stack's second place. -/
structure Bld (p g cap : Nat) (T TB : TypeId) (q : Addr) (st en : Int) (R : HP) (R' : Nat → HP) : Prop where
  run : ∃ f : FuncId, (∀ w, (method 477 T (.pointer (some q)) "pub-paratext/pub/rscmarkdown.build").run Tryz.prog w = .ok (f, .pointer (some q)) w) ∧
    (∀ w, (nilAhead 477 T (.pointer (some q)) "pub-paratext/pub/rscmarkdown.build").run Tryz.prog w = .ok (some false) w) ∧ (∀ (args : Array Value) (w : World), (callFunc f args).run Tryz.prog w = .ok (.enter f args) w) ∧
    ∀ (x : PSt) (w : World) (F : HP) (cs : List Value), x.stack = ⟨some ⟨g, 0, none⟩, 2, cap⟩ → cs[6]? = some (.int .i64 st) → cs[7]? = some (.int .i64 en) → Sat w (row p 96 x.cells * (row g 122 cs * (R * F))) →
      Calls Tryz.prog f #[.pointer (some q), .iface 117 (.pointer (some ⟨p, 0, none⟩))] w fun e w' =>
        ∃ d : Nat, e = .returned (.iface TB (.pointer (some ⟨d, 0, none⟩))) ∧ Sat w' (row p 96 x.cells * (row g 122 cs * (R' d * F)))

set_option maxRecDepth 100000 in
set_option maxHeartbeats 1000000 in
theorem preBuild_w (p q g cap : Nat) (st en : Int) (ts : SV) (F : HP) (x : PSt) (w : World) (cs : List Value) (hx : x.stack = ⟨some ⟨g, 0, none⟩, 2, cap⟩) (h6 : cs[6]? = some (.int .i64 st)) (h7 : cs[7]? = some (.int .i64 en))
    (hs : Sat w (row p 96 x.cells * (row g 122 cs * (row q 258 (preCells ts) * F)))) :
    Calls Tryz.prog 335 #[.pointer (some ⟨q, 0, none⟩), .iface 117 (.pointer (some ⟨p, 0, none⟩))] w fun e w' =>
      ∃ d, e = .returned (.iface 262 (.pointer (some ⟨d, 0, none⟩))) ∧ Sat w' (row p 96 x.cells * (row g 122 cs * (row d 371 [.int .i64 st, .int .i64 en, .string ⟨#[]⟩, .string ⟨#[]⟩, ts.v] * F))) := by
  have m1 := fun w => meth_parseState_pos ⟨p, 0, none⟩ w
  have n1 := fun w => ahead_parseState_pos ⟨p, 0, none⟩ w
  have hp : w.cell? ⟨p, 4, none⟩ = some (.slice (some ⟨g, 0, none⟩) (1 + 1) cap) := by have := hs.cell 4 rfl; rw [hx] at this; exact this
  have hlp := hs.row_lt
  have hlg := hs.swap.row_lt
  have h2 : w.cell? ⟨g, 1 * 4 + 2, none⟩ = some (.int .i64 st) := hs.swap.cell 6 h6
  have h3 : w.cell? ⟨g, 1 * 4 + 3, none⟩ = some (.int .i64 en) := hs.swap.cell 7 h7
  have q1 : w.cell? ⟨q, 1, none⟩ = some (.slice ts.a ts.len ts.cap) := hs.third.cell 1 rfl
  have xq := fun x : Qt.Ext w => x.cell q1
  go_enter Tryz.func335, Tryz.ntmps335
  go_wp2
  refine Qt.wp_region (fun w' => ∃ x : Qt.Ext w, w' = x.w) 7 (by kernel_rfl) (by kernel_rfl) (Qt.Ext.start w) ?_
  simp only [List.take_succ_cons, List.take_zero, List.drop_succ_cons, List.drop_zero]
  repeat (quiet_step (first
    | (rename_i x; go_at_call 254; exact x.call (pos_w p g 1 cap st en _ (by decide) (x.lt hlp) (x.lt hlg) (x.cell hp) (x.cell h2) (x.cell h3)))))
  refine wpQuiet_nil ?_
  rintro _ ⟨y, rfl⟩
  have hy : Sat y.w _ := hs.ext y.below
  have HY := Lib.hid hy
  clear hy hs
  go_wp2
  go_ret
  refine ⟨_, rfl, ?_⟩
  have h5 := HY.out.new (d := y.w.heap.size) [.int .i64 st, .int .i64 en, .string ⟨#[]⟩, .string ⟨#[]⟩, ts.v] 371 rfl
  exact (h5.cast (show _ = row q 258 (preCells ts) * (row p 96 x.cells * (row g 122 cs * (row y.w.heap.size 371 [.int .i64 st, .int .i64 en, .string ⟨#[]⟩, .string ⟨#[]⟩, ts.v] * F))) from by ac_rfl)).drop1

theorem bld_pre (p q g cap : Nat) (st en : Int) (ts : SV) (txt : List Value) : Bld p g cap 256 262 ⟨q, 0, none⟩ st en (row q 258 (preCells ts) * arr 9 1 ts.v ts.len txt)
    (fun d => row d 371 [.int .i64 st, .int .i64 en, .string ⟨#[]⟩, .string ⟨#[]⟩, ts.v] * arr 9 1 ts.v ts.len txt) :=
  ⟨335, fun w => meth_preBuilder_build ⟨q, 0, none⟩ w, fun w => ahead_preBuilder_build ⟨q, 0, none⟩ w, enters_of Tryz.func335 (by kernel_rfl) rfl, fun x w F cs hx h6 h7 hs => by
    refine (preBuild_w p q g cap st en ts (arr 9 1 ts.v ts.len txt * F) x w cs hx h6 h7 (hs.cast (by ac_rfl))).mono ?_
    rintro e w' ⟨d, rfl, h⟩
    exact ⟨d, rfl, h.cast (by ac_rfl)⟩⟩

set_option maxRecDepth 100000 in
set_option maxHeartbeats 1000000 in
theorem closeLeaf_w (p g cap : Nat) (T TB : TypeId) (q : Addr) (b0 s0 e0 inn2 : Value) (inn : SV) (items : List Value) (st en : Int) (junk : List Value) (R : HP) (R' : Nat → HP) (x : PSt) (F : HP) (w : World)
    (hx : x.stack = ⟨some ⟨g, 0, none⟩, 2, cap⟩) (hcap : 2 ≤ cap) (hil : inn.len ≤ 1000000000) (hb : Bld p g cap T TB q st en R R') (hTL : ∀ v w, (Instr.typeAssert (.iface TB v) 70 112 true).run Tryz.prog w = .ok (.tuple #[.pointer none, .bool false]) w)
    (hs : Sat w (row p 96 x.cells * (row g 122 ([b0, inn.v, s0, e0, .iface T (.pointer (some q)), inn2, .int .i64 st, .int .i64 en] ++ junk) * (arr 70 1 inn.v inn.len items * (R * F))))) :
    Calls Tryz.prog 65 #[.pointer (some ⟨p, 0, none⟩)] w fun e w' => (∃ v, e = .returned v) ∧ ∃ (d : Nat) (inn' : SV), inn'.len = inn.len + 1 ∧
      Sat w' (row p 96 { x with stack := ⟨some ⟨g, 0, none⟩, 1, cap⟩ }.cells * (row g 122 ([b0, inn'.v, s0, e0, .iface T (.pointer (some q)), inn2, .int .i64 st, .int .i64 en] ++ junk) *
        (arr 70 1 inn'.v inn'.len (items ++ [.iface TB (.pointer (some ⟨d, 0, none⟩))]) * (R' d * F)))) := by
  obtain ⟨f, hm, hna, hen, hrun⟩ := hb
  obtain ⟨f0, f1, f2, f3, f4, f5, f6, f7, f8, f9, f10, f11, fz, hlp⟩ := PSt.facts hs
  rw [hx] at f4
  clear f0 f1 f2 f3 f5 f6 f7 f8 f9 f10 f11
  have g4 : w.cell? ⟨g, 4, none⟩ = some (.iface T (.pointer (some q))) := hs.swap.cell 4 rfl
  have hlg := hs.swap.row_lt
  have hr2 := hrun x w (arr 70 1 inn.v inn.len items * F) _ hx rfl rfl (hs.cast (by ac_rfl))
  have HR := Lib.hid hrun
  have HS := Lib.hid hs
  have hw1 : IntKind.i64.wrap 1 = 1 := by decide
  clear hs hrun hr2
  go_enter Tryz.func65, Tryz.ntmps65
  go_wp2
  go_quiet (fail)
  go_wp2_with fail
  refine (HR.out x _ (arr 70 1 inn.v inn.len items * F) ([b0, inn.v, s0, e0, .iface T (.pointer (some q)), inn2, .int .i64 st, .int .i64 en] ++ junk) hx rfl rfl ((HS.out.drewN nq).cast (by ac_rfl))).mono ?_
  rintro e w1 ⟨d, rfl, s1⟩
  obtain ⟨f0, f1, f2, f3, f4, f5, f6, f7, f8, f9, f10, f11, fz, hlp⟩ := PSt.facts s1
  rw [hx] at f4
  clear f0 f1 f2 f3 f5 f6 f7 f8 f9 f10 f11
  have s2 := (s1.set 4 (.slice (some ⟨g, 0, none⟩) 1 cap))
  have S2 := Lib.hid s2
  clear s1 s2
  go_wp2
  go_region
  have s3 : Sat ((w1.setCell ⟨p, 4, none⟩ (.slice (some ⟨g, 0, none⟩) 1 cap)).drew) (row p 96 { x with stack := ⟨some ⟨g, 0, none⟩, 1, cap⟩ }.cells * (row g 122 ([b0, inn.v, s0, e0, .iface T (.pointer (some q)), inn2, .int .i64 st, .int .i64 en] ++ junk) * (R' d * (arr 70 1 inn.v inn.len items * F)))) := S2.out
  generalize (w1.setCell ⟨p, 4, none⟩ (.slice (some ⟨g, 0, none⟩) 1 cap)).drew = w2 at s3 ⊢
  clear S2 f4 fz hlp g4 hlg HR HS
  obtain ⟨f0, f1, f2, f3, f4, f5, f6, f7, f8, f9, f10, f11, fz, hlp⟩ := PSt.facts s3
  simp only at f4
  clear f0 f1 f2 f3 f5 f6 f7 f8 f9 f10 f11
  have S3 := Lib.hid s3
  clear s3
  go_wp2
  go_quiet (fail)
  have s4 := S3.out.drewN nq
  generalize w2.drewN nq = w3 at s4 ⊢
  clear S3 f4 fz hlp
  have g1 : w3.cell? ⟨g, 1, none⟩ = some (.slice inn.a inn.len inn.cap) := s4.swap.cell 1 rfl
  have gz := fun i => s4.swap.frozen i
  have hlg := s4.swap.row_lt
  have hlp := s4.row_lt
  have hne := s4.row_ne
  obtain ⟨i0, hi, hz0, hz1, hz2⟩ := info_parts info_Block'
  have hsB := (s4.new [.iface TB (.pointer (some ⟨d, 0, none⟩))] 70 rfl).cast (show _ = arr 70 1 inn.v inn.len items * (row w3.heap.size 70 [.iface TB (.pointer (some ⟨d, 0, none⟩))] * (row p 96 { x with stack := ⟨some ⟨g, 0, none⟩, 1, cap⟩ }.cells *
    (row g 122 ([b0, inn.v, s0, e0, .iface T (.pointer (some q)), inn2, .int .i64 st, .int .i64 en] ++ junk) * (R' d * F)))) from by ac_rfl)
  go_wp2_with (at_builtin; refine wpList_append_sl rfl (.tmp 106) (.tmp 108) 120 rfl 70 i0 _ 1 16 Tryz.underlying120 hi hz0 hz1 hz2 rfl inn.v _ items rfl hsB ⟨w3.heap.size, 0, none⟩ 1 1 [.iface TB (.pointer (some ⟨d, 0, none⟩))] rfl rfl ?c1 ?c2 ?c3 ?c4 (by decide) ?_)
  case c1 => exact cells_new _ _ _
  case c2 => intro u hu; simp at hu; rcases hu with rfl; rfl
  case c3 => unfold maxLen; omega
  case c4 => omega
  intro g2 cap2 w4 hs1 hz1
  have s5 := hs1.cast (show _ = row g 122 ([b0, inn.v, s0, e0, .iface T (.pointer (some q)), inn2, .int .i64 st, .int .i64 en] ++ junk) * (row w3.heap.size 70 [.iface TB (.pointer (some ⟨d, 0, none⟩))] * (row p 96 { x with stack := ⟨some ⟨g, 0, none⟩, 1, cap⟩ }.cells *
    (arr 70 1 (.slice (some ⟨g2, 0, none⟩) (inn.len + 1) cap2) (inn.len + 1) (items ++ [.iface TB (.pointer (some ⟨d, 0, none⟩))]) * (R' d * F)))) from by ac_rfl)
  have k1 : w4.cell? ⟨g, 1, none⟩ = some (.slice inn.a inn.len inn.cap) := s5.cell 1 rfl
  have kz := fun i => s5.frozen i
  have klt := s5.row_lt
  have S5 := Lib.hid s5
  clear hs1 s5 hsB s4
  go_wp2
  go_ret
  refine ⟨⟨_, rfl⟩, d, ⟨some ⟨g2, 0, none⟩, inn.len + 1, cap2⟩, rfl, ?_⟩
  have h5 := S5.out.set 1 (.slice (some ⟨g2, 0, none⟩) (inn.len + 1) cap2)
  exact h5.drop2.swap

end Go.Proofs.YtmdabdpghcjplaaGreatDoor
