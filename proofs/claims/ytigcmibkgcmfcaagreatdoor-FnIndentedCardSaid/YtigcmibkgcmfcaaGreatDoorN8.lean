/- newHR where it starts: the thematic break is laid into the innermost open block. -/
import Derived.Test.YtigcmibkgcmfcaaGreatDoorN7
import Derived.Deep.RegionHeld2
namespace Go.Proofs.YtigcmibkgcmfcaaGreatDoor
open Go.RowKit Sl

set_option maxRecDepth 100000 in
set_option maxHeartbeats 1000000 in
theorem newHR_does (p g n cap : Nat) (l : Ln) (x : PSt) (pre junk items : List Value) (bd : Value) (inn : SV) (st en : Int) (F : HP) (w : World) (hn : n < 1000000000) (hil : inn.len ≤ 1000000000)
    (hd : x.depth = n) (hx : x.stack = ⟨some ⟨g, 0, none⟩, n + 1, cap⟩) (hpre : pre.length = n * 4) (hl : l.OK) (hq : l.hr = true)
    (hs : Sat w (row p 92 x.cells * (row g 118 (pre ++ [bd, inn.v, .int .i64 st, .int .i64 en] ++ junk) * (arr 66 1 inn.v inn.len items * F)))) :
    Calls Tryz.prog 86 #[.pointer (some ⟨p, 0, none⟩), l.agg] w fun e w' =>
      e = .returned (.tuple #[Ln.zero.agg, .bool true]) ∧ ∃ (inn' : SV) (d : Nat), inn'.len = inn.len + 1 ∧
        Sat w' (row p 92 x.cells * (row g 118 (pre ++ [bd, inn'.v, .int .i64 st, .int .i64 en] ++ junk) *
          (arr 66 1 inn'.v inn'.len (items ++ [.iface 236 (.pointer (some ⟨d, 0, none⟩))]) * (row d 238 [.int .i64 x.lineno, .int .i64 x.lineno, .string (B.bs l.str)] * F)))) := by
  have h1 : Sat (w.alloc (.cells l.cells.toArray 101)) (row w.heap.size 101 l.cells * _) := hs.new _ _ rfl
  have h2 := h1.new (d := w.heap.size + 1) Ln.zero.cells 101 (by simp)
  have hQ := fun w F hs => isHR_w l w F hl hs
  rw [hq] at hQ
  have HQ := Lib.hid hQ
  clear hQ hq
  unfold Ln.agg at HQ ⊢
  go_enter Tryz.func86, Tryz.ntmps86
  go_wp2_with fail
  refine (HQ.out _ _ h2).mono ?_
  rintro e w1 ⟨rfl, t1⟩
  obtain ⟨b0, b1, b2, b3, b4, bf⟩ := line_cells t1.swap
  have t3 := t1.third
  have f3 : w1.cell? ⟨p, 3, none⟩ = some (.int .i64 x.lineno) := t3.cell 3 rfl
  have HS := Lib.hid t1
  clear t1 h1 h2 t3 hs
  go_wp2_with fail
  have hlp : p < w1.heap.size := World.block_lt_of_cell? w1 _ f3
  have hT : ∀ m, Sat ((w1.drewN m).alloc (.cells #[.int .i64 x.lineno, .int .i64 x.lineno, .string (B.bs l.str)] 238)) (row p 92 x.cells * (row g 118 (pre ++ [bd, inn.v, .int .i64 st, .int .i64 en] ++ junk) * (arr 66 1 inn.v inn.len items * (row w1.heap.size 238 [.int .i64 x.lineno, .int .i64 x.lineno, .string (B.bs l.str)] * (row (w.heap.size + 1) 101 Ln.zero.cells * F))))) := fun m => by
    have := ((HS.out.swap.drop1.drewN m).new (d := w1.heap.size) [.int .i64 x.lineno, .int .i64 x.lineno, .string (B.bs l.str)] 238 (by simp))
    exact this.cast (by ac_rfl)
  have hK : ∀ m o, ((w1.drewN m).alloc o).cell? ⟨p, 3, none⟩ = some (.int .i64 x.lineno) := fun m o => by
    rw [World.cell?_alloc_lt _ _ _ (by simpa using hlp)]; exact f3
  go_region_held2 (fun w' => w'.cell? ⟨p, 3, none⟩ = some (.int .i64 x.lineno)) (first | assumption | exact hK _ _ | (simp [f3]; done)) (first
    | (go_at_call 124; refine (string_w _ l _ _ hl HS.out.swap.drew).mono ?_; rintro e w2 ⟨rfl, m, rfl⟩)
    | (go_at_call 129; go_loud (refine (doneBlock_w p g n cap 236 _ x pre junk items bd inn st en _ _ hn hil hd hx hpre (hT _)).mono ?_); rintro e w3 ⟨rfl, inn', hle, hs3⟩; have k3 : w3.cell? ⟨p, 3, none⟩ = some (.int .i64 x.lineno) := hs3.cell 3 rfl))
  have hz := hs3.cast (show _ = row (w.heap.size + 1) 101 Ln.zero.cells * (row p 92 x.cells * (row g 118 (pre ++ [bd, inn'.v, .int .i64 st, .int .i64 en] ++ junk) *
          (arr 66 1 inn'.v inn'.len (items ++ [.iface 236 (.pointer (some ⟨w1.heap.size, 0, none⟩))]) * (row w1.heap.size 238 [.int .i64 x.lineno, .int .i64 x.lineno, .string (B.bs l.str)] * F)))) from by ac_rfl)
  obtain ⟨a0, a1, a2, a3, a4, af⟩ := line_cells hz
  have HZ := Lib.hid hz
  clear hz hs3
  go_wp2
  refine bodyPost_ret (v := .tuple #[Ln.zero.agg, .bool true]) (by simp [results, Tryz.results86, go_sem, Ln.agg, Ln.zero, *]) rfl ⟨rfl, inn', w1.heap.size, hle, ?_⟩
  exact (((((HZ.out.set 0 _).set 1 _).set 2 _).set 3 _).set 4 _).drop1

end Go.Proofs.YtigcmibkgcmfcaaGreatDoor
