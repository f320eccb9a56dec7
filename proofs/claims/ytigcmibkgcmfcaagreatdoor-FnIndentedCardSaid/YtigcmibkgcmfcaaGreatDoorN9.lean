/- newSetextHeading where no paragraph is open. -/
import Derived.Test.YtigcmibkgcmfcaaGreatDoorN8
namespace Go.Proofs.YtigcmibkgcmfcaaGreatDoor
open Go.RowKit Sl

theorem cell_drewN {w : World} {a : Addr} {v : Value} (h : w.cell? a = some v) (m : Nat) : (w.drewN m).cell? a = some v := h

theorem eq_nil_para (w : World) : (binOp .eql 115 .nilIface (.iface 159 (.pointer none))).run Tryz.prog w = .ok (.bool false) w := by kernel_rfl

set_option maxRecDepth 100000 in
set_option maxHeartbeats 1000000 in
theorem nextB_none (p n cap : Nat) (a : Option Addr) (w : World) (hn : n < 1000000000) (h4 : w.cell? ⟨p, 4, none⟩ = some (.slice a (n + 1) cap)) (h5 : w.cell? ⟨p, 5, none⟩ = some (.int .i64 n)) :
    Calls Tryz.prog 131 #[.pointer (some ⟨p, 0, none⟩)] w fun e w' => e = .returned .nilIface ∧ ∃ m, w' = w.drewN m := by
  go_enter Tryz.func131, Tryz.ntmps131
  go_wp2
  go_quiet (fail)
  go_wp2
  go_ret
  exact ⟨rfl, _, rfl⟩

set_option maxRecDepth 100000 in
set_option maxHeartbeats 1000000 in
theorem para_none (p g n cap : Nat) (T : TypeId) (bv : Value) (w : World) (hn : n < 1000000000) (h4 : w.cell? ⟨p, 4, none⟩ = some (.slice (some ⟨g, 0, none⟩) (n + 1) cap)) (h0 : w.cell? ⟨g, n * 4, none⟩ = some (.iface T bv))
    (hT : ∀ w, (Instr.typeAssert (.iface T bv) 115 159 true).run Tryz.prog w = .ok (.tuple #[.pointer none, .bool false]) w) :
    Calls Tryz.prog 91 #[.pointer (some ⟨p, 0, none⟩)] w fun e w' => e = .returned (.pointer none) ∧ ∃ m, w' = w.drewN m := by
  go_enter Tryz.func91, Tryz.ntmps91
  go_wp2
  go_quiet (fail)
  go_wp2
  go_ret
  exact ⟨rfl, _, rfl⟩

set_option maxRecDepth 100000 in
set_option maxHeartbeats 1000000 in
theorem newSetext_not (p g n cap : Nat) (T : TypeId) (bv : Value) (x : Ln) (w : World) (F : HP) (hn : n < 1000000000) (h4 : w.cell? ⟨p, 4, none⟩ = some (.slice (some ⟨g, 0, none⟩) (n + 1) cap)) (h5 : w.cell? ⟨p, 5, none⟩ = some (.int .i64 n))
    (h0 : w.cell? ⟨g, n * 4, none⟩ = some (.iface T bv)) (hT : ∀ w, (Instr.typeAssert (.iface T bv) 115 159 true).run Tryz.prog w = .ok (.tuple #[.pointer none, .bool false]) w) (hs : Sat w F) :
    Calls Tryz.prog 85 #[.pointer (some ⟨p, 0, none⟩), x.agg] w fun e w' => e = .returned (.tuple #[x.agg, .bool false]) ∧ Sat w' F := by
  have h1 : Sat (w.alloc (.cells x.cells.toArray 101)) (row w.heap.size 101 x.cells * F) := hs.new _ _ rfl
  have h2 := h1.new (d := w.heap.size + 1) Ln.zero.cells 101 (by simp)
  have h3 := (h2.new (d := w.heap.size + 2) [.int .i64 0] 3 (by simp)).drop1
  have h6 := (h3.new (d := w.heap.size + 3) x.cells 101 (by simp)).drop1
  have hp : p < w.heap.size := World.block_lt_of_cell? w _ h4
  have hg : g < w.heap.size := World.block_lt_of_cell? w _ h0
  have hb := ((((Below.refl w.heap.size w).alloc (Nat.le_refl _) (.cells x.cells.toArray 101)).alloc (by simp) (.cells Ln.zero.cells.toArray 101)).alloc (by simp; omega) (.cells #[.int .i64 0] 3)).alloc (by simp; omega) (.cells x.cells.toArray 101)
  simp only [Ln.cells, Ln.zero, Int.natCast_zero, UInt8.toNat_zero] at hb h6
  have q4 := (hb.cell (p := ⟨p, 4, none⟩) hp).trans h4
  have q5 := (hb.cell (p := ⟨p, 5, none⟩) hp).trans h5
  have q0 := (hb.cell (p := ⟨g, n * 4, none⟩) hg).trans h0
  have Q4 := Lib.hid q4
  have Q5 := Lib.hid q5
  have Q0 := Lib.hid q0
  have HS := Lib.hid h6
  clear h1 h2 h3 h6 hs hb q4 q5 q0 h4 h5 h0
  have heq := eq_nil_para
  unfold Ln.agg
  go_enter Tryz.func85, Tryz.ntmps85
  go_wp2_with fail
  refine (nextB_none p n cap (some ⟨g, 0, none⟩) _ hn Q4.out Q5.out).mono ?_
  rintro e w1 ⟨rfl, m, rfl⟩
  go_wp2_with fail
  refine (para_none p g n cap T bv _ hn (cell_drewN Q4.out m) (cell_drewN Q0.out m) hT).mono ?_
  rintro e w2 ⟨rfl, m2, rfl⟩
  go_wp2
  refine bodyPost_ret (v := .tuple #[x.agg, .bool false]) (by simp [results, Tryz.results85, go_sem, Ln.agg, *]) rfl ⟨rfl, ?_⟩
  exact ((((((HS.out.drewN _).set 0 _).set 1 _).set 2 _).set 3 _).set 4 _).drop1.drop1

end Go.Proofs.YtigcmibkgcmfcaaGreatDoor
