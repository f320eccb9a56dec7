/- Walks: a document without blocks as a node. -/
import Derived.Test.YtegnaedkalobgaaGreatDoorTop
import Derived.Test.YtegnaedkalobgaaGreatDoorBl
namespace Go.Proofs.YtegnaedkalobgaaGreatDoor
open Go.RowKit Sl

theorem tb_Block_Document (v : Value) (w : World) : (Instr.typeAssert (.iface 37 v) 43 37 true).run Tryz.prog w = .ok (.tuple #[v, .bool true]) w := by kernel_rfl

theorem pos_Document_run (d : Nat) (w : World) :
    (method 499 37 (.pointer (some ⟨d, 0, none⟩)) "Pos").run Tryz.prog w = Sem.run Tryz.prog (.load .plain ⟨d, 0, none⟩ fun x => .load .plain ⟨d, 1, none⟩ fun y => .pure (247, .agg #[x, y])) w := by kernel_rfl

theorem pos_Document (d : Nat) (w : World) (x y : Value) (h0 : w.cell? ⟨d, 0, none⟩ = some x) (h1 : w.cell? ⟨d, 1, none⟩ = some y) :
    (method 499 37 (.pointer (some ⟨d, 0, none⟩)) "Pos").run Tryz.prog w = .ok (247, .agg #[x, y]) w := by
  rw [pos_Document_run]
  simp [Sem.run, h0, h1]

theorem ahead_Document_Pos (a : Addr) (w : World) : (nilAhead 499 37 (.pointer (some a)) "Pos").run Tryz.prog w = .ok (some false) w := by kernel_rfl

set_option maxRecDepth 100000 in
set_option maxHeartbeats 400000 in
theorem Pos_w (st en : Int) (w : World) : Calls Tryz.prog 247 #[.agg #[.int .i64 st, .int .i64 en]] w fun e w' => e = .returned (.agg #[.int .i64 st, .int .i64 en]) ∧ Below w.heap.size w w' := by
  go_enter Tryz.func247, Tryz.ntmps247
  go_wp2
  refine bodyPost_ret (v := .agg #[.int .i64 st, .int .i64 en]) (by simp [results, Tryz.results247, go_sem]) rfl ⟨rfl, ?_⟩
  exact ((Below.refl _ _).alloc (Nat.le_refl _) _).alloc (by simp) _

set_option maxRecDepth 100000 in
set_option maxHeartbeats 400000 in
theorem blocks_nil (w : World) : Calls Tryz.prog 13 #[.slice none 0 0] w fun e w' => e = .returned (.slice none 0 0) ∧ w = w' := by
  go_enter Tryz.func13, Tryz.ntmps13
  go_wp2
  refine wp_loop_once ?_
  go_wp2
  go_ret
  exact ⟨rfl, rfl⟩

set_option maxRecDepth 100000 in
set_option maxHeartbeats 1000000 in
theorem sort_nil (fn : Value) (w : World) : Calls Tryz.prog 15 #[.slice none 0 0, fn] w fun e w' => e = .returned (.tuple #[]) ∧ Below w.heap.size w w' := by
  go_enter Tryz.func15, Tryz.ntmps15
  go_wp2
  refine wp_loop_once ?_
  go_wp2
  refine wp_loop_once ?_
  go_wp2
  go_end0
  go_wp2
  first | go_end0 | refine bodyPost_ret (results_none rfl _ _ _) rfl ?_
  go_wp2
  go_end0
  exact ⟨rfl, Below.refl _ _⟩

theorem next_nil (W : World) (ty : TypeId) (n a b : Nat) (s : Array Nat) (h : n = W.heap.size) :
    (Instr.next (.pointer (some ⟨n, 0, none⟩)) false ty).run Tryz.prog (W.alloc (.mapIter none a s b)) = .ok (.tuple #[.bool false]) (W.alloc (.mapIter none a s b)) := by
  subst h; exact run_next_nilMap W ty a b s

set_option maxRecDepth 100000 in
set_option maxHeartbeats 2000000 in
theorem block_doc_nil (d : Nat) (w : World) (st en : Int) (h0 : w.cell? ⟨d, 0, none⟩ = some (.int .i64 st)) (h1 : w.cell? ⟨d, 1, none⟩ = some (.int .i64 en)) (h2 : w.cell? ⟨d, 2, none⟩ = some (.slice none 0 0)) (h3 : w.cell? ⟨d, 3, none⟩ = some (.map none)) :
    Calls Tryz.prog 9 #[.iface 37 (.pointer (some ⟨d, 0, none⟩))] w fun e w' => e = .returned (.agg #[.int .i64 1, .string ⟨#[]⟩, .string ⟨#[]⟩, .int .i64 0, .string ⟨#[]⟩, .bool false, .slice none 0 0, .slice none 0 0, .int .i64 st, .int .i64 en, .string ⟨#[]⟩, .int .i64 0, .bool false, .bool false, .bool false, .slice none 0 0]) ∧ Below w.heap.size w w' := by
  have hd : d < w.heap.size := World.block_lt_of_cell? w _ h2
  have ta := fun v w => tb_Block_Document v w
  have na := fun w => ahead_Document_Pos ⟨d, 0, none⟩ w
  have pd := fun w x y => pos_Document d w x y
  go_enter Tryz.func9, Tryz.ntmps9
  go_wp2_with fail
  refine (Pos_w st en _).mono ?_
  rintro e w1 ⟨rfl, hb⟩
  simp only [World.size_alloc] at hb
  have hc : ∀ i v, w.cell? ⟨d, i, none⟩ = some v → w1.cell? ⟨d, i, none⟩ = some v := fun i v h => by
    rw [hb.cell (p := ⟨d, i, none⟩) (show d < w.heap.size + 1 by omega)]
    simp [go_sem, hd, h]
  have c0 := hc _ _ h0
  have c1 := hc _ _ h1
  have c2 := hc _ _ h2
  have c3 := hc _ _ h3
  have hd1 : d < w1.heap.size := by have := hb.size; simp at this; omega
  have nd : ¬ d = w1.heap.size := by omega
  have nz : ∀ i, w1.cell? ⟨w.heap.size, i, none⟩ = (#[Value.int .i64 0, .string ⟨#[]⟩, .string ⟨#[]⟩, .int .i64 0, .string ⟨#[]⟩, .bool false, .slice none 0 0, .slice none 0 0, .int .i64 0, .int .i64 0, .string ⟨#[]⟩, .int .i64 0, .bool false, .bool false, .bool false, .slice none 0 0])[i]? := fun i => by
    rw [hb.cell (p := ⟨w.heap.size, i, none⟩) (show w.heap.size < w.heap.size + 1 by omega)]
    exact World.cell?_alloc_new _ _ _ _
  have nf : ∀ i, w1.frozen? ⟨w.heap.size, i, none⟩ = false := fun i => by
    rw [hb.frozen (p := ⟨w.heap.size, i, none⟩) (show w.heap.size < w.heap.size + 1 by omega)]
    exact World.frozen?_alloc_new _ _ _ _
  have nl : w.heap.size < w1.heap.size := by have := hb.size; simp at this; omega
  clear hc
  have rn := fun w => run_range_nilMap (P := Tryz.prog) w 49 9 52 Tryz.underlying49
  go_wp2_with fail
  have rx := fun W ty n a b s => next_nil W ty n a b s
  refine (blocks_nil _).mono ?_
  rintro e w2 ⟨rfl, rfl⟩
  go_wp2_with fail
  refine wp_loop_once ?_
  go_wp2_with fail
  refine (sort_nil _ _).mono ?_
  rintro e w3 ⟨rfl, hb3⟩
  simp only [World.size_alloc] at hb3
  have qs := hb3.size
  simp only [World.size_alloc] at qs
  have q4 : ∀ i, w3.cell? ⟨w1.heap.size + 1, i, none⟩ = (#[Value.int .i64 1, .string ⟨#[]⟩, .string ⟨#[]⟩, .int .i64 0, .string ⟨#[]⟩, .bool false, .slice none 0 0, .slice none 0 0, .int .i64 st, .int .i64 en, .string ⟨#[]⟩, .int .i64 0, .bool false, .bool false, .bool false, .slice none 0 0])[i]? := fun i => by
    rw [hb3.cell (p := ⟨w1.heap.size + 1, i, none⟩) (show w1.heap.size + 1 < w1.heap.size + 1 + 1 + 1 by omega)]
    simp [go_sem]
  have z4 : ∀ i, w3.cell? ⟨w.heap.size, i, none⟩ = (#[Value.int .i64 0, .string ⟨#[]⟩, .string ⟨#[]⟩, .int .i64 0, .string ⟨#[]⟩, .bool false, .slice none 0 0, .slice none 0 0, .int .i64 0, .int .i64 0, .string ⟨#[]⟩, .int .i64 0, .bool false, .bool false, .bool false, .slice none 0 0])[i]? := fun i => by
    rw [hb3.cell (p := ⟨w.heap.size, i, none⟩) (show w.heap.size < w1.heap.size + 1 + 1 + 1 by omega)]
    have l1 : w.heap.size < w1.heap.size + 1 := by omega
    have l2 : w.heap.size < w1.heap.size + 1 + 1 := by omega
    simp [go_sem, nl, l1, l2, nz i]
  have f4 : ∀ i, w3.frozen? ⟨w.heap.size, i, none⟩ = false := fun i => by
    rw [hb3.frozen (p := ⟨w.heap.size, i, none⟩) (show w.heap.size < w1.heap.size + 1 + 1 + 1 by omega)]
    have l1 : w.heap.size < w1.heap.size + 1 := by omega
    have l2 : w.heap.size < w1.heap.size + 1 + 1 := by omega
    simp [go_sem, nl, l1, l2, nf i]
  clear nz nf rx rn c0 c1 c2 c3 h0 h1 h2 h3 pd na ta
  go_wp2
  refine bodyPost_ret (v := .agg #[.int .i64 1, .string ⟨#[]⟩, .string ⟨#[]⟩, .int .i64 0, .string ⟨#[]⟩, .bool false, .slice none 0 0, .slice none 0 0, .int .i64 st, .int .i64 en, .string ⟨#[]⟩, .int .i64 0, .bool false, .bool false, .bool false, .slice none 0 0]) (by simp [results, Tryz.results9, go_sem, z4]) rfl ⟨rfl, ?_⟩
  have b1 : Below w.heap.size w w1 := ((Below.refl w.heap.size w).alloc (Nat.le_refl _) _).trans (hb.mono (by omega))
  have b3 : Below w.heap.size w w3 := (((b1.alloc (by omega) _).alloc (by simp; omega) _).alloc (by simp; omega) _).trans (hb3.mono (by omega))
  have le := Nat.le_refl w.heap.size
  exact (((((((((((((((b3.setCell (p := ⟨w.heap.size, _, none⟩) le _).setCell (p := ⟨w.heap.size, _, none⟩) le _).setCell (p := ⟨w.heap.size, _, none⟩) le _).setCell (p := ⟨w.heap.size, _, none⟩) le _).setCell (p := ⟨w.heap.size, _, none⟩) le _).setCell (p := ⟨w.heap.size, _, none⟩) le _).setCell (p := ⟨w.heap.size, _, none⟩) le _).setCell (p := ⟨w.heap.size, _, none⟩) le _).setCell (p := ⟨w.heap.size, _, none⟩) le _).setCell (p := ⟨w.heap.size, _, none⟩) le _).setCell (p := ⟨w.heap.size, _, none⟩) le _).setCell (p := ⟨w.heap.size, _, none⟩) le _).setCell (p := ⟨w.heap.size, _, none⟩) le _).setCell (p := ⟨w.heap.size, _, none⟩) le _).setCell (p := ⟨w.heap.size, _, none⟩) le _).setCell (p := ⟨w.heap.size, _, none⟩) le _

end Go.Proofs.YtegnaedkalobgaaGreatDoor
