/- append of a text's bytes, in the words of what is owned. -/
import Derived.Test.YtmdabdpghcjplaaGreatDoorSl
import Derived.Lib.AppendStr
namespace Go.Proofs.YtmdabdpghcjplaaGreatDoor
open Go.RowKit
namespace Sl

theorem run_append_str {P : Program} (w : World) (t u ty e : TypeId) (i : TypeInfo) (ht : P.underlying t = some (.slice e)) (hu : P.underlying u = some .string) (hi : P.info? e = some i) (hz : i.zero = some (.int .u8 0))
    (hsize : i.size = 1) (hby : i.bytes = 1) (v : Value) (n : Nat) (xs : List Value) {F : HP} (hown : Sat w (arr e 1 v n xs * F)) (s : ByteArray) (h0 : 0 < s.size) (hlim : n + s.size ≤ 140737488355328) :
    ∃ g cap w', (Builtin.append_ #[t, u] ty #[v, .string s]).run P w = .ok (.slice (some ⟨g, 0, none⟩) (n + s.size) cap) w' ∧ Sat w' (arr e 1 (.slice (some ⟨g, 0, none⟩) (n + s.size) cap) (n + s.size) (xs ++ Lib.strCells s) * F) := by
  have hxl := hown.arr_length
  rw [Nat.mul_one] at hxl
  have hsl : (Lib.strCells s).length = s.size := Lib.strCells_length s
  have hmax : n + s.size ≤ maxLen := by unfold maxLen; omega
  have hlen : (xs ++ Lib.strCells s).length = (n + s.size) * 1 := by rw [List.length_append, hxl, hsl]; omega
  rcases hown.arr_cases with ⟨rfl, rfl, rfl, hF⟩ | ⟨g, cap, junk, rfl, _, hnc, hcm, hcs, hrow⟩
  · have hr := run_append_nil_string (P := P) w t u ty e i _ ht hu hi hz s h0 (by omega) (by rw [hby]; omega)
    rw [Nat.zero_add]
    refine ⟨_, _, _, hr, ?_⟩
    have hge := grownCap_ge w s.size 0 e
    refine arr_mk (junk := (Builtin.zeroCells (Value.int .u8 0).cells (grownCap w s.size 0 e - s.size)).toList) (by simpa using hlen) hge (grownCap_le_maxLen w s.size 0 e (by unfold maxLen; omega)) ?_ ?_
    · simp only [List.nil_append, List.length_append, Array.length_toList, size_zeroCells, hsl]
      rw [show (Value.int .u8 0).cells.size = 1 from rfl]
      omega
    · have := hF.drew.alloc (.cells (s.data.map (fun b => Value.int .u8 b.toNat) ++ Builtin.zeroCells (Value.int .u8 0).cells (grownCap w s.size 0 e - s.size)) e)
      refine this.cast ?_
      unfold row
      congr 3
      simp [Lib.strCells]
  · rw [Nat.mul_one] at hcs
    by_cases hroom : n + s.size ≤ cap
    · have hr := Lib.run_append_room_string (P := P) w t u ty e i ht hu hi hsize g n cap _ hrow.row_heap s hroom (by simp only [List.size_toArray, hcs]; omega)
      refine ⟨_, _, _, hr, ?_⟩
      refine arr_mk (junk := junk.drop s.size) hlen hroom hcm ?_ ?_
      · simp only [List.length_append, List.length_drop, hsl] at hcs ⊢
        omega
      · refine Sat.turn hrow rfl ?_ fun k _ hk => setRow_other w g k _ hk
        rw [setRow_heap w g _ _ e _ hrow.row_heap]
        congr 3
        rw [← hxl]
        simp [List.drop_append]
    · have holds : ∀ j u, xs[j]? = some u → w.cell? ((⟨g, 0, none⟩ : Addr).add j) = some u := by
        intro j u hu
        have hadd : (⟨g, 0, none⟩ : Addr).add j = ⟨g, j, none⟩ := by unfold Addr.add; split <;> simp_all
        rw [hadd]
        exact hrow.cell j (by rw [List.getElem?_append_left (List.getElem?_eq_some_iff.1 hu).1]; exact hu)
      have hr := Lib.run_append_grow_string (P := P) w t u ty e i _ ht hu hi hz ⟨g, 0, none⟩ n cap xs (by rw [hsize]; omega) holds s (by omega) (by omega) (growslice_fits (by omega) (by rw [hby]; omega))
      refine ⟨_, _, _, hr, ?_⟩
      have hge := grownCap_ge w (n + s.size) cap e
      refine arr_mk (junk := (Builtin.zeroCells (Value.int .u8 0).cells (grownCap w (n + s.size) cap e - (n + s.size))).toList) hlen hge (grownCap_le_maxLen w (n + s.size) cap e hmax) ?_ ?_
      · simp only [List.length_append, Array.length_toList, size_zeroCells, hsl, hxl]
        rw [show (Value.int .u8 0).cells.size = 1 from rfl]
        omega
      · have := hrow.right.drew.alloc (.cells (xs.toArray ++ (Lib.strCells s).toArray ++ Builtin.zeroCells (Value.int .u8 0).cells (grownCap w (n + s.size) cap e - (n + s.size))) e)
        refine this.cast ?_
        unfold row
        congr 3
        simp

theorem wpList_append_str {P : Program} {w : World} {ops : Array Oper} {rest : List Oper} {o : Oper} {a : Act} {Q : Exit → Act → World → Prop} (hgd : o.guard = none) (s x : Operand) (t u : TypeId)
    (ho : o.op = .call { callee := .builtin .append, args := #[s, x], argTypes := #[t, u] })
    (e : TypeId) (i : TypeInfo) (ht : P.underlying t = some (.slice e)) (hu : P.underlying u = some .string) (hi : P.info? e = some i) (hz : i.zero = some (.int .u8 0)) (hsize : i.size = 1) (hby : i.bytes = 1)
    (v : Value) (n : Nat) (xs : List Value) (hs : a.eval s = v) {F : HP} (hown : Sat w (arr e 1 v n xs * F)) (str : ByteArray) (hx : a.eval x = .string str) (h0 : 0 < str.size) (hlim : n + str.size ≤ 140737488355328)
    (h : ∀ g cap w', Sat w' (arr e 1 (.slice (some ⟨g, 0, none⟩) (n + str.size) cap) (n + str.size) (xs ++ Lib.strCells str) * F) → wpList P ops Q rest (a.put o.dst (.slice (some ⟨g, 0, none⟩) (n + str.size) cap)) w') : wpList P ops Q (o :: rest) a w := by
  refine wpList_plain hgd fun K hK => ?_
  obtain ⟨g, cap, w', hr, h2⟩ := run_append_str (P := P) w t u o.type e i ht hu hi hz hsize hby v n xs hown str h0 hlim
  unfold Oper.wp execOp
  simp only [ho, resolve, invoke, builtin, Sem.run_bind, Sem.run_pure, Result.andThen_ok, List.map_toArray, List.map_cons, List.map_nil, hs, hx, hr]
  exact hK _ _ (h g cap w' h2)

end Sl
end Go.Proofs.YtmdabdpghcjplaaGreatDoor
