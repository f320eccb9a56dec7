/- append of one element to a slice with room, in the words of what is owned: the block whole. -/
import Derived.Test.YtmdabdpghcjplaaGreatDoorSl
import Derived.Deep.RegionHeld3
import Derived.Deep.DrawnRows
namespace Go.Proofs.YtmdabdpghcjplaaGreatDoor
open Go.RowKit
namespace Sl

theorem news_one {w : World} {a : Addr} {v : Value} (h : w.cell? a = some v) : ∀ (j : Nat) (u : Value), [v][j]? = some u → w.cell? (a.add j) = some u := by
  intro j u hu
  cases j with
  | zero =>
    obtain rfl : v = u := by simpa using hu
    have hadd : a.add 0 = a := by unfold Addr.add; split <;> simp_all
    rw [hadd]; exact h
  | succ j => simp at hu

theorem run_append_into {P : Program} (w : World) (t ty e : TypeId) (i : TypeInfo) (ht : P.underlying t = some (.slice e)) (hi : P.info? e = some i) (hsize : i.size = 1)
    (g n cap : Nat) (l : List Value) {F : HP} (hown : Sat w (row g e l * F)) (hcap : cap = l.length) (hn : n < cap) (a : Addr) (c : Nat) (v : Value) (hnew : w.cell? a = some v) (h1 : v.oneCell' = true) :
    ∃ w', (Builtin.append_ #[t, t] ty #[.slice (some ⟨g, 0, none⟩) n cap, .slice (some a) 1 c]).run P w = .ok (.slice (some ⟨g, 0, none⟩) (n + 1) cap) w' ∧ Sat w' (row g e (l.set n v) * F) ∧ w'.heap.size = w.heap.size := by
  have hr := run_append_room (P := P) w t ty e i ht hi g n cap _ hown.row_heap a 1 c [v] (by rw [hsize]; rfl) (by
    intro j u hu
    cases j with
    | zero =>
      obtain rfl : v = u := by simpa using hu
      have hadd : a.add 0 = a := by unfold Addr.add; split <;> simp_all
      rw [hadd]; exact hnew
    | succ j => simp at hu) (by intro u hu; obtain rfl := List.mem_singleton.1 hu; exact h1) (by omega) (by rw [hsize, List.size_toArray]; simp; omega)
  refine ⟨_, hr, ?_, by simp⟩
  refine Sat.turn hown rfl ?_ fun k _ hk => setRow_other w g k _ hk
  rw [setRow_heap w g _ _ e _ hown.row_heap, hsize]
  congr 3
  rw [Nat.mul_one]
  simp
  apply List.ext_getElem
  · simp; omega
  · intro k h1 h2
    simp only [List.getElem_set]
    rw [List.getElem_append]
    split
    · next h3 =>
      rw [if_neg (by simp at h3; omega)]
      simp
    · next h3 =>
      have h4 : n ≤ k := by simp at h3; omega
      by_cases hk : k = n
      · subst hk
        rw [if_pos rfl]
        simp [List.length_take, Nat.min_eq_left (by omega : k ≤ l.length)]
      · rw [if_neg (by omega)]
        have e1 : k - (List.take n l).length = (k - n - 1) + 1 := by simp [List.length_take, Nat.min_eq_left (by omega : n ≤ l.length)]; omega
        simp only [e1, List.getElem_cons_succ, List.getElem_drop]
        congr 1
        omega

theorem step_append_into {P : Program} {w : World} {ops : Array Oper} {o : Oper} {a : Act} {K : Act → World → Prop} {Q : Exit → Act → World → Prop} {E : Prop} (hgd : o.guard = none) (s x : Operand) (t : TypeId)
    (ho : o.op = .call { callee := .builtin .append, args := #[s, x], argTypes := #[t, t] })
    (e : TypeId) (i : TypeInfo) (ht : P.underlying t = some (.slice e)) (hi : P.info? e = some i) (hsize : i.size = 1)
    (g n cap : Nat) (l : List Value) (hs : a.eval s = .slice (some ⟨g, 0, none⟩) n cap) {F : HP} (hown : Sat w (row g e l * F)) (hcap : cap = l.length) (hn : n < cap)
    (ad : Addr) (c : Nat) (v : Value) (hx : a.eval x = .slice (some ad) 1 c) (hnew : w.cell? ad = some v) (h1 : v.oneCell' = true)
    (h : ∀ w', Sat w' (row g e (l.set n v) * F) → w'.heap.size = w.heap.size → K (a.put o.dst (.slice (some ⟨g, 0, none⟩) (n + 1) cap)) w') :
    if Region.wanted o (yielded ops a.tmps) = true then Oper.wp P o a w K Q else E := by
  have hw : Region.wanted o (yielded ops a.tmps) = true := by simp [Region.wanted, hgd]
  rw [if_pos hw]
  obtain ⟨w', hr, h2, h3⟩ := run_append_into (P := P) w t o.type e i ht hi hsize g n cap l hown hcap hn ad c v hnew h1
  unfold Oper.wp execOp
  simp only [ho, resolve, invoke, builtin, Sem.run_bind, Sem.run_pure, Result.andThen_ok, List.map_toArray, List.map_cons, List.map_nil, hs, hx, hr]
  exact h w' h2 h3

theorem wpList_append_into {P : Program} {w : World} {ops : Array Oper} {rest : List Oper} {o : Oper} {a : Act} {Q : Exit → Act → World → Prop} (hgd : o.guard = none) (s x : Operand) (t : TypeId)
    (ho : o.op = .call { callee := .builtin .append, args := #[s, x], argTypes := #[t, t] })
    (e : TypeId) (i : TypeInfo) (ht : P.underlying t = some (.slice e)) (hi : P.info? e = some i) (hsize : i.size = 1)
    (g n cap : Nat) (l : List Value) (hs : a.eval s = .slice (some ⟨g, 0, none⟩) n cap) {F : HP} (hown : Sat w (row g e l * F)) (hcap : cap = l.length) (hn : n < cap)
    (ad : Addr) (c : Nat) (v : Value) (hx : a.eval x = .slice (some ad) 1 c) (hnew : w.cell? ad = some v) (h1 : v.oneCell' = true)
    (h : ∀ w', Sat w' (row g e (l.set n v) * F) → w'.heap.size = w.heap.size → wpList P ops Q rest (a.put o.dst (.slice (some ⟨g, 0, none⟩) (n + 1) cap)) w') : wpList P ops Q (o :: rest) a w := by
  refine wpList_plain hgd fun K hK => ?_
  obtain ⟨w', hr, h2, h3⟩ := run_append_into (P := P) w t o.type e i ht hi hsize g n cap l hown hcap hn ad c v hnew h1
  unfold Oper.wp execOp
  simp only [ho, resolve, invoke, builtin, Sem.run_bind, Sem.run_pure, Result.andThen_ok, List.map_toArray, List.map_cons, List.map_nil, hs, hx, hr]
  exact hK _ _ (h w' h2 h3)

end Sl
end Go.Proofs.YtmdabdpghcjplaaGreatDoor
