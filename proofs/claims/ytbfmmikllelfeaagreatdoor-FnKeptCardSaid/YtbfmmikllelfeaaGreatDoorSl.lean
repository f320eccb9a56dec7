/- Separation-style words over the model's heap: who owns which block; what a store, a new block, a draw and an append do to it. No program in sight. -/
import Derived.WalkKit
import Derived.WalkSpells
import Derived.WalkLawsBesides
import Derived.Deep.RegionHeld3
import Derived.Deep.DrawnRows
import Derived.Lib.AppendStr
namespace Go.Proofs.YtbfmmikllelfeaaGreatDoor
open Go.RowKit

namespace Sl

structure Env where
  os : Os
  tape : Nat → Question → Nat
  output : Array (Nat × ByteArray)

def env (w : World) : Env := ⟨w.os, w.tape, w.output⟩

def PH : Type := Nat → Option Obj

def HP : Type := Env → PH → Prop

theorem HP.ext {P Q : HP} (h : ∀ e p, P e p ↔ Q e p) : P = Q := funext fun e => funext fun p => propext (h e p)

def join (a b : PH) : PH := fun k => (a k).or (b k)

def apart (a b : PH) : Prop := ∀ k, a k = none ∨ b k = none

def star (P Q : HP) : HP := fun e h => ∃ a b : PH, apart a b ∧ h = join a b ∧ P e a ∧ Q e b

instance : Mul HP := ⟨star⟩

def emp : HP := fun _ h => h = fun _ => none

def own (b : Nat) (o : Obj) : HP := fun _ h => h = fun k => if k = b then some o else none

/-- A block of cells, none frozen, known whole. -/
def row (b : Nat) (t : TypeId) (l : List Value) : HP := own b (.cells l.toArray t (0, 0))

def pur (p : Prop) : HP := fun _ h => p ∧ h = fun _ => none

def ex {α : Type} (P : α → HP) : HP := fun e h => ∃ x, P x e h

theorem mul_def (P Q : HP) : P * Q = star P Q := rfl

theorem join_comm {a b : PH} (h : apart a b) : join a b = join b a := by
  funext k
  rcases h k with h | h <;> simp [join, h]

theorem star_comm (P Q : HP) : P * Q = Q * P := by
  apply HP.ext
  intro e h
  constructor <;> (rintro ⟨a, b, hd, rfl, hp, hq⟩; exact ⟨b, a, fun k => (hd k).symm, join_comm hd, hq, hp⟩)

theorem star_assoc (P Q R : HP) : P * Q * R = P * (Q * R) := by
  apply HP.ext
  intro e h
  constructor
  · rintro ⟨_, c, hd, rfl, ⟨a, b, hd2, rfl, hp, hq⟩, hr⟩
    refine ⟨a, join b c, fun k => ?_, ?_, hp, b, c, fun k => ?_, rfl, hq, hr⟩
    · rcases hd k with h | h
      · simp [join] at h; exact .inl h.1
      · rcases hd2 k with h2 | h2
        · exact .inl h2
        · exact .inr (by simp [join, h, h2])
    · funext k; simp [join, Option.or_assoc]
    · rcases hd k with h | h
      · simp [join] at h; exact .inl h.2
      · exact .inr h
  · rintro ⟨a, _, hd, rfl, hp, b, c, hd2, rfl, hq, hr⟩
    refine ⟨join a b, c, fun k => ?_, ?_, ⟨a, b, fun k => ?_, rfl, hp, hq⟩, hr⟩
    · rcases hd2 k with h2 | h2
      · rcases hd k with h | h
        · exact .inl (by simp [join, h, h2])
        · simp [join] at h; exact .inr h.2
      · exact .inr h2
    · funext k; simp [join, Option.or_assoc]
    · rcases hd k with h | h
      · exact .inl h
      · simp [join] at h; exact .inr h.1

instance : Std.Associative (α := HP) (· * ·) := ⟨star_assoc⟩
instance : Std.Commutative (α := HP) (· * ·) := ⟨star_comm⟩

theorem emp_star (P : HP) : emp * P = P := by
  apply HP.ext
  intro e h
  constructor
  · rintro ⟨a, b, _, rfl, rfl, hq⟩
    have : join (fun _ => none) b = b := by funext k; simp [join]
    rw [this]; exact hq
  · intro hp
    exact ⟨fun _ => none, h, fun _ => .inl rfl, by funext k; simp [join], rfl, hp⟩

theorem star_emp (P : HP) : P * emp = P := by rw [star_comm, emp_star]

theorem left_comm (P Q R : HP) : P * (Q * R) = Q * (P * R) := by rw [← star_assoc, star_comm P Q, star_assoc]

/-- The world holds what P speaks of. -/
def Sat (w : World) (P : HP) : Prop := ∃ h, P (env w) h ∧ ∀ b o, h b = some o → w.heap[b]? = some o

theorem Sat.imp {w : World} {P Q : HP} (h : Sat w P) (hi : ∀ e p, P e p → Q e p) : Sat w Q :=
  let ⟨p, h1, h2⟩ := h; ⟨p, hi _ _ h1, h2⟩

theorem Sat.cast {w : World} {P Q : HP} (h : Sat w P) (e : P = Q) : Sat w Q := e ▸ h

theorem star_imp {P P' Q Q' : HP} (h : ∀ e p, P e p → P' e p) (h' : ∀ e p, Q e p → Q' e p) : ∀ e p, (P * Q) e p → (P' * Q') e p :=
  fun _ _ ⟨a, b, hd, hj, hp, hq⟩ => ⟨a, b, hd, hj, h _ _ hp, h' _ _ hq⟩

theorem Sat.left {w : World} {P Q : HP} (h : Sat w (P * Q)) : Sat w P := by
  obtain ⟨_, ⟨a, b, hd, rfl, hp, hq⟩, hs⟩ := h
  exact ⟨a, hp, fun k o hk => hs k o (by simp [join, hk])⟩

theorem Sat.right {w : World} {P Q : HP} (h : Sat w (P * Q)) : Sat w Q := by
  rw [star_comm] at h; exact h.left

theorem Sat.ex {w : World} {α : Type} {P : α → HP} {F : HP} (h : Sat w (Sl.ex P * F)) : ∃ x, Sat w (P x * F) := by
  obtain ⟨_, ⟨a, b, hd, rfl, ⟨x, hp⟩, hq⟩, hs⟩ := h
  exact ⟨x, _, ⟨a, b, hd, rfl, hp, hq⟩, hs⟩

theorem Sat.ex_mk {w : World} {α : Type} {P : α → HP} {F : HP} (x : α) (h : Sat w (P x * F)) : Sat w (Sl.ex P * F) :=
  h.imp (star_imp (fun _ _ hp => ⟨x, hp⟩) fun _ _ hq => hq)

theorem Sat.pur {w : World} {p : Prop} {F : HP} (h : Sat w (Sl.pur p * F)) : p ∧ Sat w F := by
  obtain ⟨_, ⟨a, b, hd, rfl, ⟨hp, rfl⟩, hq⟩, hs⟩ := h
  exact ⟨hp, b, hq, fun k o hk => hs k o (by simp [join, hk])⟩

theorem pur_star {p : Prop} {F : HP} (hp : p) : Sl.pur p * F = F := by
  have : Sl.pur p = emp := HP.ext fun e h => ⟨fun x => x.2, fun x => ⟨hp, x⟩⟩
  rw [this, emp_star]

theorem Sat.own {w : World} {b : Nat} {o : Obj} {F : HP} (h : Sat w (Sl.own b o * F)) : w.heap[b]? = some o := by
  obtain ⟨_, ⟨a, c, hd, rfl, rfl, hq⟩, hs⟩ := h
  exact hs b o (by simp [join])

theorem Sat.lt {w : World} {b : Nat} {o : Obj} {F : HP} (h : Sat w (Sl.own b o * F)) : b < w.heap.size :=
  (Array.getElem?_eq_some_iff.1 h.own).1

theorem Sat.ne {w : World} {b b' : Nat} {o o' : Obj} {F : HP} (h : Sat w (Sl.own b o * (Sl.own b' o' * F))) : b ≠ b' := by
  obtain ⟨_, ⟨a, c, hd, rfl, rfl, ⟨a', c', hd', rfl, rfl, hq⟩⟩, hs⟩ := h
  intro e
  subst e
  rcases hd b with h | h <;> simp [join] at h

theorem Sat.row_heap {w : World} {b : Nat} {t : TypeId} {l : List Value} {F : HP} (h : Sat w (row b t l * F)) : w.heap[b]? = some (.cells l.toArray t (0, 0)) := h.own

theorem Sat.row_lt {w : World} {b : Nat} {t : TypeId} {l : List Value} {F : HP} (h : Sat w (row b t l * F)) : b < w.heap.size := h.lt

theorem Sat.cell {w : World} {b : Nat} {t : TypeId} {l : List Value} {F : HP} (h : Sat w (row b t l * F)) (i : Nat) {v : Value} (hi : l[i]? = some v) : w.cell? ⟨b, i, none⟩ = some v := by
  simp [World.cell?, h.own, hi]

theorem Sat.frozen {w : World} {b : Nat} {t : TypeId} {l : List Value} {F : HP} (h : Sat w (row b t l * F)) (i : Nat) : w.frozen? ⟨b, i, none⟩ = false := by
  simp [World.frozen?, h.own]

theorem Sat.row_ne {w : World} {b b' : Nat} {t t' : TypeId} {l l' : List Value} {F : HP} (h : Sat w (row b t l * (row b' t' l' * F))) : b ≠ b' := h.ne

/-- A block of the call's own becomes another: whatever else is owned stands. -/
theorem Sat.turn {w w' : World} {b : Nat} {o o' : Obj} {F : HP} (h : Sat w (Sl.own b o * F)) (he : env w' = env w) (hb : w'.heap[b]? = some o')
    (hk : ∀ k, k < w.heap.size → k ≠ b → w'.heap[k]? = w.heap[k]?) : Sat w' (Sl.own b o' * F) := by
  obtain ⟨_, ⟨a, c, hd, rfl, rfl, hq⟩, hs⟩ := h
  refine ⟨join (fun k => if k = b then some o' else none) c, ⟨_, c, fun k => ?_, rfl, rfl, by rw [he]; exact hq⟩, fun k x hx => ?_⟩
  · by_cases e : k = b
    · right
      rcases hd k with h | h
      · simp [e] at h
      · exact h
    · left; simp [e]
  · by_cases e : k = b
    · subst e
      simp [join] at hx
      rw [hb, hx]
    · simp [join, e] at hx
      have := hs k x (by simp [join, e, hx])
      rw [hk k (Array.getElem?_eq_some_iff.1 this).1 e, this]

theorem Sat.set {w : World} {b : Nat} {t : TypeId} {l : List Value} {F : HP} (h : Sat w (row b t l * F)) (i : Nat) (v : Value) : Sat (w.setCell ⟨b, i, none⟩ v) (row b t (l.set i v) * F) := by
  refine Sat.turn h rfl ?_ fun k _ hk => Below.heap_setCell _ _ _ _ hk
  simp [World.setCell, Array.getElem?_modify, h.own]

theorem heap_alloc_other (w : World) (o : Obj) (k : Nat) (x : Obj) (h : w.heap[k]? = some x) : (w.alloc o).heap[k]? = some x := by
  have := (Array.getElem?_eq_some_iff.1 h).1
  rw [Below.heap_alloc _ _ _ this, h]

theorem Sat.alloc {w : World} {P : HP} (h : Sat w P) (o : Obj) : Sat (w.alloc o) (Sl.own w.heap.size o * P) := by
  obtain ⟨p, hp, hs⟩ := h
  refine ⟨join (fun k => if k = w.heap.size then some o else none) p, ⟨_, p, fun k => ?_, rfl, rfl, hp⟩, fun k x hx => ?_⟩
  · by_cases e : k = w.heap.size
    · right
      cases hq : p k with
      | none => rfl
      | some x => have := (Array.getElem?_eq_some_iff.1 (hs k x hq)).1; omega
    · left; simp [e]
  · by_cases e : k = w.heap.size
    · subst e
      simp [join] at hx
      rw [heap_alloc_new, hx]
    · simp [join, e] at hx
      exact heap_alloc_other _ _ _ _ (hs k x hx)

theorem Sat.alloc_row {w : World} {P : HP} (h : Sat w P) (l : List Value) (t : TypeId) : Sat (w.alloc (.cells l.toArray t)) (row w.heap.size t l * P) := h.alloc _

theorem Sat.new {w : World} {P : HP} (h : Sat w P) (l : List Value) (t : TypeId) {d : Nat} (hd : d = w.heap.size) : Sat (w.alloc (.cells l.toArray t)) (row d t l * P) := by
  subst hd; exact h.alloc _

/-- What stands first is let go. -/
theorem Sat.drop1 {w : World} {P Q : HP} (h : Sat w (P * Q)) : Sat w Q := h.right

/-- What stands second is let go. -/
theorem Sat.drop2 {w : World} {P Q R : HP} (h : Sat w (P * (Q * R))) : Sat w (P * R) := by
  rw [left_comm] at h; exact h.right

theorem Sat.swap {w : World} {P Q R : HP} (h : Sat w (P * (Q * R))) : Sat w (Q * (P * R)) := by
  rw [left_comm] at h; exact h

theorem Sat.drew {w : World} {P : HP} (h : Sat w P) : Sat w.drew P := h

theorem Sat.drewN {w : World} {P : HP} (h : Sat w P) (n : Nat) : Sat (w.drewN n) P := h

/-- All that there is, as it is. -/
def old (W : World) : HP := fun e h => e = env W ∧ h = fun k => W.heap[k]?

theorem Sat.old (W : World) : Sat W (Sl.old W) := ⟨fun k => W.heap[k]?, ⟨rfl, rfl⟩, fun _ _ h => h⟩

theorem Sat.below {W w : World} {P : HP} (h : Sat w (P * Sl.old W)) : Below W.heap.size W w := by
  have h' := h.right
  obtain ⟨_, ⟨he, rfl⟩, hs⟩ := h'
  have hb : ∀ k, k < W.heap.size → w.heap[k]? = W.heap[k]? := by
    intro k hk
    rw [hs k W.heap[k] (by simp [hk])]
    simp [hk]
  refine ⟨congrArg Env.os he, congrArg Env.tape he, congrArg Env.output he, ?_, hb⟩
  rcases Nat.lt_or_ge w.heap.size W.heap.size with hlt | hge
  · have := hb w.heap.size hlt
    rw [Array.getElem?_eq_none (Nat.le_refl _)] at this
    have h2 := Array.getElem?_eq_getElem hlt
    rw [← this] at h2
    cases h2
  · exact hge

/-- The slice value v of n elements of type t (sz cells each) owns the cells xs: it is nil and there are none, or it begins at the head of a block that begins with them. -/
def arr (t : TypeId) (sz : Nat) (v : Value) (n : Nat) (xs : List Value) : HP := fun e h =>
  (v = .slice none 0 0 ∧ n = 0 ∧ xs = [] ∧ h = fun _ => none) ∨
  ∃ g cap junk, v = .slice (some ⟨g, 0, none⟩) n cap ∧ xs.length = n * sz ∧ n ≤ cap ∧ cap ≤ maxLen ∧ (xs ++ junk).length = cap * sz ∧ row g t (xs ++ junk) e h

theorem arr_nil (t : TypeId) (sz : Nat) : arr t sz (.slice none 0 0) 0 [] = emp := by
  apply HP.ext; intro e h
  constructor
  · rintro (⟨_, _, _, h⟩ | ⟨g, cap, junk, hv, _⟩)
    · exact h
    · cases hv
  · intro h; exact .inl ⟨rfl, rfl, rfl, h⟩

theorem Sat.arr_cases {w : World} {t : TypeId} {sz : Nat} {v : Value} {n : Nat} {xs : List Value} {F : HP} (h : Sat w (arr t sz v n xs * F)) :
    (v = .slice none 0 0 ∧ n = 0 ∧ xs = [] ∧ Sat w F) ∨
    ∃ g cap junk, v = .slice (some ⟨g, 0, none⟩) n cap ∧ xs.length = n * sz ∧ n ≤ cap ∧ cap ≤ maxLen ∧ (xs ++ junk).length = cap * sz ∧ Sat w (row g t (xs ++ junk) * F) := by
  obtain ⟨_, ⟨a, b, hd, rfl, hp, hq⟩, hs⟩ := h
  rcases hp with ⟨h1, h2, h3, rfl⟩ | ⟨g, cap, junk, h1, h2, h3, h4, h5, h6⟩
  · left
    exact ⟨h1, h2, h3, b, hq, fun k o hk => hs k o (by simp [join, hk])⟩
  · right
    exact ⟨g, cap, junk, h1, h2, h3, h4, h5, _, ⟨a, b, hd, rfl, h6, hq⟩, hs⟩

theorem arr_mk {w : World} {t : TypeId} {sz : Nat} {g n cap : Nat} {xs junk : List Value} {F : HP} (h2 : xs.length = n * sz) (h3 : n ≤ cap) (h4 : cap ≤ maxLen) (h5 : (xs ++ junk).length = cap * sz)
    (h : Sat w (row g t (xs ++ junk) * F)) : Sat w (arr t sz (.slice (some ⟨g, 0, none⟩) n cap) n xs * F) :=
  h.imp (star_imp (fun _ _ hp => .inr ⟨g, cap, junk, rfl, h2, h3, h4, h5, hp⟩) fun _ _ hq => hq)

theorem Sat.arr_length {w : World} {t : TypeId} {sz : Nat} {v : Value} {n : Nat} {xs : List Value} {F : HP} (h : Sat w (arr t sz v n xs * F)) : xs.length = n * sz := by
  rcases h.arr_cases with ⟨_, rfl, rfl, _⟩ | ⟨_, _, _, _, h, _⟩
  · simp
  · exact h

/-- What an append does to an array of the call's own. -/
theorem run_append {P : Program} (w : World) (t ty e : TypeId) (i : TypeInfo) (z : Value) (size bytes : Nat) (ht : P.underlying t = some (.slice e)) (hi : P.info? e = some i) (hz : i.zero = some z)
    (hsize : i.size = size) (hby : i.bytes = bytes) (hzs : z.cells.size = size)
    (v : Value) (n : Nat) (xs : List Value) {F : HP} (hown : Sat w (arr e size v n xs * F))
    (a : Addr) (m c : Nat) (news : List Value) (hl : news.length = m * size) (hnews : ∀ j u, news[j]? = some u → w.cell? (a.add j) = some u) (h1 : ∀ u ∈ news, u.oneCell' = true)
    (h63 : n + m ≤ maxLen) (hbytes : (n + m) * bytes ≤ 140737488355328) (hm0 : 0 < m) :
    ∃ v' w', (Builtin.append_ #[t, t] ty #[v, .slice (some a) m c]).run P w = .ok v' w' ∧ Sat w' (arr e size v' (n + m) (xs ++ news) * F) ∧ w.heap.size ≤ w'.heap.size ∧ ∃ g cap, v' = .slice (some ⟨g, 0, none⟩) (n + m) cap := by
  subst hsize
  subst hby
  have hsmall : n + m ≤ 9223372036854775807 := by simp only [maxLen] at h63; omega
  have hxl := hown.arr_length
  have hlen : (xs ++ news).length = (n + m) * i.size := by rw [List.length_append, hxl, hl, Nat.add_mul]
  have grown : ∀ (old : Nat), Sat w F → old < n + m →
      Sat (w.drew.alloc (.cells (xs.toArray ++ news.toArray ++ Builtin.zeroCells z.cells (grownCap w (n + m) old e - (n + m))) e))
        (arr e i.size (.slice (some ⟨w.heap.size, 0, none⟩) (n + m) (grownCap w (n + m) old e)) (n + m) (xs ++ news) * F) := by
    intro old hF ho
    have hge := grownCap_ge w (n + m) old e
    have hcm : grownCap w (n + m) old e ≤ maxLen := grownCap_le_maxLen w (n + m) old e h63
    refine arr_mk (junk := (Builtin.zeroCells z.cells (grownCap w (n + m) old e - (n + m))).toList) hlen hge hcm ?_ ?_
    · simp only [List.length_append, Array.length_toList, size_zeroCells, hzs, hxl, hl, ← Nat.add_mul]
      congr 1
      omega
    · have := hF.drew.alloc (.cells (xs.toArray ++ news.toArray ++ Builtin.zeroCells z.cells (grownCap w (n + m) old e - (n + m))) e)
      refine this.cast ?_
      unfold row
      congr 3
      simp
  rcases hown.arr_cases with ⟨rfl, rfl, rfl, hF⟩ | ⟨g, cap, junk, rfl, _, hnc, hcm, hcs, hrow⟩
  · have hr := run_append_nil (P := P) w t ty e i z ht hi hz a m c news hl hnews (by omega) (by omega) (by have hb := hbytes; simp only [Nat.zero_add] at hb; omega)
    have hgr := grown 0 hF (by omega)
    simp only [Nat.zero_add, List.nil_append, Array.empty_append] at hgr ⊢
    exact ⟨_, _, hr, hgr, by simp, _, _, rfl⟩
  · have hg := hrow.row_heap
    by_cases hroom : n + m ≤ cap
    · have hfit : n * i.size + news.length ≤ (xs ++ junk).toArray.size := by
        rw [hl, List.size_toArray, hcs, ← Nat.add_mul]; exact Nat.mul_le_mul_right _ hroom
      have hr := run_append_room (P := P) w t ty e i ht hi g n cap _ hg a m c news hl hnews h1 hroom hfit
      refine ⟨_, _, hr, ?_, by simp, _, _, rfl⟩
      refine arr_mk (junk := junk.drop news.length) hlen hroom hcm ?_ ?_
      · simp only [List.length_append, List.length_drop] at hcs hfit ⊢
        simp only [List.size_toArray, List.length_append] at hfit
        omega
      · refine Sat.turn hrow rfl ?_ fun k _ hk => setRow_other w g k _ hk
        rw [setRow_heap w g _ _ e _ hg]
        congr 3
        rw [← hxl]
        simp [List.drop_append]
    · have holds : ∀ j u, xs[j]? = some u → w.cell? ((⟨g, 0, none⟩ : Addr).add j) = some u := by
        intro j u hu
        have hadd : (⟨g, 0, none⟩ : Addr).add j = ⟨g, j, none⟩ := by unfold Addr.add; split <;> simp_all
        rw [hadd]
        exact hrow.cell j (by rw [List.getElem?_append_left (List.getElem?_eq_some_iff.1 hu).1]; exact hu)
      have hr := run_append_grow (P := P) w t ty e i z ht hi hz ⟨g, 0, none⟩ n cap xs hxl holds a m c news hl hnews (by omega) (by omega) (growslice_fits (by omega) hbytes)
      exact ⟨_, _, hr, grown cap hrow.right (by omega), by simp, _, _, rfl⟩

theorem set_mid {cs l junk : List Value} {n i : Nat} (v : Value) (hn : n = cs.length + i) (hi : i < l.length) : (cs ++ l ++ junk).set n v = cs ++ l.set i v ++ junk := by
  subst hn
  rw [List.append_assoc, List.set_append_right _ _ (by omega), List.set_append_left _ _ (by omega), List.append_assoc]
  simp

theorem get_mid {cs l junk : List Value} {n i : Nat} (hn : n = cs.length + i) (hi : i < l.length) : (cs ++ l ++ junk)[n]? = l[i]? := by
  subst hn
  rw [List.append_assoc, List.getElem?_append_right (by omega), List.getElem?_append_left (by omega)]
  simp

theorem cells_new (w : World) (l : List Value) (t : TypeId) : ∀ (j : Nat) (u : Value), l[j]? = some u → (w.alloc (.cells l.toArray t)).cell? ((⟨w.heap.size, 0, none⟩ : Addr).add j) = some u := by
  intro j u hu
  have hadd : (⟨w.heap.size, 0, none⟩ : Addr).add j = ⟨w.heap.size, j, none⟩ := by unfold Addr.add; split <;> simp_all
  rw [hadd, World.cell?_alloc_new]
  simpa using hu

/-- What is known of an array that is not nil. -/
theorem Sat.arr_row {w : World} {t : TypeId} {sz n g cap : Nat} {xs : List Value} {F : HP} (h : Sat w (arr t sz (.slice (some ⟨g, 0, none⟩) n cap) n xs * F)) :
    ∃ junk, xs.length = n * sz ∧ n ≤ cap ∧ cap ≤ maxLen ∧ (xs ++ junk).length = cap * sz ∧ Sat w (row g t (xs ++ junk) * F) := by
  rcases h.arr_cases with ⟨hv, _⟩ | ⟨g', cap', junk, hv, h1, h2, h3, h4, h5⟩
  · cases hv
  · cases hv
    exact ⟨junk, h1, h2, h3, h4, h5⟩

theorem wpList_append_sl {P : Program} {w : World} {ops : Array Oper} {rest : List Oper} {o : Oper} {a : Act} {Q : Exit → Act → World → Prop} (hgd : o.guard = none) (s x : Operand) (t : TypeId)
    (ho : o.op = .call { callee := .builtin .append, args := #[s, x], argTypes := #[t, t] })
    (e : TypeId) (i : TypeInfo) (z : Value) (size bytes : Nat) (ht : P.underlying t = some (.slice e)) (hi : P.info? e = some i) (hz : i.zero = some z)
    (hsize : i.size = size) (hby : i.bytes = bytes) (hzs : z.cells.size = size)
    (v : Value) (n : Nat) (xs : List Value) (hs : a.eval s = v) {F : HP} (hown : Sat w (arr e size v n xs * F))
    (ad : Addr) (m c : Nat) (news : List Value) (hx : a.eval x = .slice (some ad) m c) (hl : news.length = m * size) (hnews : ∀ j u, news[j]? = some u → w.cell? (ad.add j) = some u) (h1 : ∀ u ∈ news, u.oneCell' = true)
    (h63 : n + m ≤ maxLen) (hbytes : (n + m) * bytes ≤ 140737488355328) (hm0 : 0 < m)
    (h : ∀ g cap w', Sat w' (arr e size (.slice (some ⟨g, 0, none⟩) (n + m) cap) (n + m) (xs ++ news) * F) → w.heap.size ≤ w'.heap.size → wpList P ops Q rest (a.put o.dst (.slice (some ⟨g, 0, none⟩) (n + m) cap)) w') : wpList P ops Q (o :: rest) a w := by
  refine wpList_plain hgd fun K hK => ?_
  obtain ⟨v', w', hr, h2, h3, g, cap, rfl⟩ := run_append (P := P) w t o.type e i z size bytes ht hi hz hsize hby hzs v n xs hown ad m c news hl hnews h1 h63 hbytes hm0
  unfold Oper.wp execOp
  simp only [ho, resolve, invoke, builtin, Sem.run_bind, Sem.run_pure, Result.andThen_ok, List.map_toArray, List.map_cons, List.map_nil, hs, hx, hr]
  exact hK _ _ (h g cap w' h2 h3)

end Sl
end Go.Proofs.YtbfmmikllelfeaaGreatDoor

/- append at a step of a region that draws its order, in the words of what is owned. -/
namespace Go.Proofs.YtbfmmikllelfeaaGreatDoor
open Go.RowKit
namespace Sl

theorem step_append_sl {P : Program} {w : World} {ops : Array Oper} {o : Oper} {a : Act} {K : Act → World → Prop} {Q : Exit → Act → World → Prop} {E : Prop} (hgd : o.guard = none) (s x : Operand) (t : TypeId)
    (ho : o.op = .call { callee := .builtin .append, args := #[s, x], argTypes := #[t, t] })
    (e : TypeId) (i : TypeInfo) (z : Value) (size bytes : Nat) (ht : P.underlying t = some (.slice e)) (hi : P.info? e = some i) (hz : i.zero = some z)
    (hsize : i.size = size) (hby : i.bytes = bytes) (hzs : z.cells.size = size)
    (v : Value) (n : Nat) (xs : List Value) (hs : a.eval s = v) {F : HP} (hown : Sat w (arr e size v n xs * F))
    (ad : Addr) (m c : Nat) (news : List Value) (hx : a.eval x = .slice (some ad) m c) (hl : news.length = m * size) (hnews : ∀ j u, news[j]? = some u → w.cell? (ad.add j) = some u) (h1 : ∀ u ∈ news, u.oneCell' = true)
    (h63 : n + m ≤ maxLen) (hbytes : (n + m) * bytes ≤ 140737488355328) (hm0 : 0 < m)
    (h : ∀ g cap w', Sat w' (arr e size (.slice (some ⟨g, 0, none⟩) (n + m) cap) (n + m) (xs ++ news) * F) → w.heap.size ≤ w'.heap.size → K (a.put o.dst (.slice (some ⟨g, 0, none⟩) (n + m) cap)) w') :
    if Region.wanted o (yielded ops a.tmps) = true then Oper.wp P o a w K Q else E := by
  have hw : Region.wanted o (yielded ops a.tmps) = true := by simp [Region.wanted, hgd]
  rw [if_pos hw]
  obtain ⟨v', w', hr, h2, h3, g, cap, rfl⟩ := run_append (P := P) w t o.type e i z size bytes ht hi hz hsize hby hzs v n xs hown ad m c news hl hnews h1 h63 hbytes hm0
  unfold Oper.wp execOp
  simp only [ho, resolve, invoke, builtin, Sem.run_bind, Sem.run_pure, Result.andThen_ok, List.map_toArray, List.map_cons, List.map_nil, hs, hx, hr]
  exact h g cap w' h2 h3

end Sl
end Go.Proofs.YtbfmmikllelfeaaGreatDoor

/- append of one element to a slice with room, in the words of what is owned: the block whole. -/
namespace Go.Proofs.YtbfmmikllelfeaaGreatDoor
open Go.RowKit
namespace Sl

theorem news_one {w : World} {a : Addr} {v : Value} (h : w.cell? a = some v) : ∀ (j : Nat) (u : Value), [v][j]? = some u → w.cell? (a.add j) = some u := by
  intro j u hu
  cases j with
  | zero =>
    obtain rfl : v = u := by simpa using hu
    have hadd : a.add 0 = a := by unfold Addr.add; split <;> simp_all
    rw [hadd]; exact h
  | succ j => simp at hu

theorem run_append_into {P : Program} (w : World) (t ty e : TypeId) (i : TypeInfo) (ht : P.underlying t = some (.slice e)) (hi : P.info? e = some i) (hsize : i.size = 1)
    (g n cap : Nat) (l : List Value) {F : HP} (hown : Sat w (row g e l * F)) (hcap : cap = l.length) (hn : n < cap) (a : Addr) (c : Nat) (v : Value) (hnew : w.cell? a = some v) (h1 : v.oneCell' = true) :
    ∃ w', (Builtin.append_ #[t, t] ty #[.slice (some ⟨g, 0, none⟩) n cap, .slice (some a) 1 c]).run P w = .ok (.slice (some ⟨g, 0, none⟩) (n + 1) cap) w' ∧ Sat w' (row g e (l.set n v) * F) ∧ w'.heap.size = w.heap.size := by
  have hr := run_append_room (P := P) w t ty e i ht hi g n cap _ hown.row_heap a 1 c [v] (by rw [hsize]; rfl) (by
    intro j u hu
    cases j with
    | zero =>
      obtain rfl : v = u := by simpa using hu
      have hadd : a.add 0 = a := by unfold Addr.add; split <;> simp_all
      rw [hadd]; exact hnew
    | succ j => simp at hu) (by intro u hu; obtain rfl := List.mem_singleton.1 hu; exact h1) (by omega) (by rw [hsize, List.size_toArray]; simp; omega)
  refine ⟨_, hr, ?_, by simp⟩
  refine Sat.turn hown rfl ?_ fun k _ hk => setRow_other w g k _ hk
  rw [setRow_heap w g _ _ e _ hown.row_heap, hsize]
  congr 3
  rw [Nat.mul_one]
  simp
  apply List.ext_getElem
  · simp; omega
  · intro k h1 h2
    simp only [List.getElem_set]
    rw [List.getElem_append]
    split
    · next h3 =>
      rw [if_neg (by simp at h3; omega)]
      simp
    · next h3 =>
      have h4 : n ≤ k := by simp at h3; omega
      by_cases hk : k = n
      · subst hk
        rw [if_pos rfl]
        simp [List.length_take, Nat.min_eq_left (by omega : k ≤ l.length)]
      · rw [if_neg (by omega)]
        have e1 : k - (List.take n l).length = (k - n - 1) + 1 := by simp [List.length_take, Nat.min_eq_left (by omega : n ≤ l.length)]; omega
        simp only [e1, List.getElem_cons_succ, List.getElem_drop]
        congr 1
        omega

theorem step_append_into {P : Program} {w : World} {ops : Array Oper} {o : Oper} {a : Act} {K : Act → World → Prop} {Q : Exit → Act → World → Prop} {E : Prop} (hgd : o.guard = none) (s x : Operand) (t : TypeId)
    (ho : o.op = .call { callee := .builtin .append, args := #[s, x], argTypes := #[t, t] })
    (e : TypeId) (i : TypeInfo) (ht : P.underlying t = some (.slice e)) (hi : P.info? e = some i) (hsize : i.size = 1)
    (g n cap : Nat) (l : List Value) (hs : a.eval s = .slice (some ⟨g, 0, none⟩) n cap) {F : HP} (hown : Sat w (row g e l * F)) (hcap : cap = l.length) (hn : n < cap)
    (ad : Addr) (c : Nat) (v : Value) (hx : a.eval x = .slice (some ad) 1 c) (hnew : w.cell? ad = some v) (h1 : v.oneCell' = true)
    (h : ∀ w', Sat w' (row g e (l.set n v) * F) → w'.heap.size = w.heap.size → K (a.put o.dst (.slice (some ⟨g, 0, none⟩) (n + 1) cap)) w') :
    if Region.wanted o (yielded ops a.tmps) = true then Oper.wp P o a w K Q else E := by
  have hw : Region.wanted o (yielded ops a.tmps) = true := by simp [Region.wanted, hgd]
  rw [if_pos hw]
  obtain ⟨w', hr, h2, h3⟩ := run_append_into (P := P) w t o.type e i ht hi hsize g n cap l hown hcap hn ad c v hnew h1
  unfold Oper.wp execOp
  simp only [ho, resolve, invoke, builtin, Sem.run_bind, Sem.run_pure, Result.andThen_ok, List.map_toArray, List.map_cons, List.map_nil, hs, hx, hr]
  exact h w' h2 h3

theorem wpList_append_into {P : Program} {w : World} {ops : Array Oper} {rest : List Oper} {o : Oper} {a : Act} {Q : Exit → Act → World → Prop} (hgd : o.guard = none) (s x : Operand) (t : TypeId)
    (ho : o.op = .call { callee := .builtin .append, args := #[s, x], argTypes := #[t, t] })
    (e : TypeId) (i : TypeInfo) (ht : P.underlying t = some (.slice e)) (hi : P.info? e = some i) (hsize : i.size = 1)
    (g n cap : Nat) (l : List Value) (hs : a.eval s = .slice (some ⟨g, 0, none⟩) n cap) {F : HP} (hown : Sat w (row g e l * F)) (hcap : cap = l.length) (hn : n < cap)
    (ad : Addr) (c : Nat) (v : Value) (hx : a.eval x = .slice (some ad) 1 c) (hnew : w.cell? ad = some v) (h1 : v.oneCell' = true)
    (h : ∀ w', Sat w' (row g e (l.set n v) * F) → w'.heap.size = w.heap.size → wpList P ops Q rest (a.put o.dst (.slice (some ⟨g, 0, none⟩) (n + 1) cap)) w') : wpList P ops Q (o :: rest) a w := by
  refine wpList_plain hgd fun K hK => ?_
  obtain ⟨w', hr, h2, h3⟩ := run_append_into (P := P) w t o.type e i ht hi hsize g n cap l hown hcap hn ad c v hnew h1
  unfold Oper.wp execOp
  simp only [ho, resolve, invoke, builtin, Sem.run_bind, Sem.run_pure, Result.andThen_ok, List.map_toArray, List.map_cons, List.map_nil, hs, hx, hr]
  exact hK _ _ (h w' h2 h3)

end Sl
end Go.Proofs.YtbfmmikllelfeaaGreatDoor

/- append of a text's bytes, in the words of what is owned. -/
namespace Go.Proofs.YtbfmmikllelfeaaGreatDoor
open Go.RowKit
namespace Sl

theorem run_append_str {P : Program} (w : World) (t u ty e : TypeId) (i : TypeInfo) (ht : P.underlying t = some (.slice e)) (hu : P.underlying u = some .string) (hi : P.info? e = some i) (hz : i.zero = some (.int .u8 0))
    (hsize : i.size = 1) (hby : i.bytes = 1) (v : Value) (n : Nat) (xs : List Value) {F : HP} (hown : Sat w (arr e 1 v n xs * F)) (s : ByteArray) (h0 : 0 < s.size) (hlim : n + s.size ≤ 140737488355328) :
    ∃ g cap w', (Builtin.append_ #[t, u] ty #[v, .string s]).run P w = .ok (.slice (some ⟨g, 0, none⟩) (n + s.size) cap) w' ∧ Sat w' (arr e 1 (.slice (some ⟨g, 0, none⟩) (n + s.size) cap) (n + s.size) (xs ++ Lib.strCells s) * F) := by
  have hxl := hown.arr_length
  rw [Nat.mul_one] at hxl
  have hsl : (Lib.strCells s).length = s.size := Lib.strCells_length s
  have hmax : n + s.size ≤ maxLen := by unfold maxLen; omega
  have hlen : (xs ++ Lib.strCells s).length = (n + s.size) * 1 := by rw [List.length_append, hxl, hsl]; omega
  rcases hown.arr_cases with ⟨rfl, rfl, rfl, hF⟩ | ⟨g, cap, junk, rfl, _, hnc, hcm, hcs, hrow⟩
  · have hr := run_append_nil_string (P := P) w t u ty e i _ ht hu hi hz s h0 (by omega) (by rw [hby]; omega)
    rw [Nat.zero_add]
    refine ⟨_, _, _, hr, ?_⟩
    have hge := grownCap_ge w s.size 0 e
    refine arr_mk (junk := (Builtin.zeroCells (Value.int .u8 0).cells (grownCap w s.size 0 e - s.size)).toList) (by simpa using hlen) hge (grownCap_le_maxLen w s.size 0 e (by unfold maxLen; omega)) ?_ ?_
    · simp only [List.nil_append, List.length_append, Array.length_toList, size_zeroCells, hsl]
      rw [show (Value.int .u8 0).cells.size = 1 from rfl]
      omega
    · have := hF.drew.alloc (.cells (s.data.map (fun b => Value.int .u8 b.toNat) ++ Builtin.zeroCells (Value.int .u8 0).cells (grownCap w s.size 0 e - s.size)) e)
      refine this.cast ?_
      unfold row
      congr 3
      simp [Lib.strCells]
  · rw [Nat.mul_one] at hcs
    by_cases hroom : n + s.size ≤ cap
    · have hr := Lib.run_append_room_string (P := P) w t u ty e i ht hu hi hsize g n cap _ hrow.row_heap s hroom (by simp only [List.size_toArray, hcs]; omega)
      refine ⟨_, _, _, hr, ?_⟩
      refine arr_mk (junk := junk.drop s.size) hlen hroom hcm ?_ ?_
      · simp only [List.length_append, List.length_drop, hsl] at hcs ⊢
        omega
      · refine Sat.turn hrow rfl ?_ fun k _ hk => setRow_other w g k _ hk
        rw [setRow_heap w g _ _ e _ hrow.row_heap]
        congr 3
        rw [← hxl]
        simp [List.drop_append]
    · have holds : ∀ j u, xs[j]? = some u → w.cell? ((⟨g, 0, none⟩ : Addr).add j) = some u := by
        intro j u hu
        have hadd : (⟨g, 0, none⟩ : Addr).add j = ⟨g, j, none⟩ := by unfold Addr.add; split <;> simp_all
        rw [hadd]
        exact hrow.cell j (by rw [List.getElem?_append_left (List.getElem?_eq_some_iff.1 hu).1]; exact hu)
      have hr := Lib.run_append_grow_string (P := P) w t u ty e i _ ht hu hi hz ⟨g, 0, none⟩ n cap xs (by rw [hsize]; omega) holds s (by omega) (by omega) (growslice_fits (by omega) (by rw [hby]; omega))
      refine ⟨_, _, _, hr, ?_⟩
      have hge := grownCap_ge w (n + s.size) cap e
      refine arr_mk (junk := (Builtin.zeroCells (Value.int .u8 0).cells (grownCap w (n + s.size) cap e - (n + s.size))).toList) hlen hge (grownCap_le_maxLen w (n + s.size) cap e hmax) ?_ ?_
      · simp only [List.length_append, Array.length_toList, size_zeroCells, hsl, hxl]
        rw [show (Value.int .u8 0).cells.size = 1 from rfl]
        omega
      · have := hrow.right.drew.alloc (.cells (xs.toArray ++ (Lib.strCells s).toArray ++ Builtin.zeroCells (Value.int .u8 0).cells (grownCap w (n + s.size) cap e - (n + s.size))) e)
        refine this.cast ?_
        unfold row
        congr 3
        simp

theorem wpList_append_str {P : Program} {w : World} {ops : Array Oper} {rest : List Oper} {o : Oper} {a : Act} {Q : Exit → Act → World → Prop} (hgd : o.guard = none) (s x : Operand) (t u : TypeId)
    (ho : o.op = .call { callee := .builtin .append, args := #[s, x], argTypes := #[t, u] })
    (e : TypeId) (i : TypeInfo) (ht : P.underlying t = some (.slice e)) (hu : P.underlying u = some .string) (hi : P.info? e = some i) (hz : i.zero = some (.int .u8 0)) (hsize : i.size = 1) (hby : i.bytes = 1)
    (v : Value) (n : Nat) (xs : List Value) (hs : a.eval s = v) {F : HP} (hown : Sat w (arr e 1 v n xs * F)) (str : ByteArray) (hx : a.eval x = .string str) (h0 : 0 < str.size) (hlim : n + str.size ≤ 140737488355328)
    (h : ∀ g cap w', Sat w' (arr e 1 (.slice (some ⟨g, 0, none⟩) (n + str.size) cap) (n + str.size) (xs ++ Lib.strCells str) * F) → wpList P ops Q rest (a.put o.dst (.slice (some ⟨g, 0, none⟩) (n + str.size) cap)) w') : wpList P ops Q (o :: rest) a w := by
  refine wpList_plain hgd fun K hK => ?_
  obtain ⟨g, cap, w', hr, h2⟩ := run_append_str (P := P) w t u o.type e i ht hu hi hz hsize hby v n xs hown str h0 hlim
  unfold Oper.wp execOp
  simp only [ho, resolve, invoke, builtin, Sem.run_bind, Sem.run_pure, Result.andThen_ok, List.map_toArray, List.map_cons, List.map_nil, hs, hx, hr]
  exact hK _ _ (h g cap w' h2)

end Sl
end Go.Proofs.YtbfmmikllelfeaaGreatDoor
