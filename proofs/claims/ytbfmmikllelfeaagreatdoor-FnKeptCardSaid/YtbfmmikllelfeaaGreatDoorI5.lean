/- Inlines: plain texts next to each other are put together. -/
import Derived.Test.YtbfmmikllelfeaaGreatDoorI3
import Derived.Test.YtbfmmikllelfeaaGreatDoorN8
import Derived.Test.YtbfmmikllelfeaaGreatDoorSk
import Derived.Deep.RegionLaw
namespace Go.Proofs.YtbfmmikllelfeaaGreatDoor
open Go.RowKit Sl

def Tok.isPlain : Tok → Bool
  | .plain _ => true
  | _ => false

theorem tp_hit (d : Addr) (w : World) : (Instr.typeAssert (.iface 218 (.pointer (some d))) 188 218 true).run Tryz.prog w = .ok (.tuple #[.pointer (some d), .bool true]) w := by kernel_rfl

set_option maxRecDepth 100000 in
set_option maxHeartbeats 1000000 in
theorem toPlain_hit (d : Addr) (w : World) : Calls Tryz.prog 178 #[.iface 218 (.pointer (some d))] w fun e w' => e = .returned (.pointer (some d)) ∧ w = w' := by
  have h1 := tp_hit d
  go_enter Tryz.func178, Tryz.ntmps178
  go_wp2
  go_ret
  exact ⟨rfl, rfl⟩

theorem tp_miss {T : TypeId} (d : Addr) (hT : T = 234 ∨ T = 239 ∨ T = 118 ∨ T = 216 ∨ T = 237 ∨ T = 252) (w : World) : (Instr.typeAssert (.iface T (.pointer (some d))) 188 218 true).run Tryz.prog w = .ok (.tuple #[.pointer none, .bool false]) w := by
  rcases hT with rfl | rfl | rfl | rfl | rfl | rfl <;> kernel_rfl

set_option maxRecDepth 100000 in
set_option maxHeartbeats 1000000 in
theorem toPlain_miss {T : TypeId} (d : Nat) (hT : T = 234 ∨ T = 239 ∨ T = 118 ∨ T = 216 ∨ T = 237 ∨ T = 252) (w : World) : Calls Tryz.prog 178 #[.iface T (.pointer (some ⟨d, 0, none⟩))] w fun e w' => e = .returned (.pointer none) ∧ w = w' := by
  have h1 := tp_miss ⟨d, 0, none⟩ hT
  have hI : IsTok (.iface T (.pointer (some ⟨d, 0, none⟩))) := ⟨T, d, by rcases hT with h | h | h | h | h | h <;> simp [h], rfl⟩
  have h2 := hI.noOpen
  have h3 := hI.noEmph
  clear hI hT
  go_enter Tryz.func178, Tryz.ntmps178
  go_wp2
  go_ret
  exact ⟨rfl, rfl⟩

/-- What a token's object answers to toPlain. -/
theorem toPlain_w {v : Value} {t : Tok} {F : HP} (w : World) (hs : Sat w (TokAt v t * F)) :
    (t.isPlain = true ∧ ∃ d : Nat, v = .iface 218 (.pointer (some ⟨d, 0, none⟩)) ∧ ∀ w, Calls Tryz.prog 178 #[v] w fun e w' => e = .returned (.pointer (some ⟨d, 0, none⟩)) ∧ w = w') ∨
    (t.isPlain = false ∧ ∃ (T : TypeId) (d : Nat), v = .iface T (.pointer (some ⟨d, 0, none⟩)) ∧ ∀ w, Calls Tryz.prog 178 #[v] w fun e w' => e = .returned (.pointer none) ∧ w = w') := by
  cases t with
  | plain s =>
    obtain ⟨d, h⟩ := hs.ex
    obtain ⟨rfl, _⟩ := (h.cast (star_assoc _ _ _)).pur
    exact .inl ⟨rfl, d, rfl, fun w => toPlain_hit _ w⟩
  | esc s =>
    obtain ⟨d, h⟩ := hs.ex
    obtain ⟨rfl, _⟩ := (h.cast (star_assoc _ _ _)).pur
    exact .inr ⟨rfl, _, d, rfl, fun w => toPlain_miss d (.inl rfl) w⟩
  | code s =>
    obtain ⟨d, h⟩ := hs.ex
    obtain ⟨rfl, _⟩ := (h.cast (star_assoc _ _ _)).pur
    exact .inr ⟨rfl, _, d, rfl, fun w => toPlain_miss d (.inr (.inl rfl)) w⟩
  | link u t =>
    obtain ⟨x, h⟩ := hs.ex
    obtain ⟨rfl, _⟩ := (h.cast (star_assoc _ _ _)).pur
    exact .inr ⟨rfl, _, x.1, rfl, fun w => toPlain_miss x.1 (.inr (.inr (.inl rfl))) w⟩
  | obj g o =>
    obtain ⟨⟨T, d, hT, rfl⟩, _⟩ := (hs.cast (star_assoc _ _ _)).pur
    exact .inr ⟨rfl, _, d, rfl, fun w => toPlain_miss d hT w⟩

def txts (ts : List Tok) : List UInt8 := ts.flatMap Tok.txt

/-- mergePlain1 at a run of plain texts. -/
def Merges (P : List Tok → Prop) : Prop := ∀ (w : World) (F : HP) (g off cap : Nat) (L vs : List Value) (ts : List Tok), P ts → 1 ≤ ts.length → ts.length ≤ 1000000000 → (∀ t ∈ ts, t.isPlain = true) → (∀ k v, vs[k]? = some v → L[off + k]? = some v) →
  Sat w (row g 188 L * (ToksAt vs ts * F)) →
    Calls Tryz.prog 179 #[.slice (some ⟨g, off, none⟩) ts.length cap] w fun e w' => ∃ d : Nat, e = .returned (.pointer (some ⟨d, 0, none⟩)) ∧ Sat w' (row g 188 L * (TokAt (.iface 218 (.pointer (some ⟨d, 0, none⟩))) (.plain (txts ts)) * F))

set_option maxRecDepth 100000 in
set_option maxHeartbeats 1000000 in
theorem merges_one : Merges (fun r => r.length = 1) := by
  intro w F g off cap L vs ts hP _ _ hpl hL hs
  have hlen := toksAt_len hs.swap
  match ts, hP with
  | [t], _ =>
    match vs, hlen with
    | [v], _ =>
      rw [toksAt_single] at hs
      have hl : L[off]? = some v := by have := hL 0 v rfl; simpa using this
      have c0 : w.cell? ⟨g, off, none⟩ = some v := hs.cell off hl
      rcases toPlain_w w hs.swap with ⟨_, d, rfl, hc⟩ | ⟨hf, _⟩
      · have HC := Lib.hid hc
        have ht : ∃ s, t = .plain s := by
          have := hpl t (by simp)
          cases t with
          | plain s => exact ⟨s, rfl⟩
          | esc s => cases this
          | code s => cases this
          | link u t => cases this
          | obj g o => cases this
        obtain ⟨s, rfl⟩ := ht
        clear hc hpl hL hlen
        show Calls _ _ #[.slice (some ⟨g, off, none⟩) 1 cap] _ _
        go_enter Tryz.func179, Tryz.ntmps179
        go_wp2_with fail
        refine (HC.out w).mono ?_
        rintro e w' ⟨rfl, rfl⟩
        go_wp2
        go_ret
        refine ⟨d, rfl, ?_⟩
        rw [show txts [Tok.plain s] = s from List.append_nil _]
        exact hs
      · rw [hpl t (by simp)] at hf
        cases hf

end Go.Proofs.YtbfmmikllelfeaaGreatDoor

/- Inlines: mergePlain. -/
namespace Go.Proofs.YtbfmmikllelfeaaGreatDoor
open Go.RowKit Sl

theorem mergeT_nonplain {t : Tok} (r : List Tok) (h : t.isPlain = false) : mergeT (t :: r) = t :: mergeT r := by
  cases t with
  | plain s => cases h
  | esc s => rfl
  | code s => rfl
  | link u t => rfl
  | obj g o => rfl

theorem mergeT_run : ∀ (a r : List Tok), (∀ t ∈ a, t.isPlain = true) → (r = [] ∨ ∃ t r', r = t :: r' ∧ t.isPlain = false) → a ≠ [] → mergeT (a ++ r) = .plain (txts a) :: mergeT r
  | [.plain s], r, _, hr, _ => by
    show mergeT (.plain s :: r) = _
    rw [show txts [Tok.plain s] = s from List.append_nil _]
    rcases hr with rfl | ⟨t, r', rfl, ht⟩
    · rfl
    · unfold mergeT
      rw [mergeT_nonplain r' ht]
      cases t with
      | plain s => cases ht
      | esc s => rfl
      | code s => rfl
      | link u t => rfl
      | obj g o => rfl
  | .plain s :: b :: a, r, h, hr, _ => by
    have ih := mergeT_run (b :: a) r (fun t ht => h t (List.mem_cons_of_mem _ ht)) hr (by simp)
    show (match mergeT (b :: a ++ r) with | .plain b :: r' => Tok.plain (s ++ b) :: r' | r' => .plain s :: r') = _
    rw [ih]
    rfl
  | .esc s :: _, _, h, _, _ => by have := h (.esc s) (by simp); cases this
  | .code s :: _, _, h, _, _ => by have := h (.code s) (by simp); cases this
  | .link u t :: _, _, h, _, _ => by have := h (.link u t) (by simp); cases this
  | .obj g o :: _, _, h, _, _ => by have := h (.obj g o) (by simp); cases this

theorem toksAt_split {vs : List Value} {ts : List Tok} (h : vs.length = ts.length) (k : Nat) : ToksAt vs ts = ToksAt (vs.take k) (ts.take k) * ToksAt (vs.drop k) (ts.drop k) := by
  rw [← toksAt_append _ _ _ _ (by simp [h]), List.take_append_drop, List.take_append_drop]

/-- All runs of plain texts are as P says. -/
def Runs (P : List Tok → Prop) (ts : List Tok) : Prop := ∀ s i, s < i → i ≤ ts.length → (∀ t ∈ (ts.take i).drop s, t.isPlain = true) → P ((ts.take i).drop s)

set_option maxRecDepth 100000 in
set_option maxHeartbeats 4000000 in
theorem mergePlain_w (P : List Tok → Prop) (hM : Merges P) (p : Option Addr) (g cap : Nat) (vals junk : List Value) (ts : List Tok) (F : HP) (w : World) (hcap : cap = (vals ++ junk).length) (hv : vals.length ≤ 1000000000) (hR : Runs P ts)
    (hs : Sat w (row g 188 (vals ++ junk) * (ToksAt vals ts * F))) :
    Calls Tryz.prog 126 #[.pointer p, .slice (some ⟨g, 0, none⟩) vals.length cap] w fun e w' => ∃ (k : Nat) (vs' junk' : List Value), e = .returned (.slice (some ⟨g, 0, none⟩) k cap) ∧ k = vs'.length ∧ k ≤ vals.length ∧ cap = (vs' ++ junk').length ∧ Sat w' (row g 188 (vs' ++ junk') * (ToksAt vs' (mergeT ts) * F)) := by
  have hlen := toksAt_len hs.swap
  obtain ⟨n, hn⟩ : ∃ n, n = vals.length := ⟨_, rfl⟩
  have hcap2 : n ≤ cap := by rw [hcap, List.length_append]; omega
  have hn2 : n ≤ 1000000000 := by omega
  -- the state of a round
  obtain ⟨J, hJ⟩ : ∃ J : Nat → Nat → Nat → World → Prop, J = fun k st i wr => k ≤ st ∧ st ≤ i ∧ i ≤ n ∧ (∀ t ∈ (ts.take i).drop st, t.isPlain = true) ∧ ∃ (l ov : List Value) (ot : List Tok), l.length = cap ∧ ov.length = k ∧ l.take k = ov ∧ l.drop st = (vals ++ junk).drop st ∧ mergeT ts = ot ++ mergeT (ts.drop st) ∧
      Sat wr (row g 188 l * (ToksAt ov ot * (ToksAt (vals.drop st) (ts.drop st) * F))) := ⟨_, rfl⟩
  have hJ0 : J 0 0 0 w := by
    rw [hJ]
    refine ⟨Nat.le_refl _, Nat.le_refl _, Nat.zero_le _, by simp, vals ++ junk, [], [], hcap.symm, rfl, rfl, rfl, rfl, ?_⟩
    rw [toksAt_nil, emp_star]
    exact hs
  have hl : vals.length = ts.length := hlen
  -- what stands at a place
  have hat : ∀ k st i wr, J k st i wr → i < n → ∃ v t, vals[i]? = some v ∧ ts[i]? = some t ∧ wr.cell? ⟨g, i, none⟩ = some v ∧
      ((t.isPlain = true ∧ J k st (i + 1) wr ∧ ∃ d : Nat, v = .iface 218 (.pointer (some ⟨d, 0, none⟩)) ∧ ∀ w, Calls Tryz.prog 178 #[v] w fun e w' => e = .returned (.pointer (some ⟨d, 0, none⟩)) ∧ w = w') ∨
       (t.isPlain = false ∧ ∃ (T : TypeId) (d : Nat), v = .iface T (.pointer (some ⟨d, 0, none⟩)) ∧ ∀ w, Calls Tryz.prog 178 #[v] w fun e w' => e = .returned (.pointer none) ∧ w = w')) := by
    intro k st i wr hj hi
    rw [hJ] at hj
    obtain ⟨h1, h2, h3, h4, l, ov, ot, l1, l2, l3, l4, l5, h⟩ := hj
    have hiv : i < vals.length := by omega
    have hit : i < ts.length := by omega
    have hvi : vals[i]? = some vals[i] := by simp [hiv]
    have hti : ts[i]? = some ts[i] := by simp [hit]
    have hli : l[i]? = some vals[i] := by
      have e1 := congrArg (fun x : List Value => x[i - st]?) l4
      simp only [List.getElem?_drop] at e1
      rw [show st + (i - st) = i by omega] at e1
      rw [e1, List.getElem?_append_left hiv, hvi]
    refine ⟨vals[i], ts[i], hvi, hti, h.cell i hli, ?_⟩
    have e2 : ToksAt (vals.drop st) (ts.drop st) = ToksAt ((vals.drop st).take (i - st)) ((ts.drop st).take (i - st)) * (TokAt vals[i] ts[i] * ToksAt (vals.drop (i + 1)) (ts.drop (i + 1))) := by
      rw [toksAt_split (by simp [hl]) (i - st), List.drop_drop, List.drop_drop, show st + (i - st) = i by omega, List.drop_eq_getElem_cons hiv, List.drop_eq_getElem_cons hit]
      rfl
    have h5 : Sat wr (TokAt vals[i] ts[i] * (row g 188 l * (ToksAt ov ot * (ToksAt ((vals.drop st).take (i - st)) ((ts.drop st).take (i - st)) * (ToksAt (vals.drop (i + 1)) (ts.drop (i + 1)) * F))))) := h.cast (by rw [e2]; ac_rfl)
    rcases toPlain_w wr h5 with ⟨a1, d, a2, a3⟩ | ⟨a1, T, d, a2, a3⟩
    · refine .inl ⟨a1, ?_, d, a2, a3⟩
      rw [hJ]
      refine ⟨h1, by omega, by omega, ?_, l, ov, ot, l1, l2, l3, l4, l5, h⟩
      intro t ht
      rw [List.take_succ_eq_append_getElem hit, List.drop_append_of_le_length (by simp; omega)] at ht
      rcases List.mem_append.1 ht with ht | ht
      · exact h4 t ht
      · obtain rfl := List.mem_singleton.1 ht
        exact a1
    · exact .inr ⟨a1, T, d, a2, a3⟩
  -- a run is put together
  have hrun : ∀ k st i wr, J k st i wr → st < i → (i = n ∨ ∃ t, ts[i]? = some t ∧ t.isPlain = false) → ∃ (l : List Value) (F' : Nat → HP), cap = l.length ∧ k < cap ∧
      (Calls Tryz.prog 179 #[.slice (some ⟨g, st, none⟩) (i - st) (cap - st)] wr fun e w' => ∃ d : Nat, e = .returned (.pointer (some ⟨d, 0, none⟩)) ∧ Sat w' (row g 188 l * F' d)) ∧
      ∀ d w', Sat w' (row g 188 (l.set k (.iface 218 (.pointer (some ⟨d, 0, none⟩)))) * F' d) → J (k + 1) i i w' := by
    intro k st i wr hj hsi hend
    have hj' := hj
    rw [hJ] at hj
    obtain ⟨h1, h2, h3, h4, l, ov, ot, l1, l2, l3, l4, l5, h⟩ := hj
    have e2 : ToksAt (vals.drop st) (ts.drop st) = ToksAt ((vals.drop st).take (i - st)) ((ts.take i).drop st) * ToksAt (vals.drop i) (ts.drop i) := by
      rw [toksAt_split (by simp [hl]) (i - st), List.drop_drop, List.drop_drop, show st + (i - st) = i by omega, List.drop_take]
    have hlen2 : ((ts.take i).drop st).length = i - st := by simp; omega
    have h5 : Sat wr (row g 188 l * (ToksAt ((vals.drop st).take (i - st)) ((ts.take i).drop st) * (ToksAt ov ot * (ToksAt (vals.drop i) (ts.drop i) * F)))) := h.cast (by rw [e2]; ac_rfl)
    refine ⟨l, fun d => TokAt (.iface 218 (.pointer (some ⟨d, 0, none⟩))) (.plain (txts ((ts.take i).drop st))) * (ToksAt ov ot * (ToksAt (vals.drop i) (ts.drop i) * F)), l1.symm, by omega, ?_, ?_⟩
    · have := hM wr _ g st (cap - st) l _ ((ts.take i).drop st) (hR st i hsi (by omega) h4) (by omega) (by omega) h4 ?_ h5
      · rw [hlen2] at this
        exact this
      · intro k' v' hk'
        rw [List.getElem?_take] at hk'
        split at hk'
        · next hlt =>
          rw [List.getElem?_drop] at hk'
          have e1 := congrArg (fun x : List Value => x[k']?) l4
          simp only [List.getElem?_drop] at e1
          rw [e1, List.getElem?_append_left (by omega)]
          exact hk'
        · cases hk'
    · intro d w' hs'
      rw [hJ]
      refine ⟨by omega, Nat.le_refl _, h3, by rw [List.drop_eq_nil_of_le (by simp; omega)]; simp, l.set k (.iface 218 (.pointer (some ⟨d, 0, none⟩))), ov ++ [.iface 218 (.pointer (some ⟨d, 0, none⟩))], ot ++ [.plain (txts ((ts.take i).drop st))], by simp [l1], by simp [l2], ?_, ?_, ?_, ?_⟩
      · rw [List.take_succ_eq_append_getElem (by simp; omega), List.take_set_of_le (Nat.le_refl _), l3]
        simp
      · rw [List.drop_set_of_lt (by omega)]
        have e1 := congrArg (fun x : List Value => x.drop (i - st)) l4
        simp only [List.drop_drop] at e1
        rw [show st + (i - st) = i by omega] at e1
        exact e1
      · have e3 : ts.drop st = (ts.take i).drop st ++ ts.drop i := by
          rw [← List.drop_append_of_le_length (by simp; omega), List.take_append_drop]
        rw [l5, e3, mergeT_run _ _ h4 ?_ (by intro e; rw [e] at hlen2; simp at hlen2; omega), List.append_assoc]
        · rfl
        · rcases hend with rfl | ⟨t, ht, hp⟩
          · left; rw [List.drop_eq_nil_of_le (by omega)]
          · right
            obtain ⟨hi', rfl⟩ := List.getElem?_eq_some_iff.1 ht
            exact ⟨_, _, List.drop_eq_getElem_cons hi', hp⟩
      · have hlo : ov.length = ot.length := toksAt_len (h.cast (show _ = ToksAt ov ot * (row g 188 l * (ToksAt (vals.drop st) (ts.drop st) * F)) from by ac_rfl))
        rw [toksAt_append _ _ _ _ hlo, toksAt_single]
        have hs2 : Sat w' (row g 188 (l.set k (.iface 218 (.pointer (some ⟨d, 0, none⟩)))) * (TokAt (.iface 218 (.pointer (some ⟨d, 0, none⟩))) (.plain (txts ((ts.take i).drop st))) * (ToksAt ov ot * (ToksAt (vals.drop i) (ts.drop i) * F)))) := hs'
        refine hs2.cast ?_
        generalize TokAt (.iface 218 (.pointer (some ⟨d, 0, none⟩))) (.plain (txts ((ts.take i).drop st))) = H
        ac_rfl
  -- another token is taken over
  have hone : ∀ k i wr v t, J k i i wr → vals[i]? = some v → ts[i]? = some t → t.isPlain = false → ∃ (l : List Value) (F' : HP), cap = l.length ∧ k < cap ∧ Sat wr (row g 188 l * F') ∧ ∀ w', Sat w' (row g 188 (l.set k v) * F') → J (k + 1) (i + 1) (i + 1) w' := by
    intro k i wr v t hj hv1 ht1 hp
    rw [hJ] at hj
    obtain ⟨h1, h2, h3, h4, l, ov, ot, l1, l2, l3, l4, l5, h⟩ := hj
    obtain ⟨hiv, rfl⟩ := List.getElem?_eq_some_iff.1 hv1
    obtain ⟨hit, rfl⟩ := List.getElem?_eq_some_iff.1 ht1
    refine ⟨l, _, l1.symm, by omega, h, ?_⟩
    intro w' hs'
    rw [hJ]
    refine ⟨by omega, Nat.le_refl _, by omega, by rw [List.drop_eq_nil_of_le (by simp; omega)]; simp, l.set k vals[i], ov ++ [vals[i]], ot ++ [ts[i]], by simp [l1], by simp [l2], ?_, ?_, ?_, ?_⟩
    · rw [List.take_succ_eq_append_getElem (by simp; omega), List.take_set_of_le (Nat.le_refl _), l3]
      simp
    · rw [List.drop_set_of_lt (by omega)]
      have e1 := congrArg (fun x : List Value => x.drop 1) l4
      simp only [List.drop_drop] at e1
      exact e1
    · rw [l5, List.drop_eq_getElem_cons hit, mergeT_nonplain _ hp, List.append_assoc]
      rfl
    · have hlo : ov.length = ot.length := toksAt_len (h.cast (show _ = ToksAt ov ot * (row g 188 l * (ToksAt (vals.drop i) (ts.drop i) * F)) from by ac_rfl))
      rw [toksAt_append _ _ _ _ hlo, toksAt_single]
      refine hs'.cast ?_
      rw [List.drop_eq_getElem_cons hiv, List.drop_eq_getElem_cons hit, toksAt_cons]
      generalize TokAt vals[i] ts[i] = H
      ac_rfl
  have hend : ∀ k wr, J k n n wr → ∃ (vs' junk' : List Value), k = vs'.length ∧ k ≤ n ∧ cap = (vs' ++ junk').length ∧ Sat wr (row g 188 (vs' ++ junk') * (ToksAt vs' (mergeT ts) * F)) := by
    intro k wr hj
    rw [hJ] at hj
    obtain ⟨h1, h2, h3, h4, l, ov, ot, l1, l2, l3, l4, l5, h⟩ := hj
    refine ⟨ov, l.drop k, l2.symm, h1, by rw [← l3, List.take_append_drop, l1], ?_⟩
    have e1 : ts.drop n = [] := List.drop_eq_nil_of_le (by omega)
    have e2 : vals.drop n = [] := List.drop_eq_nil_of_le (by omega)
    rw [e1, e2, toksAt_nil, emp_star] at h
    rw [e1, show mergeT [] = [] from rfl, List.append_nil] at l5
    rw [l5]
    have e3 : ov ++ l.drop k = l := by rw [← l3, List.take_append_drop]
    rw [e3]
    exact h
  obtain ⟨i0, hi0, hz0, hz1, hz2⟩ := info_parts info_Inline
  have HAT := Lib.hid hat
  have HRUN := Lib.hid hrun
  have HONE := Lib.hid hone
  have HEND := Lib.hid hend
  have hle : ∀ k st i wr, J k st i wr → st ≤ i ∧ i ≤ n := by
    intro k st i wr hj
    rw [hJ] at hj
    exact ⟨hj.2.1, hj.2.2.1⟩
  have HLE := Lib.hid hle
  rw [← hn]
  clear hat hrun hone hend hle hJ hcap hs hlen hl hR hM hv hn
  go_enter Tryz.func126, Tryz.ntmps126
  go_wp2
  go_loopw [5, 6, 7] (fun o s i wr => ∃ k st j : Nat, o = .slice (some ⟨g, 0, none⟩) k cap ∧ s = .int .i64 st ∧ i = .int .i64 j ∧ J k st j wr) (fun _ _ i _ => n + 1 - (intOf i).toNat)
  case atStart => exact ⟨0, 0, 0, rfl, rfl, rfl, hJ0⟩
  case round =>
    obtain ⟨k, st, j, rfl, rfl, rfl, hj⟩ := hrel
    obtain ⟨hst, hjn⟩ := HLE.out _ _ _ _ hj
    clear hJ0
    by_cases hlt : j < n
    · obtain ⟨v, t, hv1, ht1, cj, ⟨_, hj2, d, rfl, hc⟩ | ⟨hp, T, d, rfl, hc⟩⟩ := HAT.out _ _ _ _ hj hlt
      · have HC := Lib.hid hc
        clear hc
        go_wp2_with fail
        refine (HC.out wr).mono ?_
        rintro e w' ⟨rfl, rfl⟩
        go_wp2
        go_roundw
        case rel => exact ⟨k, st, j + 1, rfl, rfl, by go_num, hj2⟩
        case measure => simp [intOf]; omega
      · have HC := Lib.hid hc
        clear hc
        by_cases hsi : st < j
        · obtain ⟨l, G1, hc1, hk1, hcall, hfin⟩ := HRUN.out _ _ _ _ hj hsi (.inr ⟨t, ht1, hp⟩)
          have HCALL := Lib.hid hcall
          have HF1 := Lib.hid hfin
          have HC1 := Lib.hid hc1
          clear hcall hfin hc1
          go_wp2_with fail
          refine (HC.out wr).mono ?_
          rintro e w' ⟨rfl, rfl⟩
          go_wp2_with fail
          refine HCALL.out.mono ?_
          rintro e w2 ⟨d2, rfl, s2⟩
          have hB := (s2.new (d := w2.heap.size) [.iface 218 (.pointer (some ⟨d2, 0, none⟩))] 188 rfl).swap
          have HB := Lib.hid hB
          clear hB s2
          go_wp2_with (at_builtin; refine wpList_append_into rfl (.tmp 27) (.tmp 34) 119 rfl 188 i0 Tryz.underlying119 hi0 hz1 g k cap l rfl HB.out HC1.out hk1 ⟨w2.heap.size, 0, none⟩ 1 (.iface 218 (.pointer (some ⟨d2, 0, none⟩))) rfl (HB.out.swap.cell 0 rfl) rfl ?_)
          intro w3 s3 z3
          clear z3
          have hj3 := HF1.out d2 w3 (s3.swap.drop1)
          obtain ⟨l2, G2, hc2, hk2, s5, hfin2⟩ := HONE.out _ _ _ _ _ hj3 hv1 ht1 hp
          have cj2 : w3.cell? ⟨g, j, none⟩ = some (.iface T (.pointer (some ⟨d, 0, none⟩))) := by
            obtain ⟨v', t', hv2, _, cc, _⟩ := HAT.out _ _ _ _ hj3 hlt
            rw [hv1] at hv2
            obtain rfl := Option.some.inj hv2
            exact cc
          have hB2 := (s5.new (d := w3.heap.size) [.iface T (.pointer (some ⟨d, 0, none⟩))] 188 rfl).swap
          have HB2 := Lib.hid hB2
          have HC2 := Lib.hid hc2
          have HF2 := Lib.hid hfin2
          clear hB2 hc2 s5 hfin2
          go_wp2_with (at_builtin; refine wpList_append_into rfl (.tmp 40) (.tmp 45) 119 rfl 188 i0 Tryz.underlying119 hi0 hz1 g (k + 1) cap l2 rfl HB2.out HC2.out hk2 ⟨w3.heap.size, 0, none⟩ 1 (.iface T (.pointer (some ⟨d, 0, none⟩))) rfl (HB2.out.swap.cell 0 rfl) rfl ?_)
          intro w6 s6 _
          have hj6 := HF2.out w6 (s6.swap.drop1)
          go_wp2
          go_roundw
          case rel => exact ⟨(k + 1) + 1, j + 1, j + 1, rfl, by go_num, by go_num, hj6⟩
          case measure => simp [intOf]; omega
        · obtain rfl : st = j := by omega
          obtain ⟨l2, G2, hc2, hk2, s5, hfin2⟩ := HONE.out _ _ _ _ _ hj hv1 ht1 hp
          have cj2 : wr.cell? ⟨g, st, none⟩ = some (.iface T (.pointer (some ⟨d, 0, none⟩))) := by
            obtain ⟨v', t', hv2, _, cc, _⟩ := HAT.out _ _ _ _ hj hlt
            rw [hv1] at hv2
            obtain rfl := Option.some.inj hv2
            exact cc
          have hB2 := (s5.new (d := wr.heap.size) [.iface T (.pointer (some ⟨d, 0, none⟩))] 188 rfl).swap
          have HB2 := Lib.hid hB2
          have HC2 := Lib.hid hc2
          have HF2 := Lib.hid hfin2
          clear hB2 hc2 s5 hfin2
          go_wp2_with fail
          refine (HC.out wr).mono ?_
          rintro e w' ⟨rfl, rfl⟩
          go_wp2_with (at_builtin; refine wpList_append_into rfl (.tmp 40) (.tmp 45) 119 rfl 188 i0 Tryz.underlying119 hi0 hz1 g k cap l2 rfl HB2.out HC2.out hk2 ⟨wr.heap.size, 0, none⟩ 1 (.iface T (.pointer (some ⟨d, 0, none⟩))) rfl (HB2.out.swap.cell 0 rfl) rfl ?_)
          intro w6 s6 _
          have hj6 := HF2.out w6 (s6.swap.drop1)
          go_wp2
          go_roundw
          case rel => exact ⟨k + 1, st + 1, st + 1, rfl, by go_num, by go_num, hj6⟩
          case measure => simp [intOf]; omega
    · obtain rfl : j = n := by omega
      by_cases hsi : st < j
      · obtain ⟨l, G1, hc1, hk1, hcall, hfin⟩ := HRUN.out _ _ _ _ hj hsi (.inl rfl)
        have HCALL := Lib.hid hcall
        have HF1 := Lib.hid hfin
        have HC1 := Lib.hid hc1
        clear hcall hfin hc1
        go_wp2_with fail
        refine HCALL.out.mono ?_
        rintro e w2 ⟨d2, rfl, s2⟩
        have hB := (s2.new (d := w2.heap.size) [.iface 218 (.pointer (some ⟨d2, 0, none⟩))] 188 rfl).swap
        have HB := Lib.hid hB
        clear hB s2
        go_wp2_with (at_builtin; refine wpList_append_into rfl (.tmp 27) (.tmp 34) 119 rfl 188 i0 Tryz.underlying119 hi0 hz1 g k cap l rfl HB.out HC1.out hk1 ⟨w2.heap.size, 0, none⟩ 1 (.iface 218 (.pointer (some ⟨d2, 0, none⟩))) rfl (HB.out.swap.cell 0 rfl) rfl ?_)
        intro w3 s3 z3
        clear z3
        have hj3 := HF1.out d2 w3 (s3.swap.drop1)
        obtain ⟨vs', junk', q1, q2, q3, q4⟩ := HEND.out _ _ hj3
        go_wp2
        go_ret
        exact ⟨k + 1, vs', junk', rfl, q1, q2, q3, q4⟩
      · obtain rfl : st = j := by omega
        obtain ⟨vs', junk', q1, q2, q3, q4⟩ := HEND.out _ _ hj
        go_wp2
        go_ret
        exact ⟨k, vs', junk', rfl, q1, q2, q3, q4⟩

end Go.Proofs.YtbfmmikllelfeaaGreatDoor

/- Inlines: a run of plain texts is put together. -/
namespace Go.Proofs.YtbfmmikllelfeaaGreatDoor
open Go.RowKit Sl

theorem toksAt_plain {w : World} : ∀ {vs : List Value} {ts : List Tok} {F : HP}, Sat w (ToksAt vs ts * F) → (∀ t ∈ ts, t.isPlain = true) → ∀ (k : Nat) v, vs[k]? = some v →
    ∃ (d : Nat) (s : List UInt8), v = .iface 218 (.pointer (some ⟨d, 0, none⟩)) ∧ ts[k]? = some (.plain s) ∧ w.cell? ⟨d, 0, none⟩ = some (.string (B.bs s))
  | [], [], _, _, _, k, v, hv => by simp at hv
  | a :: vs, t :: ts, F, h, hp, 0, v, hv => by
    obtain rfl : a = v := by simpa using hv
    rw [toksAt_cons] at h
    have ht := hp t (by simp)
    cases t with
    | plain s =>
      obtain ⟨d, h2⟩ := (h.cast (star_assoc _ _ _)).ex
      obtain ⟨rfl, h3⟩ := (h2.cast (star_assoc _ _ _)).pur
      exact ⟨d, s, rfl, rfl, h3.cell 0 rfl⟩
    | esc s => cases ht
    | code s => cases ht
    | link u t => cases ht
    | obj g o => cases ht
  | a :: vs, t :: ts, F, h, hp, k + 1, v, hv => by
    rw [toksAt_cons] at h
    obtain ⟨d, s, h1, h2, h3⟩ := toksAt_plain (h.cast (show _ = ToksAt vs ts * (TokAt a t * F) from by ac_rfl)) (fun t ht => hp t (List.mem_cons_of_mem _ ht)) k v (by simpa using hv)
    exact ⟨d, s, h1, by simpa using h2, h3⟩
  | [], _ :: _, _, h, _, _, _, _ => (h.pur).1.elim
  | _ :: _, [], _, h, _, _, _, _ => (h.pur).1.elim

theorem join_flat (xs : List (List UInt8)) : Lib.join xs [] = xs.flatten := by
  unfold Lib.join
  induction xs with
  | nil => rfl
  | cons a t ih =>
    cases t with
    | nil => simp [List.intercalate]
    | cons b r =>
      rw [show List.intercalate [] (a :: b :: r) = a ++ List.intercalate [] (b :: r) from by simp [List.intercalate], ih]
      rfl

theorem txts_flat (ts : List Tok) : txts ts = (ts.map Tok.txt).flatten := by unfold txts; rw [List.flatMap_def]

def strsOf (ts : List Tok) : List Value := ts.map fun t => .string (B.bs t.txt)

set_option maxRecDepth 100000 in
set_option maxHeartbeats 2000000 in
theorem merges_some : Merges (fun r => (txts r).length ≤ 1000000) := by
  intro w F g off cap L vs ts hP h1 hn hpl hL hs
  by_cases hone : ts.length = 1
  · exact merges_one w F g off cap L vs ts hone h1 hn hpl hL hs
  have hlen := toksAt_len hs.swap
  obtain ⟨i0, hi, hz0, hz1, hz2⟩ := info_parts info_string
  obtain ⟨n, hnn⟩ : ∃ n, n = ts.length := ⟨_, rfl⟩
  have hat : ∀ k wr G, k < n → Sat wr (row g 188 L * (ToksAt vs ts * G)) → ∃ (d : Nat) (s : List UInt8), wr.cell? ⟨g, off + k, none⟩ = some (.iface 218 (.pointer (some ⟨d, 0, none⟩))) ∧ wr.cell? ⟨d, 0, none⟩ = some (.string (B.bs s)) ∧ strsOf (ts.take (k + 1)) = strsOf (ts.take k) ++ [.string (B.bs s)] := by
    intro k wr G hk hS
    have hkv : k < vs.length := by omega
    have hkt : k < ts.length := by omega
    obtain ⟨d, s, e1, e2, e3⟩ := toksAt_plain hS.swap hpl k vs[k] (by simp [hkv])
    refine ⟨d, s, ?_, e3, ?_⟩
    · rw [← e1]
      exact hS.cell (off + k) (hL k vs[k] (by simp [hkv]))
    · obtain ⟨_, e4⟩ := List.getElem?_eq_some_iff.1 e2
      unfold strsOf
      rw [List.take_succ_eq_append_getElem hkt, List.map_append, e4]
      rfl
  have hlz : ∀ k, k ≤ n → (strsOf (ts.take k)).length = k := fun k hk => by
    unfold strsOf
    rw [List.length_map, List.length_take]; omega
  have hfin : ∀ (wr : World) (g2 cap2 : Nat) G, n ≤ cap2 → Sat wr (row g2 9 (strsOf ts ++ G)  * (row g 188 L * (ToksAt vs ts * F))) →
      Calls Tryz.prog 232 #[.slice (some ⟨g2, 0, none⟩) n cap2, .string ⟨#[]⟩] wr fun e w' => e = .returned (.string (B.bs (txts ts))) ∧ Below wr.heap.size wr w' := by
    intro wr g2 cap2 G hc2 hS
    have hj := Sk.strings_Join g2 0 cap2 (ts.map fun t => B.bs t.txt) ⟨#[]⟩ wr (by
      intro j x hx
      rw [Nat.zero_add]
      refine hS.cell j ?_
      have hjl : j < (ts.map fun t => B.bs t.txt).length := (List.getElem?_eq_some_iff.1 hx).1
      rw [List.getElem?_append_left (by unfold strsOf; simpa using hjl)]
      unfold strsOf
      rw [List.getElem?_map] at hx ⊢
      cases ht : ts[j]? with
      | none => rw [ht] at hx; cases hx
      | some t =>
        rw [ht] at hx
        obtain rfl : B.bs t.txt = x := by simpa using hx
        rfl) hS.row_lt (by rw [List.length_map]; omega) (by rw [List.length_map]; omega) (by
      show (Lib.join _ []).length ≤ _
      rw [join_flat, List.map_map, show (fun x : ByteArray => x.data.toList) ∘ (fun t : Tok => B.bs t.txt) = Tok.txt from funext fun t => B.bs_data _, ← txts_flat]
      omega)
    have he : (⟨(Lib.join ((ts.map fun t => B.bs t.txt).map (·.data.toList)) (⟨#[]⟩ : ByteArray).data.toList).toArray⟩ : ByteArray) = B.bs (txts ts) := by
      show (⟨(Lib.join _ []).toArray⟩ : ByteArray) = _
      rw [join_flat, List.map_map, show (fun x : ByteArray => x.data.toList) ∘ (fun t : Tok => B.bs t.txt) = Tok.txt from funext fun t => B.bs_data _, ← txts_flat]
      rfl
    rw [he, List.length_map, ← hnn] at hj
    exact hj
  have hs0 : Sat w (arr 9 1 (.slice none 0 0) 0 (strsOf (ts.take 0)) * (row g 188 L * (ToksAt vs ts * F))) := by
    show Sat w (arr 9 1 (.slice none 0 0) 0 [] * _)
    rw [arr_nil, emp_star]
    exact hs
  rw [← hnn] at h1 hn hone
  show Calls _ _ #[.slice (some ⟨g, off, none⟩) ts.length cap] _ _
  rw [← hnn]
  have HA := Lib.hid hat
  have HZ := Lib.hid hlz
  have HF := Lib.hid hfin
  have HN := Lib.hid hnn
  have he1 : ((n : Int) == 1) = false := by simp; omega
  clear hat hlz hfin hnn hlen hpl hL hs hP
  go_enter Tryz.func179, Tryz.ntmps179
  go_wp2
  go_loopw [3, 15] (fun v i wr => ∃ (k : Nat) (sv : SV), k ≤ n ∧ i = .int .i64 k ∧ v = .slice sv.a sv.len sv.cap ∧ sv.len = k ∧ Sat wr (arr 9 1 (.slice sv.a sv.len sv.cap) sv.len (strsOf (ts.take k)) * (row g 188 L * (ToksAt vs ts * F)))) (fun _ i _ => n - (intOf i).toNat)
  case atStart => exact ⟨0, ⟨none, 0, 0⟩, Nat.zero_le _, rfl, rfl, rfl, hs0⟩
  case round =>
    obtain ⟨k, sv, hk, rfl, rfl, hsv, h⟩ := hrel
    clear hs0
    by_cases hlt : k < n
    · obtain ⟨d, s, c1, c2, c3⟩ := HA.out k wr _ hlt (h.cast (show _ = row g 188 L * (ToksAt vs ts * (arr 9 1 (.slice sv.a sv.len sv.cap) sv.len (strsOf (ts.take k)) * F)) from by ac_rfl))
      have C3 := Lib.hid c3
      have H := Lib.hid h
      have hslen : sv.len ≤ 1000000000 := by omega
      have HSV := Lib.hid hsv
      clear c3 h hsv
      have hdl : d < wr.heap.size := World.block_lt_of_cell? wr _ c2
      go_wp2_with fail
      refine (toPlain_hit ⟨d, 0, none⟩ wr).mono ?_
      rintro e w1 ⟨rfl, rfl⟩
      go_wp2_with (at_builtin; refine wpList_append_sl (F := row wr.heap.size 9 [.string (B.bs s)] * (row g 188 L * (ToksAt vs ts * F))) rfl (.tmp 19) (.tmp 25) 31 rfl 9 i0 (.string ⟨#[]⟩) 1 16 Tryz.underlying31 hi hz0 hz1 hz2 rfl (.slice sv.a sv.len sv.cap) sv.len (strsOf (ts.take k)) rfl ?c0 ⟨wr.heap.size, 0, none⟩ 1 1 [.string (B.bs s)] rfl rfl ?c1 ?c2 ?c3 ?c4 (by decide) ?_)
      case c0 => exact (H.out.new (d := wr.heap.size) [.string (B.bs s)] 9 rfl).swap
      case c1 => exact cells_new _ [_] _
      case c2 => intro u hu; simp only [List.mem_singleton] at hu; subst hu; rfl
      case c3 => unfold maxLen; omega
      case c4 => omega
      intro g2 c2' w2 hs2 _
      have H2 := Lib.hid hs2
      clear hs2 H
      go_wp2
      go_roundw
      case rel =>
        refine ⟨k + 1, ⟨some ⟨g2, 0, none⟩, sv.len + 1, c2'⟩, by omega, by go_num, rfl, by rw [HSV.out], ?_⟩
        rw [C3.out]
        exact H2.out.drop2
      case measure => simp [intOf]; omega
    · obtain rfl : k = n := by omega
      rcases h.arr_cases with ⟨_, h0, _, _⟩ | ⟨g2, cap2, junk, hv, q1, q2, q3, q4, hr⟩
      · omega
      obtain ⟨sa, sl, sc⟩ := sv
      simp only at hsv hv h
      injection hv with e1 e2 e3
      subst e1
      subst hsv
      have hcap : sc = cap2 := e3
      subst hcap
      have hT : ts.take sl = ts := by rw [List.take_of_length_le (by rw [← HN.out]; exact Nat.le_refl _)]
      rw [hT] at hr
      have HJ := Lib.hid (HF.out wr g2 sc junk (by omega) hr)
      have HR := Lib.hid hr
      clear h hr q1 q2 q3 q4 HF HZ HA
      go_wp2_with fail
      refine HJ.out.mono ?_
      rintro e w2 ⟨rfl, hb2⟩
      have S2 := Lib.hid (HR.out.ext hb2)
      clear HR HJ hb2
      go_wp2
      go_ret
      refine ⟨w2.heap.size, rfl, ?_⟩
      have s3 := (S2.out.new (d := w2.heap.size) [.string (B.bs (txts ts))] 210 rfl).cast (show _ = row g2 9 (strsOf ts ++ junk) * (ToksAt vs ts * (row w2.heap.size 210 [.string (B.bs (txts ts))] * (row g 188 L * F))) from by ac_rfl)
      have s4 : Sat _ (TokAt (.iface 218 (.pointer (some ⟨w2.heap.size, 0, none⟩))) (.plain (txts ts)) * (row g 188 L * F)) := Sat.ex_mk w2.heap.size (s3.drop1.drop1.cast (by rw [pur_star rfl]))
      exact s4.swap

end Go.Proofs.YtbfmmikllelfeaaGreatDoor

/- A region that draws its order, in a frame of which little is known (a function with many temporaries: the walk's own region tactics read a far slot by too many steps). -/
namespace Go.Proofs.YtbfmmikllelfeaaGreatDoor
open Go.RowKit Sl

theorem abs_frame {C : Act → Prop} (a : Act) (h : ∀ A : Act, A.defers = a.defers → A.tmps.size = a.tmps.size → A.eval (.tmp 0) = a.eval (.tmp 0) → C A) : C a := h a rfl rfl rfl

theorem ev_same {A : Act} {d : Nat} {v : Value} (h : d < A.tmps.size) : (A.put (some d) v).eval (.tmp d) = v := by
  simp [Act.put, Act.eval, h]
theorem ev_ne {A : Act} {d k : Nat} {v : Value} (h : k ≠ d) : (A.put (some d) v).eval (.tmp k) = A.eval (.tmp k) := by
  have h' : d ≠ k := fun e => h e.symm
  simp [Act.put, Act.eval, h']
theorem sz_put {A : Act} {d : Nat} {v : Value} : (A.put (some d) v).tmps.size = A.tmps.size := by simp [Act.put]
theorem df_put {A : Act} {d : Option Tmp} {v : Value} : (A.put d v).defers = A.defers := by cases d <;> rfl

theorem run_gen {P : Program} {o : Oper} {w w' : World} {n : Next} (R : (Operand → Value) → Prop) (ρ0 : Operand → Value) (H : ∀ ρ, R ρ → (execOp ρ o).run P w = .ok n w') (h : R ρ0) : (execOp ρ0 o).run P w = .ok n w' := H _ h

section
variable {P : Program} {md : Region.Mode} {ops : Array Oper} {Q : Exit → Act → World → Prop}

theorem take_at (i d : Nat) {oi : Oper} {v : Value} {fuel : Nat} {listed : Array Bool} {a : Act} {w : World} (hi : ops[i]? = some oi) (hd : oi.dst = some d) (hs : Region.noSelect ops = true) (hf : Region.free md ops listed i = true)
    (hr : (Region.ready md ops listed).contains i = true) (hQ : ∀ c a w, Q (.panic c) (a.put (some d) v) w → Q (.panic c) a w) (hw : Region.wanted oi (yielded ops a.tmps) = true) (hy : ∀ w, (execOp a.eval oi).run P w = .ok (.value v) w)
    (h : wpAny P md ops Q fuel (listed.setIfInBounds i true) (a.put (some d) v) w) : wpAny P md ops Q (fuel + 1) listed a w :=
  wpAny_take hi hs hf hr (by rw [hd]; exact hQ) (.inl ⟨hw, hy⟩) (by rw [hd]; exact h)

/-- What is looked at of an operation: where it writes, what it does. -/
def looksAs (ops : Array Oper) (i : Nat) (d : Option Tmp) (op : Op) (ty : TypeId) : Prop := (ops[i]?).map (fun o => (o.dst, o.op, o.type, o.guard)) = some (d, op, ty, none)

theorem looksAs.get {i : Nat} {d : Option Tmp} {op : Op} {ty : TypeId} (h : looksAs ops i d op ty) : ∃ o, ops[i]? = some o ∧ o.dst = d ∧ o.op = op ∧ o.type = ty ∧ o.guard = none := by
  unfold looksAs at h
  obtain ⟨o, h1, h2⟩ := Option.map_eq_some_iff.1 h
  simp only [Prod.mk.injEq] at h2
  exact ⟨o, h1, h2⟩

theorem allReady_value (i : Nat) {d : Option Tmp} {op : Op} {ty : TypeId} {fuel : Nat} {listed : Array Bool} {a : Act} {w w' : World} {rs : List Nat} {n : Next} (ho : looksAs ops i d op ty) {a' : Act}
    (ha : (∃ v, n = .value v ∧ a' = a.put d v) ∨ (n = .skip ∧ d = none ∧ a' = a)) (hr : ∀ o : Oper, o.op = op → o.type = ty → (execOp a.eval o).run P w = .ok n w')
    (h : wpAny P md ops Q fuel (listed.setIfInBounds i true) a' w') (hs : AllReady P md ops Q fuel listed a w rs) : AllReady P md ops Q fuel listed a w (i :: rs) := by
  obtain ⟨o, h1, rfl, h3, h4, h5⟩ := ho.get
  refine AllReady.cons h1 (fun K hK => ?_) hs
  rw [if_pos (by simp [Region.wanted, h5])]
  unfold Oper.wp
  rw [hr o h3 h4]
  rcases ha with ⟨v, rfl, rfl⟩ | ⟨rfl, hd, rfl⟩
  · exact hK _ _ h
  · show K (a'.put o.dst undef) w'
    rw [hd]
    exact hK _ _ h

theorem allReady_enter (i d : Nat) {op : Op} {ty : TypeId} {fuel : Nat} {listed : Array Bool} {a : Act} {w w' : World} {rs : List Nat} {f : FuncId} {args : Array Value} (ho : looksAs ops i (some d) op ty)
    (hr : ∀ o : Oper, o.op = op → o.type = ty → (execOp a.eval o).run P w = .ok (.enter f args) w')
    (h : Calls P f args w' fun e w'' => ∃ v, e = .returned v ∧ wpAny P md ops Q fuel (listed.setIfInBounds i true) (a.put (some d) v) w'') (hs : AllReady P md ops Q fuel listed a w rs) : AllReady P md ops Q fuel listed a w (i :: rs) := by
  obtain ⟨o, h1, hd, h3, h4, h5⟩ := ho.get
  refine AllReady.cons h1 (fun K hK => ?_) hs
  rw [if_pos (by simp [Region.wanted, h5])]
  unfold Oper.wp
  rw [hr o h3 h4]
  refine h.mono ?_
  rintro e w'' ⟨v, rfl, hv⟩
  show K (a.put o.dst v) w''
  rw [hd]
  exact hK _ _ hv
end

theorem slot_of {A : Act} {k : Nat} {v : Value} (hk : k < A.tmps.size) (h : A.eval (.tmp k) = v) : A.tmps[k]? = some v := by
  subst h
  simp [Act.eval, hk]

theorem run_load9 {p : Nat} {a : Option Addr} {n c k : Nat} {w : World} (hc : w.cell? ⟨p, 9, none⟩ = some (.slice a n c)) (o : Oper) (h1 : o.op = .load 119 (.tmp k)) (ρ : Operand → Value) (hρ : ρ (.tmp k) = .pointer (some ⟨p, 9, none⟩)) :
    (execOp ρ o).run Tryz.prog w = .ok (.value (.slice a n c)) w := by
  obtain ⟨_, op, ty, _, _, _⟩ := o
  simp only at h1
  subst h1
  go_simp

theorem run_slice0 {g : Addr} {n c k : Nat} {w : World} (o : Oper) (h1 : o.op = .slice 119 (.tmp k) none (some (.const (.int .i64 0))) none) (ρ : Operand → Value) (hρ : ρ (.tmp k) = .slice (some g) n c) (h0 : ρ (.const (.int .i64 0)) = .int .i64 0) :
    (execOp ρ o).run Tryz.prog w = .ok (.value (.slice (some g) 0 c)) w := by
  obtain ⟨_, op, ty, _, _, _⟩ := o
  simp only at h1
  subst h1
  go_simp

theorem run_store9 {p : Nat} {a : Option Addr} {n c j k : Nat} {v : Value} {w : World} (hc : w.cell? ⟨p, 9, none⟩ = some v) (hf : w.frozen? ⟨p, 9, none⟩ = false) (o : Oper) (h1 : o.op = .store 119 (.tmp j) (.tmp k)) (ρ : Operand → Value) (hρ : ρ (.tmp j) = .pointer (some ⟨p, 9, none⟩)) (hk : ρ (.tmp k) = .slice a n c) :
    (execOp ρ o).run Tryz.prog w = .ok .skip (w.setCell ⟨p, 9, none⟩ (.slice a n c)) := by
  obtain ⟨_, op, ty, _, _, _⟩ := o
  simp only at h1
  subst h1
  go_simp

theorem run_emph {w : World} {i j k : Nat} {x y z : Value} (o : Oper) (h1 : o.op = .call { callee := .value (.func 125), args := #[.tmp i, .tmp j, .tmp k], argTypes := #[193, 119, 119] }) (ρ : Operand → Value)
    (hi : ρ (.tmp i) = x) (hj : ρ (.tmp j) = y) (hk : ρ (.tmp k) = z) (hf : ρ (.func 125) = .func (.func 125) #[] #[]) : (execOp ρ o).run Tryz.prog w = .ok (.enter 125 #[x, y, z]) w := by
  obtain ⟨_, op, ty, _, _, _⟩ := o
  simp only at h1
  subst h1
  go_simp

end Go.Proofs.YtbfmmikllelfeaaGreatDoor
