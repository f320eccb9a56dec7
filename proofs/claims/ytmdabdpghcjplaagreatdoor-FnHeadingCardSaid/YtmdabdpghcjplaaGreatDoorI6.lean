/- Inlines: mergePlain. -/
import Derived.Test.YtmdabdpghcjplaaGreatDoorI5
namespace Go.Proofs.YtmdabdpghcjplaaGreatDoor
open Go.RowKit Sl

theorem mergeT_nonplain {t : Tok} (r : List Tok) (h : t.isPlain = false) : mergeT (t :: r) = t :: mergeT r := by
  cases t with
  | plain s => cases h
  | esc s => rfl
  | code s => rfl

theorem mergeT_run : ∀ (a r : List Tok), (∀ t ∈ a, t.isPlain = true) → (r = [] ∨ ∃ t r', r = t :: r' ∧ t.isPlain = false) → a ≠ [] → mergeT (a ++ r) = .plain (txts a) :: mergeT r
  | [.plain s], r, _, hr, _ => by
    show mergeT (.plain s :: r) = _
    rw [show txts [Tok.plain s] = s from List.append_nil _]
    rcases hr with rfl | ⟨t, r', rfl, ht⟩
    · rfl
    · unfold mergeT
      rw [mergeT_nonplain r' ht]
      cases t with
      | plain s => cases ht
      | esc s => rfl
      | code s => rfl
  | .plain s :: b :: a, r, h, hr, _ => by
    have ih := mergeT_run (b :: a) r (fun t ht => h t (List.mem_cons_of_mem _ ht)) hr (by simp)
    show (match mergeT (b :: a ++ r) with | .plain b :: r' => Tok.plain (s ++ b) :: r' | r' => .plain s :: r') = _
    rw [ih]
    rfl
  | .esc s :: _, _, h, _, _ => by have := h (.esc s) (by simp); cases this
  | .code s :: _, _, h, _, _ => by have := h (.code s) (by simp); cases this

theorem toksAt_split {vs : List Value} {ts : List Tok} (h : vs.length = ts.length) (k : Nat) : ToksAt vs ts = ToksAt (vs.take k) (ts.take k) * ToksAt (vs.drop k) (ts.drop k) := by
  rw [← toksAt_append _ _ _ _ (by simp [h]), List.take_append_drop, List.take_append_drop]

/-- All runs of plain texts have lengths as P says. -/
def Runs (P : Nat → Prop) (ts : List Tok) : Prop := ∀ s i, s < i → i ≤ ts.length → (∀ t ∈ (ts.take i).drop s, t.isPlain = true) → P (i - s)

set_option maxRecDepth 100000 in
set_option maxHeartbeats 4000000 in
theorem mergePlain_w (P : Nat → Prop) (hM : Merges P) (p : Option Addr) (g cap : Nat) (vals junk : List Value) (ts : List Tok) (F : HP) (w : World) (hcap : cap = (vals ++ junk).length) (hv : vals.length ≤ 1000000000) (hR : Runs P ts)
    (hs : Sat w (row g 133 (vals ++ junk) * (ToksAt vals ts * F))) :
    Calls Tryz.prog 84 #[.pointer p, .slice (some ⟨g, 0, none⟩) vals.length cap] w fun e w' => ∃ (k : Nat) (vs' junk' : List Value), e = .returned (.slice (some ⟨g, 0, none⟩) k cap) ∧ k = vs'.length ∧ k ≤ vals.length ∧ cap = (vs' ++ junk').length ∧ Sat w' (row g 133 (vs' ++ junk') * (ToksAt vs' (mergeT ts) * F)) := by
  have hlen := toksAt_len hs.swap
  obtain ⟨n, hn⟩ : ∃ n, n = vals.length := ⟨_, rfl⟩
  have hcap2 : n ≤ cap := by rw [hcap, List.length_append]; omega
  have hn2 : n ≤ 1000000000 := by omega
  -- the state of a round
  obtain ⟨J, hJ⟩ : ∃ J : Nat → Nat → Nat → World → Prop, J = fun k st i wr => k ≤ st ∧ st ≤ i ∧ i ≤ n ∧ (∀ t ∈ (ts.take i).drop st, t.isPlain = true) ∧ ∃ (l ov : List Value) (ot : List Tok), l.length = cap ∧ ov.length = k ∧ l.take k = ov ∧ l.drop st = (vals ++ junk).drop st ∧ mergeT ts = ot ++ mergeT (ts.drop st) ∧
      Sat wr (row g 133 l * (ToksAt ov ot * (ToksAt (vals.drop st) (ts.drop st) * F))) := ⟨_, rfl⟩
  have hJ0 : J 0 0 0 w := by
    rw [hJ]
    refine ⟨Nat.le_refl _, Nat.le_refl _, Nat.zero_le _, by simp, vals ++ junk, [], [], hcap.symm, rfl, rfl, rfl, rfl, ?_⟩
    rw [toksAt_nil, emp_star]
    exact hs
  have hl : vals.length = ts.length := hlen
  -- what stands at a place
  have hat : ∀ k st i wr, J k st i wr → i < n → ∃ v t, vals[i]? = some v ∧ ts[i]? = some t ∧ wr.cell? ⟨g, i, none⟩ = some v ∧
      ((t.isPlain = true ∧ J k st (i + 1) wr ∧ ∃ d : Nat, v = .iface 157 (.pointer (some ⟨d, 0, none⟩)) ∧ ∀ w, Calls Tryz.prog 123 #[v] w fun e w' => e = .returned (.pointer (some ⟨d, 0, none⟩)) ∧ w = w') ∨
       (t.isPlain = false ∧ ∃ (T : TypeId) (d : Nat), v = .iface T (.pointer (some ⟨d, 0, none⟩)) ∧ ∀ w, Calls Tryz.prog 123 #[v] w fun e w' => e = .returned (.pointer none) ∧ w = w')) := by
    intro k st i wr hj hi
    rw [hJ] at hj
    obtain ⟨h1, h2, h3, h4, l, ov, ot, l1, l2, l3, l4, l5, h⟩ := hj
    have hiv : i < vals.length := by omega
    have hit : i < ts.length := by omega
    have hvi : vals[i]? = some vals[i] := by simp [hiv]
    have hti : ts[i]? = some ts[i] := by simp [hit]
    have hli : l[i]? = some vals[i] := by
      have e1 := congrArg (fun x : List Value => x[i - st]?) l4
      simp only [List.getElem?_drop] at e1
      rw [show st + (i - st) = i by omega] at e1
      rw [e1, List.getElem?_append_left hiv, hvi]
    refine ⟨vals[i], ts[i], hvi, hti, h.cell i hli, ?_⟩
    have e2 : ToksAt (vals.drop st) (ts.drop st) = ToksAt ((vals.drop st).take (i - st)) ((ts.drop st).take (i - st)) * (TokAt vals[i] ts[i] * ToksAt (vals.drop (i + 1)) (ts.drop (i + 1))) := by
      rw [toksAt_split (by simp [hl]) (i - st), List.drop_drop, List.drop_drop, show st + (i - st) = i by omega, List.drop_eq_getElem_cons hiv, List.drop_eq_getElem_cons hit]
      rfl
    have h5 : Sat wr (TokAt vals[i] ts[i] * (row g 133 l * (ToksAt ov ot * (ToksAt ((vals.drop st).take (i - st)) ((ts.drop st).take (i - st)) * (ToksAt (vals.drop (i + 1)) (ts.drop (i + 1)) * F))))) := h.cast (by rw [e2]; ac_rfl)
    rcases toPlain_w wr h5 with ⟨a1, d, a2, a3⟩ | ⟨a1, T, d, a2, a3⟩
    · refine .inl ⟨a1, ?_, d, a2, a3⟩
      rw [hJ]
      refine ⟨h1, by omega, by omega, ?_, l, ov, ot, l1, l2, l3, l4, l5, h⟩
      intro t ht
      rw [List.take_succ_eq_append_getElem hit, List.drop_append_of_le_length (by simp; omega)] at ht
      rcases List.mem_append.1 ht with ht | ht
      · exact h4 t ht
      · obtain rfl := List.mem_singleton.1 ht
        exact a1
    · exact .inr ⟨a1, T, d, a2, a3⟩
  -- a run is put together
  have hrun : ∀ k st i wr, J k st i wr → st < i → (i = n ∨ ∃ t, ts[i]? = some t ∧ t.isPlain = false) → ∃ (l : List Value) (F' : Nat → HP), cap = l.length ∧ k < cap ∧
      (Calls Tryz.prog 124 #[.slice (some ⟨g, st, none⟩) (i - st) (cap - st)] wr fun e w' => ∃ d : Nat, e = .returned (.pointer (some ⟨d, 0, none⟩)) ∧ Sat w' (row g 133 l * F' d)) ∧
      ∀ d w', Sat w' (row g 133 (l.set k (.iface 157 (.pointer (some ⟨d, 0, none⟩)))) * F' d) → J (k + 1) i i w' := by
    intro k st i wr hj hsi hend
    have hj' := hj
    rw [hJ] at hj
    obtain ⟨h1, h2, h3, h4, l, ov, ot, l1, l2, l3, l4, l5, h⟩ := hj
    have e2 : ToksAt (vals.drop st) (ts.drop st) = ToksAt ((vals.drop st).take (i - st)) ((ts.take i).drop st) * ToksAt (vals.drop i) (ts.drop i) := by
      rw [toksAt_split (by simp [hl]) (i - st), List.drop_drop, List.drop_drop, show st + (i - st) = i by omega, List.drop_take]
    have hlen2 : ((ts.take i).drop st).length = i - st := by simp; omega
    have h5 : Sat wr (row g 133 l * (ToksAt ((vals.drop st).take (i - st)) ((ts.take i).drop st) * (ToksAt ov ot * (ToksAt (vals.drop i) (ts.drop i) * F)))) := h.cast (by rw [e2]; ac_rfl)
    refine ⟨l, fun d => TokAt (.iface 157 (.pointer (some ⟨d, 0, none⟩))) (.plain (txts ((ts.take i).drop st))) * (ToksAt ov ot * (ToksAt (vals.drop i) (ts.drop i) * F)), l1.symm, by omega, ?_, ?_⟩
    · have := hM wr _ g st (cap - st) l _ ((ts.take i).drop st) (by rw [hlen2]; exact hR st i hsi (by omega) h4) (by omega) (by omega) h4 ?_ h5
      · rw [hlen2] at this
        exact this
      · intro k' v' hk'
        rw [List.getElem?_take] at hk'
        split at hk'
        · next hlt =>
          rw [List.getElem?_drop] at hk'
          have e1 := congrArg (fun x : List Value => x[k']?) l4
          simp only [List.getElem?_drop] at e1
          rw [e1, List.getElem?_append_left (by omega)]
          exact hk'
        · cases hk'
    · intro d w' hs'
      rw [hJ]
      refine ⟨by omega, Nat.le_refl _, h3, by rw [List.drop_eq_nil_of_le (by simp; omega)]; simp, l.set k (.iface 157 (.pointer (some ⟨d, 0, none⟩))), ov ++ [.iface 157 (.pointer (some ⟨d, 0, none⟩))], ot ++ [.plain (txts ((ts.take i).drop st))], by simp [l1], by simp [l2], ?_, ?_, ?_, ?_⟩
      · rw [List.take_succ_eq_append_getElem (by simp; omega), List.take_set_of_le (Nat.le_refl _), l3]
        simp
      · rw [List.drop_set_of_lt (by omega)]
        have e1 := congrArg (fun x : List Value => x.drop (i - st)) l4
        simp only [List.drop_drop] at e1
        rw [show st + (i - st) = i by omega] at e1
        exact e1
      · have e3 : ts.drop st = (ts.take i).drop st ++ ts.drop i := by
          rw [← List.drop_append_of_le_length (by simp; omega), List.take_append_drop]
        rw [l5, e3, mergeT_run _ _ h4 ?_ (by intro e; rw [e] at hlen2; simp at hlen2; omega), List.append_assoc]
        · rfl
        · rcases hend with rfl | ⟨t, ht, hp⟩
          · left; rw [List.drop_eq_nil_of_le (by omega)]
          · right
            obtain ⟨hi', rfl⟩ := List.getElem?_eq_some_iff.1 ht
            exact ⟨_, _, List.drop_eq_getElem_cons hi', hp⟩
      · have hlo : ov.length = ot.length := toksAt_len (h.cast (show _ = ToksAt ov ot * (row g 133 l * (ToksAt (vals.drop st) (ts.drop st) * F)) from by ac_rfl))
        rw [toksAt_append _ _ _ _ hlo, toksAt_single]
        have hs2 : Sat w' (row g 133 (l.set k (.iface 157 (.pointer (some ⟨d, 0, none⟩)))) * (TokAt (.iface 157 (.pointer (some ⟨d, 0, none⟩))) (.plain (txts ((ts.take i).drop st))) * (ToksAt ov ot * (ToksAt (vals.drop i) (ts.drop i) * F)))) := hs'
        refine hs2.cast ?_
        generalize TokAt (.iface 157 (.pointer (some ⟨d, 0, none⟩))) (.plain (txts ((ts.take i).drop st))) = H
        ac_rfl
  -- another token is taken over
  have hone : ∀ k i wr v t, J k i i wr → vals[i]? = some v → ts[i]? = some t → t.isPlain = false → ∃ (l : List Value) (F' : HP), cap = l.length ∧ k < cap ∧ Sat wr (row g 133 l * F') ∧ ∀ w', Sat w' (row g 133 (l.set k v) * F') → J (k + 1) (i + 1) (i + 1) w' := by
    intro k i wr v t hj hv1 ht1 hp
    rw [hJ] at hj
    obtain ⟨h1, h2, h3, h4, l, ov, ot, l1, l2, l3, l4, l5, h⟩ := hj
    obtain ⟨hiv, rfl⟩ := List.getElem?_eq_some_iff.1 hv1
    obtain ⟨hit, rfl⟩ := List.getElem?_eq_some_iff.1 ht1
    refine ⟨l, _, l1.symm, by omega, h, ?_⟩
    intro w' hs'
    rw [hJ]
    refine ⟨by omega, Nat.le_refl _, by omega, by rw [List.drop_eq_nil_of_le (by simp; omega)]; simp, l.set k vals[i], ov ++ [vals[i]], ot ++ [ts[i]], by simp [l1], by simp [l2], ?_, ?_, ?_, ?_⟩
    · rw [List.take_succ_eq_append_getElem (by simp; omega), List.take_set_of_le (Nat.le_refl _), l3]
      simp
    · rw [List.drop_set_of_lt (by omega)]
      have e1 := congrArg (fun x : List Value => x.drop 1) l4
      simp only [List.drop_drop] at e1
      exact e1
    · rw [l5, List.drop_eq_getElem_cons hit, mergeT_nonplain _ hp, List.append_assoc]
      rfl
    · have hlo : ov.length = ot.length := toksAt_len (h.cast (show _ = ToksAt ov ot * (row g 133 l * (ToksAt (vals.drop i) (ts.drop i) * F)) from by ac_rfl))
      rw [toksAt_append _ _ _ _ hlo, toksAt_single]
      refine hs'.cast ?_
      rw [List.drop_eq_getElem_cons hiv, List.drop_eq_getElem_cons hit, toksAt_cons]
      generalize TokAt vals[i] ts[i] = H
      ac_rfl
  have hend : ∀ k wr, J k n n wr → ∃ (vs' junk' : List Value), k = vs'.length ∧ k ≤ n ∧ cap = (vs' ++ junk').length ∧ Sat wr (row g 133 (vs' ++ junk') * (ToksAt vs' (mergeT ts) * F)) := by
    intro k wr hj
    rw [hJ] at hj
    obtain ⟨h1, h2, h3, h4, l, ov, ot, l1, l2, l3, l4, l5, h⟩ := hj
    refine ⟨ov, l.drop k, l2.symm, h1, by rw [← l3, List.take_append_drop, l1], ?_⟩
    have e1 : ts.drop n = [] := List.drop_eq_nil_of_le (by omega)
    have e2 : vals.drop n = [] := List.drop_eq_nil_of_le (by omega)
    rw [e1, e2, toksAt_nil, emp_star] at h
    rw [e1, show mergeT [] = [] from rfl, List.append_nil] at l5
    rw [l5]
    have e3 : ov ++ l.drop k = l := by rw [← l3, List.take_append_drop]
    rw [e3]
    exact h
  obtain ⟨i0, hi0, hz0, hz1, hz2⟩ := info_parts info_Inline
  have HAT := Lib.hid hat
  have HRUN := Lib.hid hrun
  have HONE := Lib.hid hone
  have HEND := Lib.hid hend
  have hle : ∀ k st i wr, J k st i wr → st ≤ i ∧ i ≤ n := by
    intro k st i wr hj
    rw [hJ] at hj
    exact ⟨hj.2.1, hj.2.2.1⟩
  have HLE := Lib.hid hle
  rw [← hn]
  clear hat hrun hone hend hle hJ hcap hs hlen hl hR hM hv hn
  go_enter Tryz.func84, Tryz.ntmps84
  go_wp2
  go_loopw [5, 6, 7] (fun o s i wr => ∃ k st j : Nat, o = .slice (some ⟨g, 0, none⟩) k cap ∧ s = .int .i64 st ∧ i = .int .i64 j ∧ J k st j wr) (fun _ _ i _ => n + 1 - (intOf i).toNat)
  case atStart => exact ⟨0, 0, 0, rfl, rfl, rfl, hJ0⟩
  case round =>
    obtain ⟨k, st, j, rfl, rfl, rfl, hj⟩ := hrel
    obtain ⟨hst, hjn⟩ := HLE.out _ _ _ _ hj
    clear hJ0
    by_cases hlt : j < n
    · obtain ⟨v, t, hv1, ht1, cj, ⟨_, hj2, d, rfl, hc⟩ | ⟨hp, T, d, rfl, hc⟩⟩ := HAT.out _ _ _ _ hj hlt
      · have HC := Lib.hid hc
        clear hc
        go_wp2_with fail
        refine (HC.out wr).mono ?_
        rintro e w' ⟨rfl, rfl⟩
        go_wp2
        go_roundw
        case rel => exact ⟨k, st, j + 1, rfl, rfl, by go_num, hj2⟩
        case measure => simp [intOf]; omega
      · have HC := Lib.hid hc
        clear hc
        by_cases hsi : st < j
        · obtain ⟨l, G1, hc1, hk1, hcall, hfin⟩ := HRUN.out _ _ _ _ hj hsi (.inr ⟨t, ht1, hp⟩)
          have HCALL := Lib.hid hcall
          have HF1 := Lib.hid hfin
          have HC1 := Lib.hid hc1
          clear hcall hfin hc1
          go_wp2_with fail
          refine (HC.out wr).mono ?_
          rintro e w' ⟨rfl, rfl⟩
          go_wp2_with fail
          refine HCALL.out.mono ?_
          rintro e w2 ⟨d2, rfl, s2⟩
          have hB := (s2.new (d := w2.heap.size) [.iface 157 (.pointer (some ⟨d2, 0, none⟩))] 133 rfl).swap
          have HB := Lib.hid hB
          clear hB s2
          go_wp2_with (at_builtin; refine wpList_append_into rfl (.tmp 27) (.tmp 34) 89 rfl 133 i0 Tryz.underlying89 hi0 hz1 g k cap l rfl HB.out HC1.out hk1 ⟨w2.heap.size, 0, none⟩ 1 (.iface 157 (.pointer (some ⟨d2, 0, none⟩))) rfl (HB.out.swap.cell 0 rfl) rfl ?_)
          intro w3 s3 z3
          clear z3
          have hj3 := HF1.out d2 w3 (s3.swap.drop1)
          obtain ⟨l2, G2, hc2, hk2, s5, hfin2⟩ := HONE.out _ _ _ _ _ hj3 hv1 ht1 hp
          have cj2 : w3.cell? ⟨g, j, none⟩ = some (.iface T (.pointer (some ⟨d, 0, none⟩))) := by
            obtain ⟨v', t', hv2, _, cc, _⟩ := HAT.out _ _ _ _ hj3 hlt
            rw [hv1] at hv2
            obtain rfl := Option.some.inj hv2
            exact cc
          have hB2 := (s5.new (d := w3.heap.size) [.iface T (.pointer (some ⟨d, 0, none⟩))] 133 rfl).swap
          have HB2 := Lib.hid hB2
          have HC2 := Lib.hid hc2
          have HF2 := Lib.hid hfin2
          clear hB2 hc2 s5 hfin2
          go_wp2_with (at_builtin; refine wpList_append_into rfl (.tmp 40) (.tmp 45) 89 rfl 133 i0 Tryz.underlying89 hi0 hz1 g (k + 1) cap l2 rfl HB2.out HC2.out hk2 ⟨w3.heap.size, 0, none⟩ 1 (.iface T (.pointer (some ⟨d, 0, none⟩))) rfl (HB2.out.swap.cell 0 rfl) rfl ?_)
          intro w6 s6 _
          have hj6 := HF2.out w6 (s6.swap.drop1)
          go_wp2
          go_roundw
          case rel => exact ⟨(k + 1) + 1, j + 1, j + 1, rfl, by go_num, by go_num, hj6⟩
          case measure => simp [intOf]; omega
        · obtain rfl : st = j := by omega
          obtain ⟨l2, G2, hc2, hk2, s5, hfin2⟩ := HONE.out _ _ _ _ _ hj hv1 ht1 hp
          have cj2 : wr.cell? ⟨g, st, none⟩ = some (.iface T (.pointer (some ⟨d, 0, none⟩))) := by
            obtain ⟨v', t', hv2, _, cc, _⟩ := HAT.out _ _ _ _ hj hlt
            rw [hv1] at hv2
            obtain rfl := Option.some.inj hv2
            exact cc
          have hB2 := (s5.new (d := wr.heap.size) [.iface T (.pointer (some ⟨d, 0, none⟩))] 133 rfl).swap
          have HB2 := Lib.hid hB2
          have HC2 := Lib.hid hc2
          have HF2 := Lib.hid hfin2
          clear hB2 hc2 s5 hfin2
          go_wp2_with fail
          refine (HC.out wr).mono ?_
          rintro e w' ⟨rfl, rfl⟩
          go_wp2_with (at_builtin; refine wpList_append_into rfl (.tmp 40) (.tmp 45) 89 rfl 133 i0 Tryz.underlying89 hi0 hz1 g k cap l2 rfl HB2.out HC2.out hk2 ⟨wr.heap.size, 0, none⟩ 1 (.iface T (.pointer (some ⟨d, 0, none⟩))) rfl (HB2.out.swap.cell 0 rfl) rfl ?_)
          intro w6 s6 _
          have hj6 := HF2.out w6 (s6.swap.drop1)
          go_wp2
          go_roundw
          case rel => exact ⟨k + 1, st + 1, st + 1, rfl, by go_num, by go_num, hj6⟩
          case measure => simp [intOf]; omega
    · obtain rfl : j = n := by omega
      by_cases hsi : st < j
      · obtain ⟨l, G1, hc1, hk1, hcall, hfin⟩ := HRUN.out _ _ _ _ hj hsi (.inl rfl)
        have HCALL := Lib.hid hcall
        have HF1 := Lib.hid hfin
        have HC1 := Lib.hid hc1
        clear hcall hfin hc1
        go_wp2_with fail
        refine HCALL.out.mono ?_
        rintro e w2 ⟨d2, rfl, s2⟩
        have hB := (s2.new (d := w2.heap.size) [.iface 157 (.pointer (some ⟨d2, 0, none⟩))] 133 rfl).swap
        have HB := Lib.hid hB
        clear hB s2
        go_wp2_with (at_builtin; refine wpList_append_into rfl (.tmp 27) (.tmp 34) 89 rfl 133 i0 Tryz.underlying89 hi0 hz1 g k cap l rfl HB.out HC1.out hk1 ⟨w2.heap.size, 0, none⟩ 1 (.iface 157 (.pointer (some ⟨d2, 0, none⟩))) rfl (HB.out.swap.cell 0 rfl) rfl ?_)
        intro w3 s3 z3
        clear z3
        have hj3 := HF1.out d2 w3 (s3.swap.drop1)
        obtain ⟨vs', junk', q1, q2, q3, q4⟩ := HEND.out _ _ hj3
        go_wp2
        go_ret
        exact ⟨k + 1, vs', junk', rfl, q1, q2, q3, q4⟩
      · obtain rfl : st = j := by omega
        obtain ⟨vs', junk', q1, q2, q3, q4⟩ := HEND.out _ _ hj
        go_wp2
        go_ret
        exact ⟨k, vs', junk', rfl, q1, q2, q3, q4⟩

end Go.Proofs.YtmdabdpghcjplaaGreatDoor
