/- What inlines are printed as: plain texts, escaped ones; a text whole. -/
import Derived.Test.YtmdabdpghcjplaaGreatDoorDp
import Derived.Test.YtmdabdpghcjplaaGreatDoorG5
import Derived.Test.YtmdabdpghcjplaaGreatDoorI6
import Derived.Test.YtmdabdpghcjplaaGreatDoorEs
import Derived.Deep.RegionLaw
namespace Go.Proofs.YtmdabdpghcjplaaGreatDoor
open Go.RowKit Sl

theorem meth_Escaped_PrintHTML (a : Addr) (w : World) : (method 477 177 (.pointer (some a)) "PrintHTML").run Tryz.prog w = .ok (256, .pointer (some a)) w := by kernel_rfl
theorem ahead_Escaped_PrintHTML (a : Addr) (w : World) : (nilAhead 477 177 (.pointer (some a)) "PrintHTML").run Tryz.prog w = .ok (some false) w := by kernel_rfl

set_option maxRecDepth 100000 in
set_option maxHeartbeats 1000000 in
theorem plainPrint_w (W w : World) (d b : Nat) (T : TypeId) (s l : List UInt8) (F : HP) (hs : Sat W (row d T [.string (B.bs s)] * F)) (hz : s.length ≤ 1000000000) (hb : Below W.heap.size W w) (hB : IsBuf W.heap.size b l w) (hl : l.length + (htmlPairs.esc s).length ≤ 1000000000000) :
    Calls Tryz.prog 256 #[.pointer (some ⟨d, 0, none⟩), .pointer (some ⟨b, 0, none⟩)] w fun e w' => e = .returned (.tuple #[]) ∧ IsBuf W.heap.size b (l ++ htmlPairs.esc s) w' ∧ Below W.heap.size W w' := by
  have c0 : w.cell? ⟨d, 0, none⟩ = some (.string (B.bs s)) := (hb.cell (p := ⟨d, 0, none⟩) hs.row_lt).trans (hs.cell 0 rfl)
  have hlt : d < w.heap.size := World.block_lt_of_cell? w _ c0
  have hbl : b < w.heap.size := Lib.IsBuffer.lt hB
  have ha := (Below.refl w.heap.size w).alloc (Nat.le_refl _) (.cells htmlPairs.cells.toArray 9)
  have hpw := pairsWrite_w htmlPairs W.heap.size b w.heap.size l s (w.alloc (.cells htmlPairs.cells.toArray 9)).drew (by decide) hz (heap_alloc_new w _) (by omega) (show IsBuf W.heap.size b l (w.alloc (.cells htmlPairs.cells.toArray 9)) from hB.below ha) hl
  have HPW := Lib.hid hpw
  have hesc := htmlEscaper_w
  have HB := Lib.hid hB
  clear hpw hs hB
  go_enter Tryz.func256, Tryz.ntmps256
  go_wp2_with fail
  go_region_law (first
    | (go_simp; go_at_call 259; refine (hesc _).mono ?_; rintro e w4 ⟨rfl, rfl⟩)
    | (go_simp; go_at_call 260; refine HPW.out.mono ?_; rintro e w5 ⟨rfl, hB5, hb5, _⟩))
  all_goals
    go_wp2
    go_end0
    exact ⟨rfl, hB5, (show Below W.heap.size W (w.alloc (.cells htmlPairs.cells.toArray 9)).drew from Below.drewN' (hb.trans (ha.mono hb.size)) 1).trans hb5⟩

/-- A token's object is printed as its HTML, wherever it lies in what is owned. -/
theorem prt_tok {A : List UInt8 → Prop} {Tt : HP} {v : Value} {t : Tok} (hk : ∃ G, Tt = TokAt v t * G) (hc : ∀ s, t ≠ .code s) (hz : t.txt.length ≤ 1000000000) {W : World} {F : HP} (hW : Sat W (Tt * F)) : Prt A Tt v t.html := by
  obtain ⟨G, rfl⟩ := hk
  cases t with
  | plain s =>
    obtain ⟨d, h⟩ := (hW.cast (star_assoc _ _ _)).ex
    obtain ⟨rfl, _⟩ := (h.cast (star_assoc _ _ _)).pur
    refine ⟨_, ⟨d, 0, none⟩, 256, rfl, fun w => meth_Plain_PrintHTML ⟨d, 0, none⟩ w, fun w => ahead_Plain_PrintHTML ⟨d, 0, none⟩ w, enters_of Tryz.func256 (by kernel_rfl) rfl, ?_⟩
    intro W F w b l hW _ hb hB hl
    obtain ⟨d', h⟩ := (hW.cast (star_assoc _ _ _)).ex
    obtain ⟨he, h2⟩ := (h.cast (star_assoc _ _ _)).pur
    have hd : d = d' := by injection he with _ h1; injection h1 with h1; injection h1 with h1; injection h1
    subst hd
    exact plainPrint_w W w d b _ s l _ h2 hz hb hB hl
  | esc s =>
    obtain ⟨d, h⟩ := (hW.cast (star_assoc _ _ _)).ex
    obtain ⟨rfl, _⟩ := (h.cast (star_assoc _ _ _)).pur
    refine ⟨_, ⟨d, 0, none⟩, 256, rfl, fun w => meth_Escaped_PrintHTML ⟨d, 0, none⟩ w, fun w => ahead_Escaped_PrintHTML ⟨d, 0, none⟩ w, enters_of Tryz.func256 (by kernel_rfl) rfl, ?_⟩
    intro W F w b l hW _ hb hB hl
    obtain ⟨d', h⟩ := (hW.cast (star_assoc _ _ _)).ex
    obtain ⟨he, h2⟩ := (h.cast (star_assoc _ _ _)).pur
    have hd : d = d' := by injection he with _ h1; injection h1 with h1; injection h1 with h1; injection h1
    subst hd
    exact plainPrint_w W w d b _ s l _ h2 hz hb hB hl
  | code s => exact absurd rfl (hc s)

set_option maxRecDepth 100000 in
set_option maxHeartbeats 1000000 in
/-- A text whose inlines are printed as outs. -/
theorem textPrint_w (tb b : Nat) (st en raw : Value) (inn : SV) (items : List Value) (outs : List (List UInt8)) (T F : HP) (W w : World) (l : List UInt8) (hi : inn.len = items.length) (h1 : items.length ≤ 1000000000)
    (hs : Sat W (row tb 111 [st, en, inn.v, raw] * (arr 133 1 inn.v inn.len items * (T * F)))) (ho : outs.length = items.length)
    (hp : ∀ (i : Nat) (v : Value) (o : List UInt8), items[i]? = some v → outs[i]? = some o → Prt (fun _ => True) T v o) (hb : Below W.heap.size W w) (hB : IsBuf W.heap.size b l w) (hl : l.length + outs.flatten.length ≤ 1000000000000) :
    Calls Tryz.prog 243 #[.pointer (some ⟨tb, 0, none⟩), .pointer (some ⟨b, 0, none⟩)] w fun e w' => e = .returned (.tuple #[]) ∧ IsBuf W.heap.size b (l ++ outs.flatten) w' ∧ Below W.heap.size W w' := by
  have hd : w.cell? ⟨tb, 2, none⟩ = some inn.v := (hb.cell (p := ⟨tb, 2, none⟩) hs.row_lt).trans (hs.cell 2 rfl)
  have hT : Sat W (T * (row tb 111 [st, en, inn.v, raw] * (arr 133 1 inn.v inn.len items * F))) := hs.cast (by ac_rfl)
  have hc : ∀ w' k v, Below W.heap.size W w' → items[k]? = some v → ∃ g, inn.a = some ⟨g, 0, none⟩ ∧ w'.cell? ⟨g, k, none⟩ = some v := by
    intro w' k v hb' hk
    rcases hs.swap.arr_cases with ⟨_, h, hx, _⟩ | ⟨g, cap, junk, hv, _, _, _, _, hr⟩
    · rw [hx] at hk; cases hk
    · refine ⟨g, ?_, ?_⟩
      · unfold SV.v at hv
        injection hv with h1 h2 h3
      · refine (hb'.cell (p := ⟨g, k, none⟩) hr.row_lt).trans (hr.cell k ?_)
        rw [List.getElem?_append_left (List.getElem?_eq_some_iff.1 hk).1]; exact hk
  have HC := Lib.hid hc
  clear hc hs
  unfold SV.v at hd
  rw [hi] at hd
  have hout : ∀ k v, items[k]? = some v → ∃ o, outs[k]? = some o ∧ Prt (fun _ => True) T v o ∧ (outs.take (k + 1)).flatten = (outs.take k).flatten ++ o ∧ (outs.take (k + 1)).flatten.length ≤ outs.flatten.length := by
    intro k v hk
    have hlt : k < outs.length := by rw [ho]; exact (List.getElem?_eq_some_iff.1 hk).1
    refine ⟨outs[k], by simp [hlt], hp k v outs[k] hk (by simp [hlt]), ?_, ?_⟩
    · rw [List.take_succ_eq_append_getElem hlt, List.flatten_append]; simp
    · have := congrArg (fun l => l.flatten.length) (List.take_append_drop (k + 1) outs)
      simp only [List.flatten_append, List.length_append] at this
      omega
  have HO := Lib.hid hout
  clear hout hp
  have hlt0 : ∀ k, k < items.length → ∃ v, items[k]? = some v := fun k hk => ⟨items[k], by simp [hk]⟩
  obtain ⟨n, hn⟩ : ∃ n, n = items.length := ⟨_, rfl⟩
  rw [← hn] at hd hlt0 h1
  have HLT := Lib.hid hlt0
  clear hlt0 hi
  go_enter Tryz.func243, Tryz.ntmps243
  go_wp2
  go_loopw [11] (fun i wr => ∃ k : Nat, k ≤ n ∧ i = .int .i64 k ∧ IsBuf W.heap.size b (l ++ (outs.take k).flatten) wr ∧ Below W.heap.size W wr) (fun i _ => n - (intOf i).toNat)
  case atStart => exact ⟨0, Nat.zero_le _, rfl, by simpa using hB, hb⟩
  case round =>
    obtain ⟨k, hk, rfl, hB, hb⟩ := hrel
    by_cases hlt : k < n
    · obtain ⟨v, hv⟩ := HLT.out k hlt
      obtain ⟨o, ho1, ⟨Ty, a, f, rfl, hm, hna, hen, hrun⟩, ho2, ho3⟩ := HO.out k v hv
      obtain ⟨g, hg, ck⟩ := HC.out wr k _ hb hv
      have hr := hrun W _ wr b _ hT trivial hb hB (by rw [ho2] at ho3; simp only [List.length_append] at ho3 ⊢; omega)
      have HR := Lib.hid hr
      rw [hg]
      clear hrun hr hv
      go_wp2_with fail
      refine HR.out.mono ?_
      rintro e w' ⟨rfl, hB2, hb2⟩
      go_wp2
      go_roundw
      case rel => exact ⟨k + 1, by omega, by go_num, by rw [ho2, ← List.append_assoc]; exact hB2, hb2⟩
      case measure => simp [intOf]; omega
    · obtain rfl : k = n := by omega
      go_wp2
      go_end0
      refine ⟨rfl, ?_, hb⟩
      rwa [List.take_of_length_le (by omega)] at hB

/-- A text that has been read is printed as its tokens' HTML. -/
theorem readPrint_w (t : TX) (b : Nat) (F : HP) (W w : World) (l : List UInt8) (hn : t.toks.length ≤ 1000000000) (hc : ∀ x ∈ t.toks, (∀ s, x ≠ .code s) ∧ x.txt.length ≤ 1000000000)
    (hs : Sat W (t.read * F)) (hb : Below W.heap.size W w) (hB : IsBuf W.heap.size b l w) (hl : l.length + (htmls t.toks).length ≤ 1000000000000) :
    Calls Tryz.prog 243 #[t.ptr, .pointer (some ⟨b, 0, none⟩)] w fun e w' => e = .returned (.tuple #[]) ∧ IsBuf W.heap.size b (l ++ htmls t.toks) w' ∧ Below W.heap.size W w' := by
  obtain ⟨sv, h⟩ := hs.ex
  obtain ⟨vs, h1, h2⟩ := inlsAt_iff.1 (h.cast (show _ = InlsAt sv t.toks * (row t.tb 111 [.int .i64 t.st, .int .i64 t.en, sv.v, .string (B.bs t.raw)] * F) from by
    generalize InlsAt sv t.toks = Y
    ac_rfl))
  have hlen := toksAt_len (h2.cast (show _ = ToksAt vs t.toks * (arr 133 1 sv.v sv.len vs * (row t.tb 111 [.int .i64 t.st, .int .i64 t.en, sv.v, .string (B.bs t.raw)] * F)) from by ac_rfl))
  have h3 := h2.cast (show _ = row t.tb 111 [.int .i64 t.st, .int .i64 t.en, sv.v, .string (B.bs t.raw)] * (arr 133 1 sv.v sv.len vs * (ToksAt vs t.toks * F)) from by ac_rfl)
  have e : htmls t.toks = (t.toks.map Tok.html).flatten := by unfold htmls; rw [List.flatMap_def]
  rw [e] at hl ⊢
  refine textPrint_w t.tb b _ _ _ sv vs (t.toks.map Tok.html) (ToksAt vs t.toks) F W w l h1 (by omega) h3 (by simp [hlen]) ?_ hb hB hl
  intro i v o hv ho'
  rw [List.getElem?_map] at ho'
  obtain ⟨x, hx, rfl⟩ := Option.map_eq_some_iff.1 ho'
  have hxm := List.mem_of_getElem? hx
  have hsp : ∃ G, ToksAt vs t.toks = TokAt v x * G := by
    obtain ⟨hi1, rfl⟩ := List.getElem?_eq_some_iff.1 hv
    obtain ⟨hi2, rfl⟩ := List.getElem?_eq_some_iff.1 hx
    refine ⟨ToksAt (vs.take i) (t.toks.take i) * ToksAt (vs.drop (i + 1)) (t.toks.drop (i + 1)), ?_⟩
    have e0 := toksAt_split hlen i
    rw [List.drop_eq_getElem_cons hi1, List.drop_eq_getElem_cons hi2, toksAt_cons] at e0
    rw [e0]
    generalize TokAt vs[i] t.toks[i] = Y
    ac_rfl
  exact prt_tok hsp (hc x hxm).1 (hc x hxm).2 (h3.drop1.drop1)

end Go.Proofs.YtmdabdpghcjplaaGreatDoor
