/- The block starters' looks at a line. -/
import Derived.Test.YtbfmmikllelfeaaGreatDoorN2
import Derived.Test.YtbfmmikllelfeaaGreatDoorP1
namespace Go.Proofs.YtbfmmikllelfeaaGreatDoor
open Go.RowKit Sl

def Ln.indent (x : Ln) : Ln := (x.trimSpace 0 3 false).getD x

theorem Ln.trimGo_some {eol : Bool} : ∀ {k n : Nat} {x : Ln}, (x.trimGo 0 eol k n).isSome = true
  | 0, _, _ => rfl
  | k + 1, n, x => by
    simp only [Ln.trimGo]
    cases x.step eol with
    | none => simp
    | some y => exact trimGo_some

theorem Ln.trimSpace_some (x : Ln) (k : Nat) (eol : Bool) : (x.trimSpace 0 k eol).isSome = true := trimGo_some

theorem Ln.getD_ok {o : Option Ln} {x : Ln} (h : x.OK) (ho : ∀ y, o = some y → y.OK ∧ y.text = x.text ∧ y.nl = x.nl) : (o.getD x).OK ∧ (o.getD x).text = x.text ∧ (o.getD x).nl = x.nl := by
  cases o with
  | none => exact ⟨h, rfl, rfl⟩
  | some y => exact ho y rfl

theorem Ln.indent_ok {x : Ln} (h : x.OK) : x.indent.OK ∧ x.indent.text = x.text ∧ x.indent.nl = x.nl := getD_ok h fun _ e => trimSpace_ok h e

def Ln.quote (x : Ln) : Option Ln := (x.indent.trim 62).map fun t => (t.trimSpace 0 1 true).getD t

theorem Ln.quote_ok {x x' : Ln} (h : x.OK) (hq : x.quote = some x') : x'.OK ∧ x'.text = x.text ∧ x'.nl = x.nl := by
  unfold Ln.quote at hq
  obtain ⟨t, ht, rfl⟩ := Option.map_eq_some_iff.1 hq
  obtain ⟨h1, h2, h3⟩ := indent_ok h
  obtain ⟨i1, i2, i3⟩ := trim_ok h1 ht
  obtain ⟨j1, j2, j3⟩ := getD_ok i1 fun _ e => trimSpace_ok i1 e
  exact ⟨j1, j2.trans (i2.trans h2), j3.trans (i3.trans h3)⟩

theorem line_cells {w : World} {b : Nat} {x : Ln} {F : HP} (h : Sat w (row b 181 x.cells * F)) :
    w.cell? ⟨b, 0, none⟩ = some (.int .i64 x.spaces) ∧ w.cell? ⟨b, 1, none⟩ = some (.int .i64 x.i) ∧ w.cell? ⟨b, 2, none⟩ = some (.int .i64 x.tab) ∧ w.cell? ⟨b, 3, none⟩ = some (.string x.text) ∧ w.cell? ⟨b, 4, none⟩ = some (.int .u8 x.nl.toNat) ∧ ∀ i, w.frozen? ⟨b, i, none⟩ = false :=
  ⟨h.cell 0 rfl, h.cell 1 rfl, h.cell 2 rfl, h.cell 3 rfl, h.cell 4 rfl, fun i => h.frozen i⟩

def Ln.zero : Ln := ⟨0, 0, 0, ⟨#[]⟩, 0⟩
theorem Sl.Sat.third {w : World} {A B C F : HP} (h : Sat w (A * (B * (C * F)))) : Sat w (C * (A * (B * F))) := h.cast (by ac_rfl)

set_option maxRecDepth 100000 in
set_option maxHeartbeats 1000000 in
theorem trimQuote_w (x : Ln) (w : World) (F : HP) (hx : x.OK) (hs : Sat w F) :
    Calls Tryz.prog 188 #[x.agg] w fun e w' => e = .returned (.tuple #[((x.quote).getD x).agg, .bool x.quote.isSome]) ∧ Sat w' F := by
  have h1 : Sat (w.alloc (.cells x.cells.toArray 181)) (row w.heap.size 181 x.cells * F) := hs.new _ _ rfl
  have h2 := h1.new (d := w.heap.size + 1) Ln.zero.cells 181 (by simp)
  have h3 := h2.new (d := w.heap.size + 2) x.cells 181 (by simp)
  generalize hq : x.quote = q
  have hq' : (x.indent.trim 62).map (fun t => (t.trimSpace 0 1 true).getD t) = q := hq
  have HQ := Lib.hid hq'
  clear hq hq'
  have hxi := Ln.indent_ok hx
  generalize hi : x.indent = xi at hxi
  have hi' : (x.trimSpace 0 3 false).getD x = xi := hi
  have HI := Lib.hid hi
  have HI2 := Lib.hid hi'
  clear hi hi'
  have h62 : ((62 : UInt8).toNat : Int) = 62 := rfl
  unfold Ln.agg
  go_enter Tryz.func188, Tryz.ntmps188
  go_wp2_with fail
  refine (trimSpace_w _ x 0 3 false _ _ hx (by decide) h3).mono ?_
  rintro e w1 ⟨rfl, s1⟩
  rw [HI2.out] at s1
  go_wp2_with fail
  refine (trim_w _ xi 62 _ _ hxi.1 s1).mono ?_
  cases ht : xi.trim 62 with
  | none =>
    rintro e w2 ⟨rfl, s2⟩
    have hqq := HQ.out
    rw [HI.out, ht] at hqq
    simp only [Option.map_none] at hqq
    subst hqq
    obtain ⟨a0, a1, a2, a3, a4, af⟩ := line_cells s2.swap
    obtain ⟨b0, b1, b2, b3, b4, bf⟩ := line_cells s2.third
    have HS := Lib.hid s2
    clear s1 s2 h1 h2 h3
    go_wp2
    refine bodyPost_ret (v := .tuple #[x.agg, .bool false]) (by simp [results, Tryz.results188, go_sem, Ln.agg, *]) rfl ⟨rfl, ?_⟩
    exact (((((HS.out.swap.set 0 _).set 1 _).set 2 _).set 3 _).set 4 _).drop1.drop1.drop1
  | some t =>
    rintro e w2 ⟨rfl, s2⟩
    simp only [Option.getD_some] at s2
    have hqq := HQ.out
    rw [HI.out, ht] at hqq
    simp only [Option.map_some] at hqq
    subst hqq
    have ht1 := (Ln.trim_ok hxi.1 ht).1
    go_wp2_with fail
    refine (trimSpace_w _ t 0 1 true _ _ ht1 (by decide) s2).mono ?_
    rintro e w3 ⟨rfl, s3⟩
    generalize hu : (t.trimSpace 0 1 true).getD t = u at s3
    obtain ⟨a0, a1, a2, a3, a4, af⟩ := line_cells s3.swap
    obtain ⟨b0, b1, b2, b3, b4, bf⟩ := line_cells s3
    have HS := Lib.hid s3
    have HU := Lib.hid hu
    clear s1 s2 s3 h1 h2 h3 hu
    go_wp2
    refine bodyPost_ret (v := .tuple #[u.agg, .bool true]) (by simp [results, Tryz.results188, go_sem, Ln.agg, *]) rfl ⟨?_, ?_⟩
    · simp [HU.out, Ln.agg]
    · exact (((((HS.out.swap.set 0 _).set 1 _).set 2 _).set 3 _).set 4 _).drop1.drop1.drop1

end Go.Proofs.YtbfmmikllelfeaaGreatDoor

/- A heading's marks: trimHeading. -/
namespace Go.Proofs.YtbfmmikllelfeaaGreatDoor
open Go.RowKit Sl

def Ln.hashes : Nat → Nat → Ln → Nat × Ln
  | 0, n, t => (n, t)
  | k + 1, n, t => match t.trim 35 with
    | some t' => hashes k (n + 1) t'
    | none => (n, t)

theorem Ln.hashes_ok : ∀ {k n : Nat} {t : Ln}, t.OK → (hashes k n t).2.OK ∧ (hashes k n t).2.text = t.text ∧ (hashes k n t).2.nl = t.nl ∧ n ≤ (hashes k n t).1 ∧ (hashes k n t).1 ≤ n + k
  | 0, _, _, h => ⟨h, rfl, rfl, Nat.le_refl _, Nat.le_refl _⟩
  | k + 1, n, t, h => by
    simp only [Ln.hashes]
    cases e : t.trim 35 with
    | none => exact ⟨h, rfl, rfl, Nat.le_refl _, by simp only; omega⟩
    | some u =>
      obtain ⟨h1, h2, h3⟩ := trim_ok h e
      obtain ⟨i1, i2, i3, i4, i5⟩ := hashes_ok (k := k) (n := n + 1) h1
      exact ⟨i1, i2.trans h2, i3.trans h3, by simp only; omega, by simp only; omega⟩

def Ln.heading (x : Ln) : Option (Nat × Ln) := match x.indent.trim 35 with
  | none => none
  | some t => ((hashes 5 1 t).2.trimSpace 1 1 true).map fun v => ((hashes 5 1 t).1, v)

theorem Ln.heading_ok {x v : Ln} {n : Nat} (h : x.OK) (e : x.heading = some (n, v)) : v.OK ∧ v.text = x.text ∧ v.nl = x.nl ∧ 1 ≤ n ∧ n ≤ 6 := by
  unfold Ln.heading at e
  obtain ⟨h1, h2, h3⟩ := indent_ok h
  cases ht : x.indent.trim 35 with
  | none => rw [ht] at e; cases e
  | some t =>
    rw [ht] at e
    simp only [Option.map_eq_some_iff, Prod.mk.injEq] at e
    obtain ⟨u, hu, rfl, rfl⟩ := e
    obtain ⟨i1, i2, i3⟩ := trim_ok h1 ht
    obtain ⟨j1, j2, j3, j4, j5⟩ := hashes_ok (k := 5) (n := 1) i1
    obtain ⟨k1, k2, k3⟩ := trimSpace_ok j1 hu
    exact ⟨k1, k2.trans (j2.trans (i2.trans h2)), k3.trans (j3.trans (i3.trans h3)), j4, j5⟩

set_option maxRecDepth 100000 in
set_option maxHeartbeats 1000000 in
theorem trimHeading_w (b wb : Nat) (x : Ln) (n0 : Int) (w : World) (F : HP) (hx : x.OK) (hs : Sat w (row b 181 x.cells * (row wb 3 [.int .i64 n0] * F))) :
    Calls Tryz.prog 189 #[.pointer (some ⟨b, 0, none⟩), .pointer (some ⟨wb, 0, none⟩)] w fun e w' =>
      e = .returned (.bool x.heading.isSome) ∧ Sat w' (row b 181 ((x.heading.map Prod.snd).getD x).cells * (row wb 3 [.int .i64 ((x.heading.map fun q => (q.1 : Int)).getD n0)] * F)) := by
  obtain ⟨c0, c1, c2, c3, c4, cf⟩ := line_cells hs
  have hlb := hs.row_lt
  have h1 := hs.new (d := w.heap.size) x.cells 181 rfl
  generalize hq : x.heading = q
  have hq' : (match x.indent.trim 35 with | none => none | some t => ((Ln.hashes 5 1 t).2.trimSpace 1 1 true).map fun v => ((Ln.hashes 5 1 t).1, v)) = q := hq
  have HQ := Lib.hid hq'
  clear hq hq'
  have hxi := Ln.indent_ok hx
  generalize hi : x.indent = xi at hxi
  have hi' : (x.trimSpace 0 3 false).getD x = xi := hi
  have HI := Lib.hid hi
  have HI2 := Lib.hid hi'
  clear hi hi'
  have h35 : ((35 : UInt8).toNat : Int) = 35 := rfl
  go_enter Tryz.func189, Tryz.ntmps189
  go_wp2_with fail
  refine (trimSpace_w _ x 0 3 false _ _ hx (by decide) h1).mono ?_
  rintro e w1 ⟨rfl, s1⟩
  rw [HI2.out] at s1
  go_wp2_with fail
  refine (trim_w _ xi 35 _ _ hxi.1 s1).mono ?_
  cases ht : xi.trim 35 with
  | none =>
    rintro e w2 ⟨rfl, s2⟩
    have hqq := HQ.out
    rw [HI.out, ht] at hqq
    simp only at hqq
    subst hqq
    go_wp2
    go_ret
    exact ⟨rfl, s2.drop1⟩
  | some t =>
    rintro e w2 ⟨rfl, s2⟩
    simp only [Option.getD_some] at s2
    have hqq := HQ.out
    rw [HI.out, ht] at hqq
    simp only at hqq
    have ht1 := (Ln.trim_ok hxi.1 ht).1
    generalize hhr : Ln.hashes 5 1 t = R at hqq
    have HH := Lib.hid hhr
    have HQQ := Lib.hid hqq
    clear hqq hhr s1 c0 c1 c2 c3 c4 h1
    go_wp2
    go_loopw [6] (fun n wr => ∃ (k : Nat) (u : Ln), 1 ≤ k ∧ k ≤ 6 ∧ n = .int .i64 k ∧ u.OK ∧ Ln.hashes (6 - k) k u = R ∧ Sat wr (row w.heap.size 181 u.cells * (row b 181 x.cells * (row wb 3 [.int .i64 n0] * F)))) (fun n _ => 7 - (intOf n).toNat)
    case atStart => exact ⟨1, t, by decide, by decide, rfl, ht1, HH.out, s2⟩
    case round =>
      obtain ⟨k, u, hk1, hk6, rfl, hu, hg, s3⟩ := hrel
      by_cases hlt : k < 6
      · rw [show 6 - k = (6 - (k + 1)) + 1 by omega, Ln.hashes] at hg
        cases htu : u.trim 35 with
        | some u' =>
          rw [htu] at hg
          simp only at hg
          have HG := Lib.hid hg
          clear hg
          go_wp2_with fail
          refine (trim_w _ u 35 _ _ hu s3).mono ?_
          rw [htu]
          rintro e w3 ⟨rfl, s4⟩
          simp only [Option.getD_some] at s4
          go_wp2
          go_roundw
          case rel => exact ⟨k + 1, u', by omega, by omega, by go_num, (Ln.trim_ok hu htu).1, HG.out, s4⟩
          case measure => simp [intOf]; omega
        | none =>
          rw [htu] at hg
          simp only at hg
          have hR : (k, u) = R := hg
          clear hg
          go_wp2_with fail
          refine (trim_w _ u 35 _ _ hu s3).mono ?_
          rw [htu]
          rintro e w3 ⟨rfl, s4⟩
          simp only [Option.getD_none] at s4
          go_wp2_with fail
          refine (trimSpace_w _ u 1 1 true _ _ hu (by decide) s4).mono ?_
          cases hv : u.trimSpace 1 1 true with
          | none =>
            rintro e w4 ⟨rfl, s5⟩
            have hqq := HQQ.out
            rw [← hR, hv] at hqq
            simp only [Option.map_none] at hqq
            subst hqq
            go_wp2
            go_ret
            exact ⟨rfl, s5.drop1⟩
          | some v =>
            rintro e w4 ⟨rfl, s5⟩
            simp only [Option.getD_some] at s5
            have hqq := HQQ.out
            rw [← hR, hv] at hqq
            simp only [Option.map_some] at hqq
            subst hqq
            obtain ⟨a0, a1, a2, a3, a4, af⟩ := line_cells s5
            obtain ⟨b0, b1, b2, b3, b4, bf⟩ := line_cells s5.swap
            have d0 : w4.cell? ⟨wb, 0, none⟩ = some (.int .i64 n0) := s5.third.cell 0 rfl
            have df : ∀ i, w4.frozen? ⟨wb, i, none⟩ = false := fun i => s5.third.frozen i
            have nb : w.heap.size ≠ wb := by
              intro e
              exact (s5.third.row_ne) e.symm
            have nb2 : b ≠ wb := fun e => (s5.third.drop2.row_ne) e.symm
            have HS := Lib.hid s5
            clear s5 s2 s3
            go_wp2
            go_ret
            have h := (((((HS.out.third.set 0 (.int .i64 (k : Int))).third.set 0 (.int .i64 v.spaces)).set 1 (.int .i64 v.i)).set 2 (.int .i64 v.tab)).set 3 (.string v.text)).set 4 (.int .u8 v.nl.toNat)
            exact ⟨rfl, h.third.drop1⟩
      · have hR : (k, u) = R := by rw [← hg, show 6 - k = 0 by omega, Ln.hashes]
        clear hg
        go_wp2_with fail
        refine (trimSpace_w _ u 1 1 true _ _ hu (by decide) s3).mono ?_
        cases hv : u.trimSpace 1 1 true with
        | none =>
          rintro e w4 ⟨rfl, s5⟩
          have hqq := HQQ.out
          rw [← hR, hv] at hqq
          simp only [Option.map_none] at hqq
          subst hqq
          go_wp2
          go_ret
          exact ⟨rfl, s5.drop1⟩
        | some v =>
          rintro e w4 ⟨rfl, s5⟩
          simp only [Option.getD_some] at s5
          have hqq := HQQ.out
          rw [← hR, hv] at hqq
          simp only [Option.map_some] at hqq
          subst hqq
          obtain ⟨a0, a1, a2, a3, a4, af⟩ := line_cells s5
          obtain ⟨b0, b1, b2, b3, b4, bf⟩ := line_cells s5.swap
          have d0 : w4.cell? ⟨wb, 0, none⟩ = some (.int .i64 n0) := s5.third.cell 0 rfl
          have df : ∀ i, w4.frozen? ⟨wb, i, none⟩ = false := fun i => s5.third.frozen i
          have nb : w.heap.size ≠ wb := by
            intro e
            exact (s5.third.row_ne) e.symm
          have nb2 : b ≠ wb := fun e => (s5.third.drop2.row_ne) e.symm
          have HS := Lib.hid s5
          clear s5 s2 s3
          go_wp2
          go_ret
          have h := (((((HS.out.third.set 0 (.int .i64 (k : Int))).third.set 0 (.int .i64 v.spaces)).set 1 (.int .i64 v.i)).set 2 (.int .i64 v.tab)).set 3 (.string v.text)).set 4 (.int .u8 v.nl.toNat)
          exact ⟨rfl, h.third.drop1⟩

end Go.Proofs.YtbfmmikllelfeaaGreatDoor

/- A thematic break: isHR. -/
namespace Go.Proofs.YtbfmmikllelfeaaGreatDoor
open Go.RowKit Sl

def Ln.hrGo (c : UInt8) : Nat → Nat → Ln → Nat × Ln
  | 0, n, t => (n, t)
  | k + 1, n, t => match t.trim c with
    | some u => hrGo c k (n + 1) u.skip
    | none => (n, t)

def Ln.isMark (c : UInt8) : Bool := c == 45 || c == 95 || c == 42

def Ln.hr (x : Ln) : Bool :=
  isMark x.indent.peek && (decide (3 ≤ (hrGo x.indent.peek (x.indent.text.size + 1) 0 x.indent).1) && decide ((hrGo x.indent.peek (x.indent.text.size + 1) 0 x.indent).2.text.size ≤ (hrGo x.indent.peek (x.indent.text.size + 1) 0 x.indent).2.i))

theorem Ln.trim_next {x u : Ln} {c : UInt8} (hc : c ≠ 32) (h : x.trim c = some u) : u.i = x.i + 1 ∧ u.spaces = 0 := by
  unfold Ln.trim at h
  split at h
  · first | (cases h; done) | (rw [if_neg hc] at h; cases h)
  · split at h
    · obtain rfl := Option.some.inj h
      exact ⟨rfl, by simp only; omega⟩
    · cases h

set_option maxRecDepth 100000 in
set_option maxHeartbeats 1000000 in
theorem isHR_w (x : Ln) (w : World) (F : HP) (hx : x.OK) (hs : Sat w F) :
    Calls Tryz.prog 201 #[x.agg] w fun e w' => e = .returned (.bool x.hr) ∧ Sat w' F := by
  have h1 : Sat (w.alloc (.cells x.cells.toArray 181)) (row w.heap.size 181 x.cells * F) := hs.new _ _ rfl
  have h2 := h1.new (d := w.heap.size + 1) x.cells 181 (by simp)
  have hxi := Ln.indent_ok hx
  generalize hq : x.hr = q
  unfold Ln.hr at hq
  generalize hi : x.indent = xi at hxi hq
  have hi' : (x.trimSpace 0 3 false).getD x = xi := hi
  have HI2 := Lib.hid hi'
  clear hi hi'
  generalize hc : xi.peek = c at hq
  have HC := Lib.hid hc
  clear hc
  have HQ := Lib.hid hq
  clear hq
  unfold Ln.agg
  by_cases hm : Ln.isMark c = true
  · have hm3 : c = 45 ∨ c = 95 ∨ c = 42 := by simpa [Ln.isMark, or_assoc] using hm
    have hq2 := HQ.out
    rw [hm, Bool.true_and] at hq2
    generalize hr : Ln.hrGo c (xi.text.size + 1) 0 xi = R at hq2
    have HR := Lib.hid hr
    have HQ2 := Lib.hid hq2
    clear hm hq2 hr HQ
    have h32 : c ≠ 32 := by rcases hm3 with rfl | rfl | rfl <;> decide
    have hb : ((c.toNat : Int) == 45) = true ∨ (((c.toNat : Int) == 45) = false ∧ ((c.toNat : Int) == 95) = true) ∨ (((c.toNat : Int) == 45) = false ∧ ((c.toNat : Int) == 95) = false ∧ ((c.toNat : Int) == 42) = true) := by
      rcases hm3 with rfl | rfl | rfl <;> decide
    clear hm3
    rcases hb with e1 | ⟨e1, e2⟩ | ⟨e1, e2, e3⟩
    all_goals
      go_enter Tryz.func201, Tryz.ntmps201
      go_wp2_with fail
      refine (trimSpace_w _ x 0 3 false _ _ hx (by decide) h2).mono ?_
      rintro e w1 ⟨rfl, s1⟩
      rw [HI2.out] at s1
      go_wp2_with fail
      refine (peek_w _ xi _ _ hxi.1 s1).mono ?_
      rintro e w2 ⟨rfl, m, rfl⟩
      rw [HC.out]
      clear h1 h2
      go_wp2
      go_loopw [5] (fun n wr => ∃ (k : Nat) (u : Ln), n = .int .i64 k ∧ k ≤ u.i ∧ u.OK ∧ u.text = xi.text ∧ Ln.hrGo c (xi.text.size + 1 - k) k u = R ∧ Sat wr (row (w.heap.size + 1) 181 u.cells * (row w.heap.size 181 x.cells * F))) (fun n _ => xi.text.size + 1 - (intOf n).toNat)
      case atStart => exact ⟨0, xi, rfl, Nat.zero_le _, hxi.1, rfl, HR.out, by first | exact s1.drewN _ | exact s1⟩
      case round =>
        obtain ⟨k, u, rfl, hki, hu, hut, hg, s3⟩ := hrel
        have hui := hu.i
        have hus := hu.size
        rw [hut] at hui hus
        rw [show xi.text.size + 1 - k = (xi.text.size + 1 - (k + 1)) + 1 by omega, Ln.hrGo] at hg
        generalize htu : u.trim c = o at hg
        have HTU := Lib.hid htu
        clear htu
        cases o with
        | some u' =>
          simp only at hg
          have HG := Lib.hid hg
          clear hg
          obtain ⟨t1, t2, t3⟩ := Ln.trim_ok hu HTU.out
          obtain ⟨n1, n2⟩ := Ln.trim_next h32 HTU.out
          obtain ⟨k1, k2, k3⟩ := Ln.skip_ok t1
          have hui' : u'.skip.i = u'.i + (u'.rest.takeWhile B.isST).length := rfl
          go_wp2_with fail
          refine (trim_w _ u c _ _ hu s3).mono ?_
          rw [HTU.out]
          rintro e w3 ⟨rfl, s4⟩
          simp only [Option.getD_some] at s4
          go_wp2_with fail
          refine (skipSpace_w _ u' _ _ t1 s4).mono ?_
          rintro e w4 ⟨rfl, s5⟩
          go_wp2
          go_roundw
          case rel => exact ⟨k + 1, u'.skip, by go_num, by omega, k1, k2.trans (t2.trans hut), HG.out, s5⟩
          case measure => simp [intOf]; omega
        | none =>
          simp only at hg
          subst hg
          have hq3 := HQ2.out
          simp only [hut] at hq3
          have HQ3 := Lib.hid hq3
          clear hq3
          go_wp2_with fail
          refine (trim_w _ u c _ _ hu s3).mono ?_
          rw [HTU.out]
          rintro e w3 ⟨rfl, s4⟩
          simp only [Option.getD_none] at s4
          by_cases hk3 : 3 ≤ k
          · go_wp2_with fail
            refine (eof_w _ u _ _ s4).mono ?_
            rintro e w4 ⟨rfl, m4, rfl⟩
            go_wp2
            go_ret
            refine ⟨ret_bool ?_, (s4.drewN _).drop1.drop1⟩
            rw [← HQ3.out, hxi.2.1]
            simp [hk3]
          · go_wp2
            go_ret
            refine ⟨ret_bool ?_, s4.drop1.drop1⟩
            rw [← HQ3.out]
            simp [hk3]
  · have hm0 : Ln.isMark c = false := by simpa using hm
    have hq2 := HQ.out
    rw [hm0, Bool.false_and] at hq2
    subst hq2
    simp only [Ln.isMark, Bool.or_eq_false_iff, beq_eq_false_iff_ne, ne_eq] at hm0
    have n1 : ((c.toNat : Int) == 45) = false := u8_ne (b := 45) hm0.1.1
    have n2 : ((c.toNat : Int) == 95) = false := u8_ne (b := 95) hm0.1.2
    have n3 : ((c.toNat : Int) == 42) = false := u8_ne (b := 42) hm0.2
    clear hm hm0 HQ
    go_enter Tryz.func201, Tryz.ntmps201
    go_wp2_with fail
    refine (trimSpace_w _ x 0 3 false _ _ hx (by decide) h2).mono ?_
    rintro e w1 ⟨rfl, s1⟩
    rw [HI2.out] at s1
    go_wp2_with fail
    refine (peek_w _ xi _ _ hxi.1 s1).mono ?_
    rintro e w2 ⟨rfl, m, rfl⟩
    rw [HC.out]
    go_wp2
    go_ret
    exact ⟨rfl, (s1.drewN _).drop1.drop1⟩

end Go.Proofs.YtbfmmikllelfeaaGreatDoor

/- The starters that do not start: newQuote, newATXHeading, newHR. -/
namespace Go.Proofs.YtbfmmikllelfeaaGreatDoor
open Go.RowKit Sl

set_option maxRecDepth 100000 in
set_option maxHeartbeats 1000000 in
theorem newQuote_not (p : Option Addr) (x : Ln) (w : World) (F : HP) (hx : x.OK) (hq : x.quote = none) (hs : Sat w F) :
    Calls Tryz.prog 142 #[.pointer p, x.agg] w fun e w' => e = .returned (.tuple #[x.agg, .bool false]) ∧ Sat w' F := by
  have h1 : Sat (w.alloc (.cells x.cells.toArray 181)) (row w.heap.size 181 x.cells * F) := hs.new _ _ rfl
  have h2 := h1.new (d := w.heap.size + 1) Ln.zero.cells 181 (by simp)
  have hQ := fun w F hs => trimQuote_w x w F hx hs
  rw [hq] at hQ
  simp only [Option.getD_none, Option.isSome_none] at hQ
  have HQ := Lib.hid hQ
  clear hQ hq
  unfold Ln.agg at HQ ⊢
  go_enter Tryz.func142, Tryz.ntmps142
  go_wp2_with fail
  refine (HQ.out _ _ h2).mono ?_
  rintro e w1 ⟨rfl, s1⟩
  obtain ⟨a0, a1, a2, a3, a4, af⟩ := line_cells s1
  obtain ⟨b0, b1, b2, b3, b4, bf⟩ := line_cells s1.swap
  have l1 := s1.row_lt
  have l2 := s1.swap.row_lt
  have HS := Lib.hid s1
  clear s1 h1 h2
  go_wp2
  refine bodyPost_ret (v := .tuple #[x.agg, .bool false]) (by simp [results, Tryz.results142, go_sem, Ln.agg, *]) rfl ⟨rfl, ?_⟩
  exact ((((((HS.out.set 0 _).set 1 _).set 2 _).set 3 _).set 4 _).drop1.drop1.alloc _).drop1

set_option maxRecDepth 100000 in
set_option maxHeartbeats 1000000 in
theorem newATX_not (p : Option Addr) (x : Ln) (w : World) (F : HP) (hx : x.OK) (hq : x.heading = none) (hs : Sat w F) :
    Calls Tryz.prog 143 #[.pointer p, x.agg] w fun e w' => e = .returned (.tuple #[x.agg, .bool false]) ∧ Sat w' F := by
  have h1 : Sat (w.alloc (.cells x.cells.toArray 181)) (row w.heap.size 181 x.cells * F) := hs.new _ _ rfl
  have h2 := h1.new (d := w.heap.size + 1) Ln.zero.cells 181 (by simp)
  have h3 := h2.new (d := w.heap.size + 2) x.cells 181 (by simp)
  have h4 := (h3.new (d := w.heap.size + 3) [.int .i64 0] 3 (by simp)).swap
  have hQ := fun b wb n0 w F hs => trimHeading_w b wb x n0 w F hx hs
  rw [hq] at hQ
  simp only [Option.map_none, Option.getD_none, Option.isSome_none] at hQ
  have HQ := Lib.hid hQ
  clear hQ hq
  unfold Ln.agg
  go_enter Tryz.func143, Tryz.ntmps143
  go_wp2_with fail
  refine (HQ.out _ _ 0 _ _ h4).mono ?_
  rintro e w1 ⟨rfl, s1⟩
  have t1 := s1.drop1.drop1
  obtain ⟨a0, a1, a2, a3, a4, af⟩ := line_cells t1
  obtain ⟨b0, b1, b2, b3, b4, bf⟩ := line_cells t1.swap
  have HS := Lib.hid t1
  clear s1 t1 h1 h2 h3 h4
  go_wp2
  refine bodyPost_ret (v := .tuple #[x.agg, .bool false]) (by simp [results, Tryz.results143, go_sem, Ln.agg, *]) rfl ⟨rfl, ?_⟩
  exact (((((HS.out.set 0 _).set 1 _).set 2 _).set 3 _).set 4 _).drop1.drop1

set_option maxRecDepth 100000 in
set_option maxHeartbeats 1000000 in
theorem newHR_not (p : Option Addr) (x : Ln) (w : World) (F : HP) (hx : x.OK) (hq : x.hr = false) (hs : Sat w F) :
    Calls Tryz.prog 145 #[.pointer p, x.agg] w fun e w' => e = .returned (.tuple #[x.agg, .bool false]) ∧ Sat w' F := by
  have h1 : Sat (w.alloc (.cells x.cells.toArray 181)) (row w.heap.size 181 x.cells * F) := hs.new _ _ rfl
  have h2 := h1.new (d := w.heap.size + 1) Ln.zero.cells 181 (by simp)
  have hQ := fun w F hs => isHR_w x w F hx hs
  rw [hq] at hQ
  have HQ := Lib.hid hQ
  clear hQ hq
  unfold Ln.agg at HQ ⊢
  go_enter Tryz.func145, Tryz.ntmps145
  go_wp2_with fail
  refine (HQ.out _ _ h2).mono ?_
  rintro e w1 ⟨rfl, t1⟩
  obtain ⟨a0, a1, a2, a3, a4, af⟩ := line_cells t1
  obtain ⟨b0, b1, b2, b3, b4, bf⟩ := line_cells t1.swap
  have HS := Lib.hid t1
  clear t1 h1 h2
  go_wp2
  refine bodyPost_ret (v := .tuple #[x.agg, .bool false]) (by simp [results, Tryz.results145, go_sem, Ln.agg, *]) rfl ⟨rfl, ?_⟩
  exact (((((HS.out.set 0 _).set 1 _).set 2 _).set 3 _).set 4 _).drop1.drop1

end Go.Proofs.YtbfmmikllelfeaaGreatDoor

/- doneBlock: a finished block is laid into the innermost open one. -/
namespace Go.Proofs.YtbfmmikllelfeaaGreatDoor
open Go.RowKit Sl

theorem info_Block : (Tryz.prog.info? 97).map (fun i => (i.zero, i.size, i.bytes)) = some (some .nilIface, 1, 16) := by kernel_rfl

set_option maxRecDepth 100000 in
set_option maxHeartbeats 1000000 in
theorem doneBlock_w (p g n cap : Nat) (T : TypeId) (bp : Option Addr) (x : PSt) (pre junk items : List Value) (bd : Value) (inn : SV) (st en : Int) (F : HP) (w : World) (hn : n < 1000000000) (hil : inn.len ≤ 1000000000)
    (hd : x.depth = n) (hx : x.stack = ⟨some ⟨g, 0, none⟩, n + 1, cap⟩) (hpre : pre.length = n * 4)
    (hs : Sat w (row p 173 x.cells * (row g 197 (pre ++ [bd, inn.v, .int .i64 st, .int .i64 en] ++ junk) * (arr 97 1 inn.v inn.len items * F)))) :
    Calls Tryz.prog 195 #[.pointer (some ⟨p, 0, none⟩), .iface T (.pointer bp)] w fun e w' =>
      e = .returned (.tuple #[]) ∧ ∃ inn' : SV, inn'.len = inn.len + 1 ∧
        Sat w' (row p 173 x.cells * (row g 197 (pre ++ [bd, inn'.v, .int .i64 st, .int .i64 en] ++ junk) * (arr 97 1 inn'.v inn'.len (items ++ [.iface T (.pointer bp)]) * F))) := by
  obtain ⟨i0, hi, hz0, hz1, hz2⟩ := info_parts info_Block
  obtain ⟨f0, f1, f2, f3, f4, f5, f6, f7, f8, f9, f10, f11, fz, hlp⟩ := PSt.facts hs
  rw [hx] at f4
  rw [hd] at f5
  clear f0 f1 f2 f3 f6 f7 f8 f9 f10 f11
  have hs2 := hs.swap
  have g1 : w.cell? ⟨g, n * 4 + 1, none⟩ = some inn.v := hs2.cell (n * 4 + 1) (by rw [List.append_assoc, List.getElem?_append_right (by omega), hpre]; simp)
  have gz := fun i => hs2.frozen i
  have hlg := hs2.row_lt
  have hne : ¬ g = p := hs2.row_ne
  have hne' : ¬ p = g := Ne.symm hne
  have hsA := (hs.cast (show _ = arr 97 1 inn.v inn.len items * (row p 173 x.cells * (row g 197 (pre ++ [bd, inn.v, .int .i64 st, .int .i64 en] ++ junk) * F)) from by ac_rfl))
  clear hs hs2
  unfold SV.v at g1
  have ht := trimStack_noop p (n + 1) cap (some ⟨g, 0, none⟩) w (by omega) f4
  rw [show ((n + 1 : Nat) : Int) = (n : Int) + 1 from rfl] at ht
  have HT := Lib.hid ht
  clear ht
  go_enter Tryz.func195, Tryz.ntmps195
  go_wp2_with (go_at_call 91; refine HT.out.mono ?_; rintro e w' ⟨rfl, rfl⟩; refine Hid.out ?_)
  refine Lib.hid ?_
  go_wp2
  go_quiet (fail)
  have hsB := (hsA.drewN nq).new [.iface T (.pointer bp)] 97 rfl
  have hsC := hsB.cast (show _ = arr 97 1 inn.v inn.len items * (row (w.drewN nq).heap.size 97 [.iface T (.pointer bp)] * (row p 173 x.cells * (row g 197 (pre ++ [bd, inn.v, .int .i64 st, .int .i64 en] ++ junk) * F))) from by ac_rfl)
  go_wp2_with (at_builtin; refine wpList_append_sl rfl (.tmp 27) (.tmp 29) 114 rfl 97 i0 _ 1 16 Tryz.underlying114 hi hz0 hz1 hz2 rfl inn.v _ items rfl hsC ⟨(w.drewN nq).heap.size, 0, none⟩ 1 1 [.iface T (.pointer bp)] rfl rfl ?c1 ?c2 ?c3 ?c4 (by decide) ?_)
  case c1 => exact cells_new _ _ _
  case c2 => intro u hu; simp at hu; rcases hu with rfl; rfl
  case c3 => unfold maxLen; omega
  case c4 => omega
  intro g2 cap2 w1 hs1 hz1
  have hs2 := hs1.cast (show _ = row g 197 (pre ++ [bd, inn.v, .int .i64 st, .int .i64 en] ++ junk) * (row (w.drewN nq).heap.size 97 [.iface T (.pointer bp)] * (row p 173 x.cells * (arr 97 1 (.slice (some ⟨g2, 0, none⟩) (inn.len + 1) cap2) (inn.len + 1) (items ++ [.iface T (.pointer bp)]) * F))) from by ac_rfl)
  have k1 : w1.cell? ⟨g, n * 4 + 1, none⟩ = some inn.v := hs2.cell (n * 4 + 1) (by rw [List.append_assoc, List.getElem?_append_right (by omega), hpre]; simp)
  have kz := fun i => hs2.frozen i
  have klt := hs2.row_lt
  unfold SV.v at k1
  go_wp2
  go_end0
  have h5 := hs2.set (n * 4 + 1) (.slice (some ⟨g2, 0, none⟩) (inn.len + 1) cap2)
  rw [set_mid (i := 1) _ (by omega) (by simp)] at h5
  refine ⟨rfl, ⟨some ⟨g2, 0, none⟩, inn.len + 1, cap2⟩, rfl, ?_⟩
  exact h5.drop2.cast (by unfold SV.v; ac_rfl)

end Go.Proofs.YtbfmmikllelfeaaGreatDoor

/- trimSpaceString: a line's rest without its leading spaces. -/
namespace Go.Proofs.YtbfmmikllelfeaaGreatDoor
open Go.RowKit Sl

set_option maxRecDepth 100000 in
set_option maxHeartbeats 1000000 in
theorem trimStr_w (b : Nat) (x : Ln) (w : World) (F : HP) (hx : x.OK) (hs : Sat w (row b 181 x.cells * F)) :
    Calls Tryz.prog 151 #[.pointer (some ⟨b, 0, none⟩)] w fun e w' => e = .returned (.string (B.bs (B.trimL x.rest))) ∧ ∃ m, w' = w.drewN m := by
  obtain ⟨spaces, i, tab, text, nl⟩ := x
  have c1 : w.cell? ⟨b, 1, none⟩ = some (.int .i64 i) := hs.cell 1 rfl
  have c3 : w.cell? ⟨b, 3, none⟩ = some (.string text) := hs.cell 3 rfl
  obtain ⟨x1, x2, x3, x4⟩ := hx
  simp only at x1 x2 x3 x4
  clear hs
  have hr : text.extract i text.size = B.bs (text.data.toList.drop i) := B.extract_end _ _
  have hz : (B.bs (text.data.toList.drop i)).size ≤ 1000000000000 := by rw [B.bs_size, List.length_drop, ← B.size_data]; omega
  have HR := Lib.hid hr
  clear hr
  unfold Ln.rest
  go_enter Tryz.func151, Tryz.ntmps151
  go_wp2
  go_quiet ((go_at_call 141; rw [HR.out]; exact quiet_same (trimLeft_w _ _ hz)))
  go_wp2
  go_ret
  exact ⟨rfl, _, rfl⟩

end Go.Proofs.YtbfmmikllelfeaaGreatDoor

/- A paragraph that begins with no bracket has no link reference definition. -/
namespace Go.Proofs.YtbfmmikllelfeaaGreatDoor
open Go.RowKit Sl

set_option maxRecDepth 100000 in
set_option maxHeartbeats 1000000 in
theorem skipSpace_stay (c : UInt8) (t : List UInt8) (w : World) (h1 : c ≠ 32) (h2 : c ≠ 9) (h3 : c ≠ 10) (_hl : t.length ≤ 1000000000) :
    Calls Tryz.prog 171 #[.string (B.bs (c :: t)), .int .i64 0] w fun e w' => e = .returned (.int .i64 0) ∧ w = w' := by
  have hz : (B.bs (c :: t)).size = t.length + 1 := rfl
  have hix : ∀ h, (B.bs (c :: t))[0]'h = c := fun _ => rfl
  have e1 : ((c.toNat : Int) == 32) = false := u8_ne (b := 32) h1
  have e2 : ((c.toNat : Int) == 9) = false := u8_ne (b := 9) h2
  have e3 : ((c.toNat : Int) == 10) = false := u8_ne (b := 10) h3
  go_enter Tryz.func171, Tryz.ntmps171
  go_wp2
  go_loopw [1] (fun i wr => i = .int .i64 0 ∧ w = wr) (fun _ _ => 0)
  case atStart => exact ⟨rfl, rfl⟩
  case round =>
    obtain ⟨rfl, rfl⟩ := hrel
    go_wp2
    go_ret
    exact ⟨rfl, rfl⟩

set_option maxRecDepth 100000 in
set_option maxHeartbeats 1000000 in
theorem linkLabel_not (p : Value) (c : UInt8) (t : List UInt8) (w : World) (h1 : c ≠ 91) (_hl : t.length ≤ 1000000000) :
    Calls Tryz.prog 174 #[p, .string (B.bs (c :: t)), .int .i64 0] w fun e w' => e = .returned (.tuple #[.string ⟨#[]⟩, .int .i64 0, .bool false]) ∧ w = w' := by
  have hz : (B.bs (c :: t)).size = t.length + 1 := rfl
  have hix : ∀ h, (B.bs (c :: t))[0]'h = c := fun _ => rfl
  have e1 : ((c.toNat : Int) != 91) = true := by
    have := u8_ne (b := 91) h1
    have h : ((c.toNat : Int) == 91) = false := this
    rw [bne, h]; rfl
  go_enter Tryz.func174, Tryz.ntmps174
  go_wp2
  refine bodyPost_ret (v := .tuple #[.string ⟨#[]⟩, .int .i64 0, .bool false]) (by simp [results, Tryz.results174, go_sem]) rfl ⟨rfl, rfl⟩

set_option maxRecDepth 100000 in
set_option maxHeartbeats 1000000 in
theorem linkDef_not (p : Option Addr) (c : UInt8) (t : List UInt8) (w : World) (h1 : c ≠ 32) (h2 : c ≠ 9) (h3 : c ≠ 10) (h4 : c ≠ 91) (hl : t.length ≤ 1000000000) :
    Calls Tryz.prog 395 #[.iface 193 (.pointer p), .string (B.bs (c :: t))] w fun e w' => e = .returned (.tuple #[.int .i64 0, .bool false]) ∧ w = w' := by
  have hta : ∀ w, (Instr.typeAssert (.iface 193 (.pointer p)) 417 193 false).run Tryz.prog w = .ok (.pointer p) w := fun w => by rfl
  go_enter Tryz.func395, Tryz.ntmps395
  go_wp2_with fail
  refine (skipSpace_stay c t w h1 h2 h3 hl).mono ?_
  rintro e w1 ⟨rfl, rfl⟩
  go_wp2_with fail
  refine (linkLabel_not _ c t w h4 hl).mono ?_
  rintro e w1 ⟨rfl, rfl⟩
  go_wp2
  refine bodyPost_ret (v := .tuple #[.int .i64 0, .bool false]) (by simp [results, Tryz.results395, go_sem]) rfl ⟨rfl, rfl⟩

end Go.Proofs.YtbfmmikllelfeaaGreatDoor
