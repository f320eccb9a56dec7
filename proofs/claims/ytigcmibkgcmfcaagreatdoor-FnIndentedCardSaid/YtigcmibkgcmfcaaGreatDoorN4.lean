/- A heading's marks: trimHeading. -/
import Derived.Test.YtigcmibkgcmfcaaGreatDoorN3
namespace Go.Proofs.YtigcmibkgcmfcaaGreatDoor
open Go.RowKit Sl

def Ln.hashes : Nat → Nat → Ln → Nat × Ln
  | 0, n, t => (n, t)
  | k + 1, n, t => match t.trim 35 with
    | some t' => hashes k (n + 1) t'
    | none => (n, t)

theorem Ln.hashes_ok : ∀ {k n : Nat} {t : Ln}, t.OK → (hashes k n t).2.OK ∧ (hashes k n t).2.text = t.text ∧ (hashes k n t).2.nl = t.nl ∧ n ≤ (hashes k n t).1 ∧ (hashes k n t).1 ≤ n + k
  | 0, _, _, h => ⟨h, rfl, rfl, Nat.le_refl _, Nat.le_refl _⟩
  | k + 1, n, t, h => by
    simp only [Ln.hashes]
    cases e : t.trim 35 with
    | none => exact ⟨h, rfl, rfl, Nat.le_refl _, by simp only; omega⟩
    | some u =>
      obtain ⟨h1, h2, h3⟩ := trim_ok h e
      obtain ⟨i1, i2, i3, i4, i5⟩ := hashes_ok (k := k) (n := n + 1) h1
      exact ⟨i1, i2.trans h2, i3.trans h3, by simp only; omega, by simp only; omega⟩

def Ln.heading (x : Ln) : Option (Nat × Ln) := match x.indent.trim 35 with
  | none => none
  | some t => ((hashes 5 1 t).2.trimSpace 1 1 true).map fun v => ((hashes 5 1 t).1, v)

theorem Ln.heading_ok {x v : Ln} {n : Nat} (h : x.OK) (e : x.heading = some (n, v)) : v.OK ∧ v.text = x.text ∧ v.nl = x.nl ∧ 1 ≤ n ∧ n ≤ 6 := by
  unfold Ln.heading at e
  obtain ⟨h1, h2, h3⟩ := indent_ok h
  cases ht : x.indent.trim 35 with
  | none => rw [ht] at e; cases e
  | some t =>
    rw [ht] at e
    simp only [Option.map_eq_some_iff, Prod.mk.injEq] at e
    obtain ⟨u, hu, rfl, rfl⟩ := e
    obtain ⟨i1, i2, i3⟩ := trim_ok h1 ht
    obtain ⟨j1, j2, j3, j4, j5⟩ := hashes_ok (k := 5) (n := 1) i1
    obtain ⟨k1, k2, k3⟩ := trimSpace_ok j1 hu
    exact ⟨k1, k2.trans (j2.trans (i2.trans h2)), k3.trans (j3.trans (i3.trans h3)), j4, j5⟩

set_option maxRecDepth 100000 in
set_option maxHeartbeats 1000000 in
theorem trimHeading_w (b wb : Nat) (x : Ln) (n0 : Int) (w : World) (F : HP) (hx : x.OK) (hs : Sat w (row b 101 x.cells * (row wb 3 [.int .i64 n0] * F))) :
    Calls Tryz.prog 123 #[.pointer (some ⟨b, 0, none⟩), .pointer (some ⟨wb, 0, none⟩)] w fun e w' =>
      e = .returned (.bool x.heading.isSome) ∧ Sat w' (row b 101 ((x.heading.map Prod.snd).getD x).cells * (row wb 3 [.int .i64 ((x.heading.map fun q => (q.1 : Int)).getD n0)] * F)) := by
  obtain ⟨c0, c1, c2, c3, c4, cf⟩ := line_cells hs
  have hlb := hs.row_lt
  have h1 := hs.new (d := w.heap.size) x.cells 101 rfl
  generalize hq : x.heading = q
  have hq' : (match x.indent.trim 35 with | none => none | some t => ((Ln.hashes 5 1 t).2.trimSpace 1 1 true).map fun v => ((Ln.hashes 5 1 t).1, v)) = q := hq
  have HQ := Lib.hid hq'
  clear hq hq'
  have hxi := Ln.indent_ok hx
  generalize hi : x.indent = xi at hxi
  have hi' : (x.trimSpace 0 3 false).getD x = xi := hi
  have HI := Lib.hid hi
  have HI2 := Lib.hid hi'
  clear hi hi'
  have h35 : ((35 : UInt8).toNat : Int) = 35 := rfl
  go_enter Tryz.func123, Tryz.ntmps123
  go_wp2_with fail
  refine (trimSpace_w _ x 0 3 false _ _ hx (by decide) h1).mono ?_
  rintro e w1 ⟨rfl, s1⟩
  rw [HI2.out] at s1
  go_wp2_with fail
  refine (trim_w _ xi 35 _ _ hxi.1 s1).mono ?_
  cases ht : xi.trim 35 with
  | none =>
    rintro e w2 ⟨rfl, s2⟩
    have hqq := HQ.out
    rw [HI.out, ht] at hqq
    simp only at hqq
    subst hqq
    go_wp2
    go_ret
    exact ⟨rfl, s2.drop1⟩
  | some t =>
    rintro e w2 ⟨rfl, s2⟩
    simp only [Option.getD_some] at s2
    have hqq := HQ.out
    rw [HI.out, ht] at hqq
    simp only at hqq
    have ht1 := (Ln.trim_ok hxi.1 ht).1
    generalize hhr : Ln.hashes 5 1 t = R at hqq
    have HH := Lib.hid hhr
    have HQQ := Lib.hid hqq
    clear hqq hhr s1 c0 c1 c2 c3 c4 h1
    go_wp2
    go_loopw [6] (fun n wr => ∃ (k : Nat) (u : Ln), 1 ≤ k ∧ k ≤ 6 ∧ n = .int .i64 k ∧ u.OK ∧ Ln.hashes (6 - k) k u = R ∧ Sat wr (row w.heap.size 101 u.cells * (row b 101 x.cells * (row wb 3 [.int .i64 n0] * F)))) (fun n _ => 7 - (intOf n).toNat)
    case atStart => exact ⟨1, t, by decide, by decide, rfl, ht1, HH.out, s2⟩
    case round =>
      obtain ⟨k, u, hk1, hk6, rfl, hu, hg, s3⟩ := hrel
      by_cases hlt : k < 6
      · rw [show 6 - k = (6 - (k + 1)) + 1 by omega, Ln.hashes] at hg
        cases htu : u.trim 35 with
        | some u' =>
          rw [htu] at hg
          simp only at hg
          have HG := Lib.hid hg
          clear hg
          go_wp2_with fail
          refine (trim_w _ u 35 _ _ hu s3).mono ?_
          rw [htu]
          rintro e w3 ⟨rfl, s4⟩
          simp only [Option.getD_some] at s4
          go_wp2
          go_roundw
          case rel => exact ⟨k + 1, u', by omega, by omega, by go_num, (Ln.trim_ok hu htu).1, HG.out, s4⟩
          case measure => simp [intOf]; omega
        | none =>
          rw [htu] at hg
          simp only at hg
          have hR : (k, u) = R := hg
          clear hg
          go_wp2_with fail
          refine (trim_w _ u 35 _ _ hu s3).mono ?_
          rw [htu]
          rintro e w3 ⟨rfl, s4⟩
          simp only [Option.getD_none] at s4
          go_wp2_with fail
          refine (trimSpace_w _ u 1 1 true _ _ hu (by decide) s4).mono ?_
          cases hv : u.trimSpace 1 1 true with
          | none =>
            rintro e w4 ⟨rfl, s5⟩
            have hqq := HQQ.out
            rw [← hR, hv] at hqq
            simp only [Option.map_none] at hqq
            subst hqq
            go_wp2
            go_ret
            exact ⟨rfl, s5.drop1⟩
          | some v =>
            rintro e w4 ⟨rfl, s5⟩
            simp only [Option.getD_some] at s5
            have hqq := HQQ.out
            rw [← hR, hv] at hqq
            simp only [Option.map_some] at hqq
            subst hqq
            obtain ⟨a0, a1, a2, a3, a4, af⟩ := line_cells s5
            obtain ⟨b0, b1, b2, b3, b4, bf⟩ := line_cells s5.swap
            have d0 : w4.cell? ⟨wb, 0, none⟩ = some (.int .i64 n0) := s5.third.cell 0 rfl
            have df : ∀ i, w4.frozen? ⟨wb, i, none⟩ = false := fun i => s5.third.frozen i
            have nb : w.heap.size ≠ wb := by
              intro e
              exact (s5.third.row_ne) e.symm
            have nb2 : b ≠ wb := fun e => (s5.third.drop2.row_ne) e.symm
            have HS := Lib.hid s5
            clear s5 s2 s3
            go_wp2
            go_ret
            have h := (((((HS.out.third.set 0 (.int .i64 (k : Int))).third.set 0 (.int .i64 v.spaces)).set 1 (.int .i64 v.i)).set 2 (.int .i64 v.tab)).set 3 (.string v.text)).set 4 (.int .u8 v.nl.toNat)
            exact ⟨rfl, h.third.drop1⟩
      · have hR : (k, u) = R := by rw [← hg, show 6 - k = 0 by omega, Ln.hashes]
        clear hg
        go_wp2_with fail
        refine (trimSpace_w _ u 1 1 true _ _ hu (by decide) s3).mono ?_
        cases hv : u.trimSpace 1 1 true with
        | none =>
          rintro e w4 ⟨rfl, s5⟩
          have hqq := HQQ.out
          rw [← hR, hv] at hqq
          simp only [Option.map_none] at hqq
          subst hqq
          go_wp2
          go_ret
          exact ⟨rfl, s5.drop1⟩
        | some v =>
          rintro e w4 ⟨rfl, s5⟩
          simp only [Option.getD_some] at s5
          have hqq := HQQ.out
          rw [← hR, hv] at hqq
          simp only [Option.map_some] at hqq
          subst hqq
          obtain ⟨a0, a1, a2, a3, a4, af⟩ := line_cells s5
          obtain ⟨b0, b1, b2, b3, b4, bf⟩ := line_cells s5.swap
          have d0 : w4.cell? ⟨wb, 0, none⟩ = some (.int .i64 n0) := s5.third.cell 0 rfl
          have df : ∀ i, w4.frozen? ⟨wb, i, none⟩ = false := fun i => s5.third.frozen i
          have nb : w.heap.size ≠ wb := by
            intro e
            exact (s5.third.row_ne) e.symm
          have nb2 : b ≠ wb := fun e => (s5.third.drop2.row_ne) e.symm
          have HS := Lib.hid s5
          clear s5 s2 s3
          go_wp2
          go_ret
          have h := (((((HS.out.third.set 0 (.int .i64 (k : Int))).third.set 0 (.int .i64 v.spaces)).set 1 (.int .i64 v.i)).set 2 (.int .i64 v.tab)).set 3 (.string v.text)).set 4 (.int .u8 v.nl.toNat)
          exact ⟨rfl, h.third.drop1⟩

end Go.Proofs.YtigcmibkgcmfcaaGreatDoor
