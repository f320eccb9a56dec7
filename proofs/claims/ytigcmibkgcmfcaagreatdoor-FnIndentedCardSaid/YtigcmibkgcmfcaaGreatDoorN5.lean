/- A thematic break: isHR. -/
import Derived.Test.YtigcmibkgcmfcaaGreatDoorN4
namespace Go.Proofs.YtigcmibkgcmfcaaGreatDoor
open Go.RowKit Sl

def Ln.hrGo (c : UInt8) : Nat → Nat → Ln → Nat × Ln
  | 0, n, t => (n, t)
  | k + 1, n, t => match t.trim c with
    | some u => hrGo c k (n + 1) u.skip
    | none => (n, t)

def Ln.isMark (c : UInt8) : Bool := c == 45 || c == 95 || c == 42

def Ln.hr (x : Ln) : Bool :=
  isMark x.indent.peek && (decide (3 ≤ (hrGo x.indent.peek (x.indent.text.size + 1) 0 x.indent).1) && decide ((hrGo x.indent.peek (x.indent.text.size + 1) 0 x.indent).2.text.size ≤ (hrGo x.indent.peek (x.indent.text.size + 1) 0 x.indent).2.i))

theorem Ln.trim_next {x u : Ln} {c : UInt8} (hc : c ≠ 32) (h : x.trim c = some u) : u.i = x.i + 1 ∧ u.spaces = 0 := by
  unfold Ln.trim at h
  split at h
  · first | (cases h; done) | (rw [if_neg hc] at h; cases h)
  · split at h
    · obtain rfl := Option.some.inj h
      exact ⟨rfl, by simp only; omega⟩
    · cases h

set_option maxRecDepth 100000 in
set_option maxHeartbeats 1000000 in
theorem isHR_w (x : Ln) (w : World) (F : HP) (hx : x.OK) (hs : Sat w F) :
    Calls Tryz.prog 135 #[x.agg] w fun e w' => e = .returned (.bool x.hr) ∧ Sat w' F := by
  have h1 : Sat (w.alloc (.cells x.cells.toArray 101)) (row w.heap.size 101 x.cells * F) := hs.new _ _ rfl
  have h2 := h1.new (d := w.heap.size + 1) x.cells 101 (by simp)
  have hxi := Ln.indent_ok hx
  generalize hq : x.hr = q
  unfold Ln.hr at hq
  generalize hi : x.indent = xi at hxi hq
  have hi' : (x.trimSpace 0 3 false).getD x = xi := hi
  have HI2 := Lib.hid hi'
  clear hi hi'
  generalize hc : xi.peek = c at hq
  have HC := Lib.hid hc
  clear hc
  have HQ := Lib.hid hq
  clear hq
  unfold Ln.agg
  by_cases hm : Ln.isMark c = true
  · have hm3 : c = 45 ∨ c = 95 ∨ c = 42 := by simpa [Ln.isMark, or_assoc] using hm
    have hq2 := HQ.out
    rw [hm, Bool.true_and] at hq2
    generalize hr : Ln.hrGo c (xi.text.size + 1) 0 xi = R at hq2
    have HR := Lib.hid hr
    have HQ2 := Lib.hid hq2
    clear hm hq2 hr HQ
    have h32 : c ≠ 32 := by rcases hm3 with rfl | rfl | rfl <;> decide
    have hb : ((c.toNat : Int) == 45) = true ∨ (((c.toNat : Int) == 45) = false ∧ ((c.toNat : Int) == 95) = true) ∨ (((c.toNat : Int) == 45) = false ∧ ((c.toNat : Int) == 95) = false ∧ ((c.toNat : Int) == 42) = true) := by
      rcases hm3 with rfl | rfl | rfl <;> decide
    clear hm3
    rcases hb with e1 | ⟨e1, e2⟩ | ⟨e1, e2, e3⟩
    all_goals
      go_enter Tryz.func135, Tryz.ntmps135
      go_wp2_with fail
      refine (trimSpace_w _ x 0 3 false _ _ hx (by decide) h2).mono ?_
      rintro e w1 ⟨rfl, s1⟩
      rw [HI2.out] at s1
      go_wp2_with fail
      refine (peek_w _ xi _ _ hxi.1 s1).mono ?_
      rintro e w2 ⟨rfl, m, rfl⟩
      rw [HC.out]
      clear h1 h2
      go_wp2
      go_loopw [5] (fun n wr => ∃ (k : Nat) (u : Ln), n = .int .i64 k ∧ k ≤ u.i ∧ u.OK ∧ u.text = xi.text ∧ Ln.hrGo c (xi.text.size + 1 - k) k u = R ∧ Sat wr (row (w.heap.size + 1) 101 u.cells * (row w.heap.size 101 x.cells * F))) (fun n _ => xi.text.size + 1 - (intOf n).toNat)
      case atStart => exact ⟨0, xi, rfl, Nat.zero_le _, hxi.1, rfl, HR.out, by first | exact s1.drewN _ | exact s1⟩
      case round =>
        obtain ⟨k, u, rfl, hki, hu, hut, hg, s3⟩ := hrel
        have hui := hu.i
        have hus := hu.size
        rw [hut] at hui hus
        rw [show xi.text.size + 1 - k = (xi.text.size + 1 - (k + 1)) + 1 by omega, Ln.hrGo] at hg
        generalize htu : u.trim c = o at hg
        have HTU := Lib.hid htu
        clear htu
        cases o with
        | some u' =>
          simp only at hg
          have HG := Lib.hid hg
          clear hg
          obtain ⟨t1, t2, t3⟩ := Ln.trim_ok hu HTU.out
          obtain ⟨n1, n2⟩ := Ln.trim_next h32 HTU.out
          obtain ⟨k1, k2, k3⟩ := Ln.skip_ok t1
          have hui' : u'.skip.i = u'.i + (u'.rest.takeWhile B.isST).length := rfl
          go_wp2_with fail
          refine (trim_w _ u c _ _ hu s3).mono ?_
          rw [HTU.out]
          rintro e w3 ⟨rfl, s4⟩
          simp only [Option.getD_some] at s4
          go_wp2_with fail
          refine (skipSpace_w _ u' _ _ t1 s4).mono ?_
          rintro e w4 ⟨rfl, s5⟩
          go_wp2
          go_roundw
          case rel => exact ⟨k + 1, u'.skip, by go_num, by omega, k1, k2.trans (t2.trans hut), HG.out, s5⟩
          case measure => simp [intOf]; omega
        | none =>
          simp only at hg
          subst hg
          have hq3 := HQ2.out
          simp only [hut] at hq3
          have HQ3 := Lib.hid hq3
          clear hq3
          go_wp2_with fail
          refine (trim_w _ u c _ _ hu s3).mono ?_
          rw [HTU.out]
          rintro e w3 ⟨rfl, s4⟩
          simp only [Option.getD_none] at s4
          by_cases hk3 : 3 ≤ k
          · go_wp2_with fail
            refine (eof_w _ u _ _ s4).mono ?_
            rintro e w4 ⟨rfl, m4, rfl⟩
            go_wp2
            go_ret
            refine ⟨ret_bool ?_, (s4.drewN _).drop1.drop1⟩
            rw [← HQ3.out, hxi.2.1]
            simp [hk3]
          · go_wp2
            go_ret
            refine ⟨ret_bool ?_, s4.drop1.drop1⟩
            rw [← HQ3.out]
            simp [hk3]
  · have hm0 : Ln.isMark c = false := by simpa using hm
    have hq2 := HQ.out
    rw [hm0, Bool.false_and] at hq2
    subst hq2
    simp only [Ln.isMark, Bool.or_eq_false_iff, beq_eq_false_iff_ne, ne_eq] at hm0
    have n1 : ((c.toNat : Int) == 45) = false := u8_ne (b := 45) hm0.1.1
    have n2 : ((c.toNat : Int) == 95) = false := u8_ne (b := 95) hm0.1.2
    have n3 : ((c.toNat : Int) == 42) = false := u8_ne (b := 42) hm0.2
    clear hm hm0 HQ
    go_enter Tryz.func135, Tryz.ntmps135
    go_wp2_with fail
    refine (trimSpace_w _ x 0 3 false _ _ hx (by decide) h2).mono ?_
    rintro e w1 ⟨rfl, s1⟩
    rw [HI2.out] at s1
    go_wp2_with fail
    refine (peek_w _ xi _ _ hxi.1 s1).mono ?_
    rintro e w2 ⟨rfl, m, rfl⟩
    rw [HC.out]
    go_wp2
    go_ret
    exact ⟨rfl, (s1.drewN _).drop1.drop1⟩

end Go.Proofs.YtigcmibkgcmfcaaGreatDoor
