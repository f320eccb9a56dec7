/- Lines that begin with digits behind which no list's mark stands. -/
import Derived.Test.YtcmpcjffmccllaaGreatDoorQ1
namespace Go.Proofs.YtcmpcjffmccllaaGreatDoor
open Go.RowKit Sl

def isDg (c : UInt8) : Bool := decide (48 ≤ c) && decide (c ≤ 57)
/-- Behind the digits at its begin neither a full stop nor a bracket stands. -/
def NoDot (r : List UInt8) : Prop := r[(r.takeWhile isDg).length]? ≠ some 46 ∧ r[(r.takeWhile isDg).length]? ≠ some 41

theorem dig_digit {c : UInt8} (h : isDg c = true) : ((c.toNat : Int) == 46) = false ∧ ((c.toNat : Int) == 41) = false ∧ decide ((c.toNat : Int) < 48) = false ∧ decide ((57 : Int) < (c.toNat : Int)) = false := by
  unfold isDg at h
  rw [Bool.and_eq_true, decide_eq_true_eq, decide_eq_true_eq] at h
  have a1 : 48 ≤ c.toNat := h.1
  have a2 : c.toNat ≤ 57 := h.2
  refine ⟨?_, ?_, ?_, ?_⟩ <;> simp <;> omega

theorem dig_stop {c : UInt8} (h : isDg c = false) : decide ((c.toNat : Int) < 48) = true ∨ (decide ((c.toNat : Int) < 48) = false ∧ decide ((57 : Int) < (c.toNat : Int)) = true) := by
  unfold isDg at h
  rw [Bool.and_eq_false_iff, decide_eq_false_iff_not, decide_eq_false_iff_not] at h
  have a1 : ¬ 48 ≤ c.toNat ∨ ¬ c.toNat ≤ 57 := h
  by_cases h48 : c.toNat < 48
  · left; simp; omega
  · right
    refine ⟨?_, ?_⟩ <;> simp <;> omega

set_option maxRecDepth 100000 in
set_option maxHeartbeats 2000000 in
theorem startListItem_dig (p : Option Addr) (b : Nat) (x : Ln) (c : UInt8) (w : World) (F : HP) (hx : x.OK) (hh : Heads x c) (hc : c = 48 ∨ c = 49 ∨ c = 57) (hno : NoDot x.rest) (hs : Sat w (row b 105 x.cells * F)) :
    Calls Tryz.prog 140 #[.pointer p, .pointer (some ⟨b, 0, none⟩)] w fun e w' => e = .returned (.bool false) ∧ Sat w' (row b 105 x.cells * F) := by
  have h1 := (hs.new (d := w.heap.size) [.pointer p] 117 rfl).drop1
  have h2 := h1.new (d := w.heap.size + 1) x.cells 105 (by simp)
  obtain ⟨c0, c1, c2, c3, c4, cf⟩ := line_cells hs
  have hbl := hs.row_lt
  have hT := fun w F hs => trimSpace_w (w.heap.size + 1) x 1 1 false w F hx (by decide) hs
  have hst := hh.stay 1 1 false (by decide) (by decide)
  have hP := hh.peek
  -- the letters of the line
  obtain ⟨D, hD⟩ : ∃ D, D = (x.rest.takeWhile isDg).length := ⟨_, rfl⟩
  have hrest : ∀ m, x.rest[m]? = x.text.data.toList[x.i + m]? := fun m => by
    unfold Ln.rest
    rw [List.getElem?_drop]
  have hsz : x.text.data.toList.length = x.text.size := (B.size_data _).symm
  have hdg : ∀ m, m < D → ∃ d : UInt8, x.i + m < x.text.size ∧ (∀ h, x.text[x.i + m]'h = d) ∧ isDg d = true := fun m hm => by
    obtain ⟨d, e1, e2⟩ := takeWhile_at (p := isDg) (l := x.rest) (j := m) (by omega)
    rw [hrest] at e1
    obtain ⟨a, e3⟩ := List.getElem?_eq_some_iff.1 e1
    exact ⟨d, by omega, fun _ => e3, e2⟩
  have hend : x.i + D < x.text.size → ∃ d : UInt8, (∀ h, x.text[x.i + D]'h = d) ∧ isDg d = false ∧ d ≠ 46 ∧ d ≠ 41 := fun hl => by
    have hl' : x.i + D < x.text.data.toList.length := by omega
    have e0 : x.rest[D]? = some x.text.data.toList[x.i + D] := by rw [hrest]; exact List.getElem?_eq_getElem hl'
    refine ⟨x.text.data.toList[x.i + D], fun _ => rfl, ?_, ?_, ?_⟩
    · have e1 : x.rest[(x.rest.takeWhile isDg).length]? = some x.text.data.toList[x.i + D] := by rw [← hD]; exact e0
      exact takeWhile_stop e1
    · intro e
      have := hno.1
      rw [← hD, e0, e] at this
      exact this rfl
    · intro e
      have := hno.2
      rw [← hD, e0, e] at this
      exact this rfl
  have hsz2 := hx.size
  have H2 := Lib.hid h2
  have HT := Lib.hid (trimSpace_w (w.heap.size + 1) x 1 1 false _ _ hx (by decide) h2)
  rw [hst] at HT
  simp only [Option.isSome_none, Option.getD_none] at HT
  have HP := Lib.hid hP
  have HDG := Lib.hid hdg
  have HEN := Lib.hid hend
  clear h1 h2 hs hT hst hP hno hD hrest hsz hdg hend
  go_enter Tryz.func140, Tryz.ntmps140
  go_wp2
  go_step3
  go_wp2
  refine wp_loop_once ?_
  go_wp2_with fail
  refine HT.out.mono ?_
  rintro e w1 ⟨rfl, s1⟩
  go_wp2_with fail
  refine (peek_w _ x _ _ hx s1).mono ?_
  rintro e w2 ⟨rfl, m0, rfl⟩
  rw [HP.out]
  have S1 := Lib.hid (s1.drewN m0)
  clear s1 H2 HT
  generalize w1.drewN m0 = w2 at S1 ⊢
  obtain ⟨q0, q1, q2, q3, q4, qf⟩ := line_cells S1.out
  rcases hc with rfl | rfl | rfl
  all_goals
    go_wp2
    refine wp_label ?_
    rename_i hk2
    refine hk2 _ _ ?_
    clear hk2
    go_wp2
    go_loopw [9, 10] (fun a j wr => ∃ (m : Nat) (z : Int), m ≤ D ∧ m ≤ 9 ∧ j = .int .i64 ((x.i : Int) + (m : Int)) ∧ a = .int .i64 z ∧ wr = w2) (fun _ j _ => x.i + D + 1 - (intOf j).toNat)
    case atStart => exact ⟨0, 0, Nat.zero_le _, Nat.zero_le _, by simp, rfl, rfl⟩
    case round =>
      obtain ⟨m, z, hm, hm9, rfl, rfl, rfl⟩ := hrel
      by_cases hlt : m < D
      · obtain ⟨d, hdl, hix, hdd⟩ := HDG.out m hlt
        obtain ⟨e1, e2, e3, e4⟩ := dig_digit hdd
        by_cases h9 : m < 9
        · go_wp2
          go_roundw
          case rel => exact ⟨m + 1, _, by omega, by omega, by go_num, rfl, by first | trivial | rfl⟩
          case measure => simp [intOf]; omega
        · obtain rfl : m = 9 := by omega
          go_wp2
          rw [Exit.noGoto_ret]
          refine bodyPost_ret (v := .bool false) (by simp [results, Tryz.results140, go_sem]) rfl ⟨rfl, ?_⟩
          exact S1.out.drop1
      · obtain rfl : m = D := by omega
        by_cases hl : x.i + m < x.text.size
        · obtain ⟨d, hix, hdd, h46, h41⟩ := HEN.out hl
          have e1 : ((d.toNat : Int) == 46) = false := u8_ne (b := 46) h46
          have e2 : ((d.toNat : Int) == 41) = false := u8_ne (b := 41) h41
          rcases dig_stop hdd with e3 | ⟨e3, e4⟩
          · go_wp2
            rw [Exit.noGoto_ret]
            refine bodyPost_ret (v := .bool false) (by simp [results, Tryz.results140, go_sem]) rfl ⟨rfl, ?_⟩
            exact S1.out.drop1
          · go_wp2
            rw [Exit.noGoto_ret]
            refine bodyPost_ret (v := .bool false) (by simp [results, Tryz.results140, go_sem]) rfl ⟨rfl, ?_⟩
            exact S1.out.drop1
        · go_wp2
          rw [Exit.noGoto_ret]
          refine bodyPost_ret (v := .bool false) (by simp [results, Tryz.results140, go_sem]) rfl ⟨rfl, ?_⟩
          exact S1.out.drop1

set_option maxRecDepth 100000 in
set_option maxHeartbeats 1000000 in
theorem newListItem_dig (p g n len cap : Nat) (T : TypeId) (bv : Value) (x : Ln) (w : World) (F : HP) (hn : n < len) (hl : len ≤ 1000000000) (hx : x.OK) (c : UInt8) (hh : Heads x c) (hc : c = 48 ∨ c = 49 ∨ c = 57) (hno : NoDot x.rest) (h4 : w.cell? ⟨p, 4, none⟩ = some (.slice (some ⟨g, 0, none⟩) len cap))
    (h5 : w.cell? ⟨p, 5, none⟩ = some (.int .i64 n)) (h0 : w.cell? ⟨g, n * 4, none⟩ = some (.iface T bv))
    (hT : ∀ w, (Instr.typeAssert (.iface T bv) 119 243 true).run Tryz.prog w = .ok (.tuple #[.pointer none, .bool false]) w) (hs : Sat w F) :
    Calls Tryz.prog 90 #[.pointer (some ⟨p, 0, none⟩), x.agg] w fun e w' => e = .returned (.tuple #[x.agg, .bool false]) ∧ Sat w' F := by
  have h1 : Sat (w.alloc (.cells x.cells.toArray 105)) (row w.heap.size 105 x.cells * F) := hs.new _ _ rfl
  have h2 := (h1.new (d := w.heap.size + 1) Ln.zero.cells 105 (by simp)).swap
  have hp : p < w.heap.size := World.block_lt_of_cell? w _ h4
  have hg : g < w.heap.size := World.block_lt_of_cell? w _ h0
  have hb := (((Below.refl w.heap.size w).alloc (Nat.le_refl _) (.cells x.cells.toArray 105)).alloc (by simp) (.cells Ln.zero.cells.toArray 105))
  simp only [Ln.cells, Ln.zero, Int.natCast_zero, UInt8.toNat_zero] at hb
  have q4 := (hb.cell (p := ⟨p, 4, none⟩) hp).trans h4
  have q5 := (hb.cell (p := ⟨p, 5, none⟩) hp).trans h5
  have q0 := (hb.cell (p := ⟨g, n * 4, none⟩) hg).trans h0
  have Q4 := Lib.hid q4
  have Q5 := Lib.hid q5
  have Q0 := Lib.hid q0
  have HS := Lib.hid h2
  clear h1 h2 hs hb q4 q5 q0 h4 h5 h0
  unfold Ln.agg
  go_enter Tryz.func90, Tryz.ntmps90
  go_wp2_with fail
  refine (curB_w p g n len cap _ _ hn hl Q4.out Q5.out Q0.out).mono ?_
  rintro e w1 ⟨rfl, m, rfl⟩
  go_wp2_with fail
  refine (startListItem_dig _ w.heap.size x c _ _ hx hh hc hno (HS.out.drewN m)).mono ?_
  rintro e w2 ⟨rfl, s2⟩
  obtain ⟨b0, b1, b2, b3, b4, bf⟩ := line_cells s2
  obtain ⟨a0, a1, a2, a3, a4, af⟩ := line_cells s2.swap
  have HS2 := Lib.hid s2
  clear s2
  go_wp2
  refine bodyPost_ret (v := .tuple #[x.agg, .bool false]) (by simp [results, Tryz.results90, go_sem, Ln.agg, *]) rfl ⟨rfl, ?_⟩
  exact ((((((HS2.out.swap).set 0 _).set 1 _).set 2 _).set 3 _).set 4 _).drop1.drop1

/-- The same, as NoItemL. -/
theorem noItemL_dig {l : Ln} {c : UInt8} (hl : l.OK) (hh : Heads l c) (hc : c = 48 ∨ c = 49 ∨ c = 57) (hno : NoDot l.rest) : NoItemL l := by
  intro pb p oc v pre o T bv C ho hd hb hT w F hs
  obtain ⟨g, cap, h4, h5, h0, _, hn⟩ := dsp_top ho (hs.cast (star_assoc _ _ _))
  rw [hd] at h5
  rw [hb] at h0
  exact newListItem_dig p g pre.length (pre.length + 1) cap T bv l w (Dsp pb oc v p * C * F) (by omega) (by omega) hl c hh hc hno h4 h5 h0 hT hs

end Go.Proofs.YtcmpcjffmccllaaGreatDoor
