/- newListItem and newHTML where they do not start. -/
import Derived.Test.YtigcmibkgcmfcaaGreatDoorN9
namespace Go.Proofs.YtigcmibkgcmfcaaGreatDoor
open Go.RowKit Sl

/-- up to so many spaces are gone -/
def Ln.item : Nat → Ln → Ln
  | 0, x => x
  | k + 1, x => match x.trimSpace 1 1 false with
    | some y => item k y
    | none => x

theorem Ln.item_ok : ∀ {k : Nat} {x : Ln}, x.OK → (item k x).OK ∧ (item k x).text = x.text ∧ (item k x).nl = x.nl
  | 0, _, h => ⟨h, rfl, rfl⟩
  | k + 1, x, h => by
    simp only [item]
    cases e : x.trimSpace 1 1 false with
    | none => exact ⟨h, rfl, rfl⟩
    | some y =>
      obtain ⟨h1, h2, h3⟩ := trimSpace_ok h e
      obtain ⟨i1, i2, i3⟩ := item_ok (k := k) h1
      exact ⟨i1, i2.trans h2, i3.trans h3⟩

/-- no sign of a list's item -/
def Ln.noItem (c : UInt8) : Prop := c ≠ 45 ∧ c ≠ 42 ∧ c ≠ 43 ∧ (c < 48 ∨ 57 < c)

set_option maxRecDepth 100000 in
set_option maxHeartbeats 1000000 in
theorem curB_w (p g n len cap : Nat) (v : Value) (w : World) (hn : n < len) (_hl : len ≤ 1000000000) (h4 : w.cell? ⟨p, 4, none⟩ = some (.slice (some ⟨g, 0, none⟩) len cap)) (h5 : w.cell? ⟨p, 5, none⟩ = some (.int .i64 n))
    (h0 : w.cell? ⟨g, n * 4, none⟩ = some v) :
    Calls Tryz.prog 136 #[.pointer (some ⟨p, 0, none⟩)] w fun e w' => e = .returned v ∧ ∃ m, w' = w.drewN m := by
  go_enter Tryz.func136, Tryz.ntmps136
  go_wp2
  go_quiet (fail)
  go_wp2
  go_quiet (fail)
  go_wp2
  go_ret
  exact ⟨rfl, _, World.drewN_drewN _ _ _⟩

theorem noItem_facts {c : UInt8} (h : Ln.noItem c) : ((c.toNat : Int) == 45) = false ∧ ((c.toNat : Int) == 42) = false ∧ ((c.toNat : Int) == 43) = false ∧ ((c.toNat : Int) == 48) = false ∧ ((c.toNat : Int) == 49) = false ∧ ((c.toNat : Int) == 50) = false ∧
    ((c.toNat : Int) == 51) = false ∧ ((c.toNat : Int) == 52) = false ∧ ((c.toNat : Int) == 53) = false ∧ ((c.toNat : Int) == 54) = false ∧ ((c.toNat : Int) == 55) = false ∧ ((c.toNat : Int) == 56) = false ∧ ((c.toNat : Int) == 57) = false := by
  obtain ⟨h1, h2, h3, h4⟩ := h
  have hh : ∀ d : UInt8, 48 ≤ d → d ≤ 57 → c ≠ d := by
    rintro d a b rfl
    rcases h4 with h | h
    · exact absurd a (UInt8.not_le.2 h)
    · exact absurd b (UInt8.not_le.2 h)
  exact ⟨u8_ne (b := 45) h1, u8_ne (b := 42) h2, u8_ne (b := 43) h3, u8_ne (b := 48) (hh 48 (by decide) (by decide)), u8_ne (b := 49) (hh 49 (by decide) (by decide)), u8_ne (b := 50) (hh 50 (by decide) (by decide)), u8_ne (b := 51) (hh 51 (by decide) (by decide)),
    u8_ne (b := 52) (hh 52 (by decide) (by decide)), u8_ne (b := 53) (hh 53 (by decide) (by decide)), u8_ne (b := 54) (hh 54 (by decide) (by decide)), u8_ne (b := 55) (hh 55 (by decide) (by decide)), u8_ne (b := 56) (hh 56 (by decide) (by decide)), u8_ne (b := 57) (hh 57 (by decide) (by decide))⟩

set_option maxRecDepth 100000 in
set_option maxHeartbeats 1000000 in
theorem startListItem_not (p : Option Addr) (b : Nat) (x : Ln) (w : World) (F : HP) (hx : x.OK) (hc : Ln.noItem (Ln.item 3 x).peek) (hs : Sat w (row b 101 x.cells * F)) :
    Calls Tryz.prog 137 #[.pointer p, .pointer (some ⟨b, 0, none⟩)] w fun e w' => e = .returned (.bool false) ∧ Sat w' (row b 101 x.cells * F) := by
  have h1 := (hs.new (d := w.heap.size) [.pointer p] 113 rfl).drop1
  have h2 := h1.new (d := w.heap.size + 1) x.cells 101 (by simp)
  obtain ⟨c0, c1, c2, c3, c4, cf⟩ := line_cells hs
  have hbl := hs.row_lt
  generalize hX : Ln.item 3 x = X at hc
  have HX := Lib.hid hX
  clear hX
  generalize hcc : X.peek = c at hc
  obtain ⟨q0, q1, q2, q3, q4, q5, q6, q7, q8, q9, q10, q11, q12⟩ := noItem_facts hc
  have HC := Lib.hid hcc
  have H2 := Lib.hid h2
  clear h1 h2 hs hcc hc
  go_enter Tryz.func137, Tryz.ntmps137
  go_wp2
  go_step3
  go_wp2
  go_loopw [6, 7] (fun n i wr => ∃ (k : Nat) (y : Ln), k ≤ 3 ∧ i = .int .i64 k ∧ n = .int .i64 k ∧ y.OK ∧ Ln.item (3 - k) y = X ∧ Sat wr (row (w.heap.size + 1) 101 y.cells * (row b 101 x.cells * F))) (fun _ i _ => 3 - (intOf i).toNat)
  case atStart => exact ⟨0, x, by decide, rfl, rfl, hx, HX.out, H2.out⟩
  case round =>
    obtain ⟨k, y, hk, rfl, rfl, hy, hit, s1⟩ := hrel
    by_cases hlt : k < 3
    · have hT := trimSpace_w (w.heap.size + 1) y 1 1 false wr _ hy (by decide) s1
      obtain ⟨j, hj⟩ : ∃ j, 3 - k = j + 1 := ⟨2 - k, by omega⟩
      rw [hj] at hit
      simp only [Ln.item] at hit
      cases ht : y.trimSpace 1 1 false with
      | none =>
        rw [ht] at hT hit
        simp only [Option.isSome_none, Option.getD_none] at hT hit
        go_wp2_with fail
        refine hT.mono ?_
        rintro e w1 ⟨rfl, s2⟩
        go_wp2_with fail
        refine (peek_w _ y _ _ hy s2).mono ?_
        rintro e w2 ⟨rfl, m, rfl⟩
        rw [hit, HC.out]
        go_wp2
        refine wp_label ?_
        rename_i hk2
        refine hk2 _ _ ?_
        go_wp2
        rw [Exit.noGoto_ret]
        refine bodyPost_ret (v := .bool false) (by simp [results, Tryz.results137, go_sem]) rfl ⟨rfl, ?_⟩
        exact (s2.drewN m).drop1
      | some z =>
        rw [ht] at hT hit
        simp only [Option.isSome_some, Option.getD_some] at hT hit
        go_wp2_with fail
        refine hT.mono ?_
        rintro e w1 ⟨rfl, s2⟩
        go_wp2
        go_roundw
        case rel => exact ⟨k + 1, z, by omega, by go_num, by go_num, (Ln.trimSpace_ok hy ht).1, by rw [show 3 - (k + 1) = j by omega]; exact hit, s2⟩
        case measure => simp [intOf]; omega
    · obtain rfl : k = 3 := by omega
      simp only [Nat.sub_self, Ln.item] at hit
      go_wp2_with fail
      refine (peek_w _ y _ _ hy s1).mono ?_
      rintro e w2 ⟨rfl, m, rfl⟩
      rw [hit, HC.out]
      go_wp2
      refine wp_label ?_
      rename_i hk2
      refine hk2 _ _ ?_
      go_wp2
      rw [Exit.noGoto_ret]
      refine bodyPost_ret (v := .bool false) (by simp [results, Tryz.results137, go_sem]) rfl ⟨rfl, ?_⟩
      exact (s1.drewN m).drop1

set_option maxRecDepth 100000 in
set_option maxHeartbeats 1000000 in
theorem newListItem_not (p g n len cap : Nat) (T : TypeId) (bv : Value) (x : Ln) (w : World) (F : HP) (hn : n < len) (hl : len ≤ 1000000000) (hx : x.OK) (hc : Ln.noItem (Ln.item 3 x).peek) (h4 : w.cell? ⟨p, 4, none⟩ = some (.slice (some ⟨g, 0, none⟩) len cap))
    (h5 : w.cell? ⟨p, 5, none⟩ = some (.int .i64 n)) (h0 : w.cell? ⟨g, n * 4, none⟩ = some (.iface T bv))
    (hT : ∀ w, (Instr.typeAssert (.iface T bv) 115 239 true).run Tryz.prog w = .ok (.tuple #[.pointer none, .bool false]) w) (hs : Sat w F) :
    Calls Tryz.prog 87 #[.pointer (some ⟨p, 0, none⟩), x.agg] w fun e w' => e = .returned (.tuple #[x.agg, .bool false]) ∧ Sat w' F := by
  have h1 : Sat (w.alloc (.cells x.cells.toArray 101)) (row w.heap.size 101 x.cells * F) := hs.new _ _ rfl
  have h2 := (h1.new (d := w.heap.size + 1) Ln.zero.cells 101 (by simp)).swap
  have hp : p < w.heap.size := World.block_lt_of_cell? w _ h4
  have hg : g < w.heap.size := World.block_lt_of_cell? w _ h0
  have hb := (((Below.refl w.heap.size w).alloc (Nat.le_refl _) (.cells x.cells.toArray 101)).alloc (by simp) (.cells Ln.zero.cells.toArray 101))
  simp only [Ln.cells, Ln.zero, Int.natCast_zero, UInt8.toNat_zero] at hb
  have q4 := (hb.cell (p := ⟨p, 4, none⟩) hp).trans h4
  have q5 := (hb.cell (p := ⟨p, 5, none⟩) hp).trans h5
  have q0 := (hb.cell (p := ⟨g, n * 4, none⟩) hg).trans h0
  have Q4 := Lib.hid q4
  have Q5 := Lib.hid q5
  have Q0 := Lib.hid q0
  have HS := Lib.hid h2
  clear h1 h2 hs hb q4 q5 q0 h4 h5 h0
  unfold Ln.agg
  go_enter Tryz.func87, Tryz.ntmps87
  go_wp2_with fail
  refine (curB_w p g n len cap _ _ hn hl Q4.out Q5.out Q0.out).mono ?_
  rintro e w1 ⟨rfl, m, rfl⟩
  go_wp2_with fail
  refine (startListItem_not _ w.heap.size x _ _ hx hc (HS.out.drewN m)).mono ?_
  rintro e w2 ⟨rfl, s2⟩
  obtain ⟨b0, b1, b2, b3, b4, bf⟩ := line_cells s2
  obtain ⟨a0, a1, a2, a3, a4, af⟩ := line_cells s2.swap
  have HS2 := Lib.hid s2
  clear s2
  go_wp2
  refine bodyPost_ret (v := .tuple #[x.agg, .bool false]) (by simp [results, Tryz.results87, go_sem, Ln.agg, *]) rfl ⟨rfl, ?_⟩
  exact ((((((HS2.out.swap).set 0 _).set 1 _).set 2 _).set 3 _).set 4 _).drop1.drop1

set_option maxRecDepth 100000 in
set_option maxHeartbeats 1000000 in
theorem startHTML_not (p : Option Addr) (b : Nat) (x : Ln) (w : World) (F : HP) (hx : x.OK) (hc : x.indent.peek ≠ 60) (hs : Sat w (row b 101 x.cells * F)) :
    Calls Tryz.prog 138 #[.pointer p, .pointer (some ⟨b, 0, none⟩)] w fun e w' => e = .returned (.bool false) ∧ Sat w' (row b 101 x.cells * F) := by
  have h2 := hs.new (d := w.heap.size) x.cells 101 (by simp)
  obtain ⟨c0, c1, c2, c3, c4, cf⟩ := line_cells hs
  have hbl := hs.row_lt
  have hxi := Ln.indent_ok hx
  generalize hi : x.indent = xi at hxi hc
  have hi' : (x.trimSpace 0 3 false).getD x = xi := hi
  have HI2 := Lib.hid hi'
  have q : ((xi.peek.toNat : Int) == 60) = false := u8_ne (b := 60) hc
  generalize hcc : xi.peek = c at q
  have HC := Lib.hid hcc
  clear hcc
  have H2 := Lib.hid h2
  clear h2 hs hi hi' hc
  go_enter Tryz.func138, Tryz.ntmps138
  go_wp2
  go_step3
  go_wp2_with fail
  refine (trimSpace_w _ x 0 3 false _ _ hx (by decide) H2.out).mono ?_
  rintro e w1 ⟨rfl, s1⟩
  rw [HI2.out] at s1
  go_wp2_with fail
  refine (peek_w _ xi _ _ hxi.1 s1).mono ?_
  rintro e w2 ⟨rfl, m, rfl⟩
  rw [HC.out]
  go_wp2
  rw [Exit.noGoto_ret]
  refine bodyPost_ret (v := .bool false) (by simp [results, Tryz.results138, go_sem]) rfl ⟨rfl, ?_⟩
  exact (s1.drewN m).drop1

set_option maxRecDepth 100000 in
set_option maxHeartbeats 1000000 in
theorem newHTML_not (p : Option Addr) (x : Ln) (w : World) (F : HP) (hx : x.OK) (hc : x.indent.peek ≠ 60) (hs : Sat w F) :
    Calls Tryz.prog 88 #[.pointer p, x.agg] w fun e w' => e = .returned (.tuple #[x.agg, .bool false]) ∧ Sat w' F := by
  have h1 : Sat (w.alloc (.cells x.cells.toArray 101)) (row w.heap.size 101 x.cells * F) := hs.new _ _ rfl
  have h2 := (h1.new (d := w.heap.size + 1) Ln.zero.cells 101 (by simp))
  have h3 := (h2.new (d := w.heap.size + 2) x.cells 101 (by simp))
  have HS := Lib.hid h3
  clear h1 h2 h3 hs
  unfold Ln.agg
  go_enter Tryz.func88, Tryz.ntmps88
  go_wp2_with fail
  refine (startHTML_not _ _ x _ _ hx hc HS.out).mono ?_
  rintro e w2 ⟨rfl, s2⟩
  obtain ⟨b0, b1, b2, b3, b4, bf⟩ := line_cells s2.swap
  obtain ⟨a0, a1, a2, a3, a4, af⟩ := line_cells s2.third
  have HS2 := Lib.hid s2
  clear s2
  go_wp2
  refine bodyPost_ret (v := .tuple #[x.agg, .bool false]) (by simp [results, Tryz.results88, go_sem, Ln.agg, *]) rfl ⟨rfl, ?_⟩
  exact ((((((HS2.out.swap).set 0 _).set 1 _).set 2 _).set 3 _).set 4 _).drop1.drop1.drop1

end Go.Proofs.YtigcmibkgcmfcaaGreatDoor
