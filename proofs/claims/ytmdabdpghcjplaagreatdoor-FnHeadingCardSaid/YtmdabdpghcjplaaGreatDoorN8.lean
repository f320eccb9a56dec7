/- newHR where it starts: the thematic break is laid into the innermost open block. -/
import Derived.Test.YtmdabdpghcjplaaGreatDoorN3
import Derived.Deep.RegionHeld2
namespace Go.Proofs.YtmdabdpghcjplaaGreatDoor
open Go.RowKit Sl

set_option maxRecDepth 100000 in
set_option maxHeartbeats 1000000 in
theorem newHR_does (p g n cap : Nat) (l : Ln) (x : PSt) (pre junk items : List Value) (bd : Value) (inn : SV) (st en : Int) (F : HP) (w : World) (hn : n < 1000000000) (hil : inn.len ≤ 1000000000)
    (hd : x.depth = n) (hx : x.stack = ⟨some ⟨g, 0, none⟩, n + 1, cap⟩) (hpre : pre.length = n * 4) (hl : l.OK) (hq : l.hr = true)
    (hs : Sat w (row p 96 x.cells * (row g 122 (pre ++ [bd, inn.v, .int .i64 st, .int .i64 en] ++ junk) * (arr 70 1 inn.v inn.len items * F)))) :
    Calls Tryz.prog 90 #[.pointer (some ⟨p, 0, none⟩), l.agg] w fun e w' =>
      e = .returned (.tuple #[Ln.zero.agg, .bool true]) ∧ ∃ (inn' : SV) (d : Nat), inn'.len = inn.len + 1 ∧
        Sat w' (row p 96 x.cells * (row g 122 (pre ++ [bd, inn'.v, .int .i64 st, .int .i64 en] ++ junk) *
          (arr 70 1 inn'.v inn'.len (items ++ [.iface 240 (.pointer (some ⟨d, 0, none⟩))]) * (row d 242 [.int .i64 x.lineno, .int .i64 x.lineno, .string (B.bs l.str)] * F)))) := by
  have h1 : Sat (w.alloc (.cells l.cells.toArray 105)) (row w.heap.size 105 l.cells * _) := hs.new _ _ rfl
  have h2 := h1.new (d := w.heap.size + 1) Ln.zero.cells 105 (by simp)
  have hQ := fun w F hs => isHR_w l w F hl hs
  rw [hq] at hQ
  have HQ := Lib.hid hQ
  clear hQ hq
  unfold Ln.agg at HQ ⊢
  go_enter Tryz.func90, Tryz.ntmps90
  go_wp2_with fail
  refine (HQ.out _ _ h2).mono ?_
  rintro e w1 ⟨rfl, t1⟩
  obtain ⟨b0, b1, b2, b3, b4, bf⟩ := line_cells t1.swap
  have t3 := t1.third
  have f3 : w1.cell? ⟨p, 3, none⟩ = some (.int .i64 x.lineno) := t3.cell 3 rfl
  have HS := Lib.hid t1
  clear t1 h1 h2 t3 hs
  go_wp2_with fail
  have hlp : p < w1.heap.size := World.block_lt_of_cell? w1 _ f3
  have hT : ∀ m, Sat ((w1.drewN m).alloc (.cells #[.int .i64 x.lineno, .int .i64 x.lineno, .string (B.bs l.str)] 242)) (row p 96 x.cells * (row g 122 (pre ++ [bd, inn.v, .int .i64 st, .int .i64 en] ++ junk) * (arr 70 1 inn.v inn.len items * (row w1.heap.size 242 [.int .i64 x.lineno, .int .i64 x.lineno, .string (B.bs l.str)] * (row (w.heap.size + 1) 105 Ln.zero.cells * F))))) := fun m => by
    have := ((HS.out.swap.drop1.drewN m).new (d := w1.heap.size) [.int .i64 x.lineno, .int .i64 x.lineno, .string (B.bs l.str)] 242 (by simp))
    exact this.cast (by ac_rfl)
  have hK : ∀ m o, ((w1.drewN m).alloc o).cell? ⟨p, 3, none⟩ = some (.int .i64 x.lineno) := fun m o => by
    rw [World.cell?_alloc_lt _ _ _ (by simpa using hlp)]; exact f3
  go_region_held2 (fun w' => w'.cell? ⟨p, 3, none⟩ = some (.int .i64 x.lineno)) (first | assumption | exact hK _ _ | (simp [f3]; done)) (first
    | (go_at_call 128; refine (string_w _ l _ _ hl HS.out.swap.drew).mono ?_; rintro e w2 ⟨rfl, m, rfl⟩)
    | (go_at_call 133; go_loud (refine (doneBlock_w p g n cap 240 _ x pre junk items bd inn st en _ _ hn hil hd hx hpre (hT _)).mono ?_); rintro e w3 ⟨rfl, inn', hle, hs3⟩; have k3 : w3.cell? ⟨p, 3, none⟩ = some (.int .i64 x.lineno) := hs3.cell 3 rfl))
  have hz := hs3.cast (show _ = row (w.heap.size + 1) 105 Ln.zero.cells * (row p 96 x.cells * (row g 122 (pre ++ [bd, inn'.v, .int .i64 st, .int .i64 en] ++ junk) *
          (arr 70 1 inn'.v inn'.len (items ++ [.iface 240 (.pointer (some ⟨w1.heap.size, 0, none⟩))]) * (row w1.heap.size 242 [.int .i64 x.lineno, .int .i64 x.lineno, .string (B.bs l.str)] * F)))) from by ac_rfl)
  obtain ⟨a0, a1, a2, a3, a4, af⟩ := line_cells hz
  have HZ := Lib.hid hz
  clear hz hs3
  go_wp2
  refine bodyPost_ret (v := .tuple #[Ln.zero.agg, .bool true]) (by simp [results, Tryz.results90, go_sem, Ln.agg, Ln.zero, *]) rfl ⟨rfl, inn', w1.heap.size, hle, ?_⟩
  exact (((((HZ.out.set 0 _).set 1 _).set 2 _).set 3 _).set 4 _).drop1

end Go.Proofs.YtmdabdpghcjplaaGreatDoor

/- newSetextHeading where no paragraph is open. -/
namespace Go.Proofs.YtmdabdpghcjplaaGreatDoor
open Go.RowKit Sl

theorem cell_drewN {w : World} {a : Addr} {v : Value} (h : w.cell? a = some v) (m : Nat) : (w.drewN m).cell? a = some v := h

theorem eq_nil_para (w : World) : (binOp .eql 119 .nilIface (.iface 163 (.pointer none))).run Tryz.prog w = .ok (.bool false) w := by kernel_rfl

set_option maxRecDepth 100000 in
set_option maxHeartbeats 1000000 in
theorem nextB_none (p n cap : Nat) (a : Option Addr) (w : World) (hn : n < 1000000000) (h4 : w.cell? ⟨p, 4, none⟩ = some (.slice a (n + 1) cap)) (h5 : w.cell? ⟨p, 5, none⟩ = some (.int .i64 n)) :
    Calls Tryz.prog 135 #[.pointer (some ⟨p, 0, none⟩)] w fun e w' => e = .returned .nilIface ∧ ∃ m, w' = w.drewN m := by
  go_enter Tryz.func135, Tryz.ntmps135
  go_wp2
  go_quiet (fail)
  go_wp2
  go_ret
  exact ⟨rfl, _, rfl⟩

set_option maxRecDepth 100000 in
set_option maxHeartbeats 1000000 in
theorem para_none (p g n cap : Nat) (T : TypeId) (bv : Value) (w : World) (hn : n < 1000000000) (h4 : w.cell? ⟨p, 4, none⟩ = some (.slice (some ⟨g, 0, none⟩) (n + 1) cap)) (h0 : w.cell? ⟨g, n * 4, none⟩ = some (.iface T bv))
    (hT : ∀ w, (Instr.typeAssert (.iface T bv) 119 163 true).run Tryz.prog w = .ok (.tuple #[.pointer none, .bool false]) w) :
    Calls Tryz.prog 95 #[.pointer (some ⟨p, 0, none⟩)] w fun e w' => e = .returned (.pointer none) ∧ ∃ m, w' = w.drewN m := by
  go_enter Tryz.func95, Tryz.ntmps95
  go_wp2
  go_quiet (fail)
  go_wp2
  go_ret
  exact ⟨rfl, _, rfl⟩

set_option maxRecDepth 100000 in
set_option maxHeartbeats 1000000 in
theorem newSetext_not (p g n cap : Nat) (T : TypeId) (bv : Value) (x : Ln) (w : World) (F : HP) (hn : n < 1000000000) (h4 : w.cell? ⟨p, 4, none⟩ = some (.slice (some ⟨g, 0, none⟩) (n + 1) cap)) (h5 : w.cell? ⟨p, 5, none⟩ = some (.int .i64 n))
    (h0 : w.cell? ⟨g, n * 4, none⟩ = some (.iface T bv)) (hT : ∀ w, (Instr.typeAssert (.iface T bv) 119 163 true).run Tryz.prog w = .ok (.tuple #[.pointer none, .bool false]) w) (hs : Sat w F) :
    Calls Tryz.prog 89 #[.pointer (some ⟨p, 0, none⟩), x.agg] w fun e w' => e = .returned (.tuple #[x.agg, .bool false]) ∧ Sat w' F := by
  have h1 : Sat (w.alloc (.cells x.cells.toArray 105)) (row w.heap.size 105 x.cells * F) := hs.new _ _ rfl
  have h2 := h1.new (d := w.heap.size + 1) Ln.zero.cells 105 (by simp)
  have h3 := (h2.new (d := w.heap.size + 2) [.int .i64 0] 3 (by simp)).drop1
  have h6 := (h3.new (d := w.heap.size + 3) x.cells 105 (by simp)).drop1
  have hp : p < w.heap.size := World.block_lt_of_cell? w _ h4
  have hg : g < w.heap.size := World.block_lt_of_cell? w _ h0
  have hb := ((((Below.refl w.heap.size w).alloc (Nat.le_refl _) (.cells x.cells.toArray 105)).alloc (by simp) (.cells Ln.zero.cells.toArray 105)).alloc (by simp; omega) (.cells #[.int .i64 0] 3)).alloc (by simp; omega) (.cells x.cells.toArray 105)
  simp only [Ln.cells, Ln.zero, Int.natCast_zero, UInt8.toNat_zero] at hb h6
  have q4 := (hb.cell (p := ⟨p, 4, none⟩) hp).trans h4
  have q5 := (hb.cell (p := ⟨p, 5, none⟩) hp).trans h5
  have q0 := (hb.cell (p := ⟨g, n * 4, none⟩) hg).trans h0
  have Q4 := Lib.hid q4
  have Q5 := Lib.hid q5
  have Q0 := Lib.hid q0
  have HS := Lib.hid h6
  clear h1 h2 h3 h6 hs hb q4 q5 q0 h4 h5 h0
  have heq := eq_nil_para
  unfold Ln.agg
  go_enter Tryz.func89, Tryz.ntmps89
  go_wp2_with fail
  refine (nextB_none p n cap (some ⟨g, 0, none⟩) _ hn Q4.out Q5.out).mono ?_
  rintro e w1 ⟨rfl, m, rfl⟩
  go_wp2_with fail
  refine (para_none p g n cap T bv _ hn (cell_drewN Q4.out m) (cell_drewN Q0.out m) hT).mono ?_
  rintro e w2 ⟨rfl, m2, rfl⟩
  go_wp2
  refine bodyPost_ret (v := .tuple #[x.agg, .bool false]) (by simp [results, Tryz.results89, go_sem, Ln.agg, *]) rfl ⟨rfl, ?_⟩
  exact ((((((HS.out.drewN _).set 0 _).set 1 _).set 2 _).set 3 _).set 4 _).drop1.drop1

end Go.Proofs.YtmdabdpghcjplaaGreatDoor

/- newListItem and newHTML where they do not start. -/
namespace Go.Proofs.YtmdabdpghcjplaaGreatDoor
open Go.RowKit Sl

/-- up to so many spaces are gone -/
def Ln.item : Nat → Ln → Ln
  | 0, x => x
  | k + 1, x => match x.trimSpace 1 1 false with
    | some y => item k y
    | none => x

theorem Ln.item_ok : ∀ {k : Nat} {x : Ln}, x.OK → (item k x).OK ∧ (item k x).text = x.text ∧ (item k x).nl = x.nl
  | 0, _, h => ⟨h, rfl, rfl⟩
  | k + 1, x, h => by
    simp only [item]
    cases e : x.trimSpace 1 1 false with
    | none => exact ⟨h, rfl, rfl⟩
    | some y =>
      obtain ⟨h1, h2, h3⟩ := trimSpace_ok h e
      obtain ⟨i1, i2, i3⟩ := item_ok (k := k) h1
      exact ⟨i1, i2.trans h2, i3.trans h3⟩

/-- no sign of a list's item -/
def Ln.noItem (c : UInt8) : Prop := c ≠ 45 ∧ c ≠ 42 ∧ c ≠ 43 ∧ (c < 48 ∨ 57 < c)

set_option maxRecDepth 100000 in
set_option maxHeartbeats 1000000 in
theorem curB_w (p g n len cap : Nat) (v : Value) (w : World) (hn : n < len) (_hl : len ≤ 1000000000) (h4 : w.cell? ⟨p, 4, none⟩ = some (.slice (some ⟨g, 0, none⟩) len cap)) (h5 : w.cell? ⟨p, 5, none⟩ = some (.int .i64 n))
    (h0 : w.cell? ⟨g, n * 4, none⟩ = some v) :
    Calls Tryz.prog 140 #[.pointer (some ⟨p, 0, none⟩)] w fun e w' => e = .returned v ∧ ∃ m, w' = w.drewN m := by
  go_enter Tryz.func140, Tryz.ntmps140
  go_wp2
  go_quiet (fail)
  go_wp2
  go_quiet (fail)
  go_wp2
  go_ret
  exact ⟨rfl, _, World.drewN_drewN _ _ _⟩

theorem noItem_facts {c : UInt8} (h : Ln.noItem c) : ((c.toNat : Int) == 45) = false ∧ ((c.toNat : Int) == 42) = false ∧ ((c.toNat : Int) == 43) = false ∧ ((c.toNat : Int) == 48) = false ∧ ((c.toNat : Int) == 49) = false ∧ ((c.toNat : Int) == 50) = false ∧
    ((c.toNat : Int) == 51) = false ∧ ((c.toNat : Int) == 52) = false ∧ ((c.toNat : Int) == 53) = false ∧ ((c.toNat : Int) == 54) = false ∧ ((c.toNat : Int) == 55) = false ∧ ((c.toNat : Int) == 56) = false ∧ ((c.toNat : Int) == 57) = false := by
  obtain ⟨h1, h2, h3, h4⟩ := h
  have hh : ∀ d : UInt8, 48 ≤ d → d ≤ 57 → c ≠ d := by
    rintro d a b rfl
    rcases h4 with h | h
    · exact absurd a (UInt8.not_le.2 h)
    · exact absurd b (UInt8.not_le.2 h)
  exact ⟨u8_ne (b := 45) h1, u8_ne (b := 42) h2, u8_ne (b := 43) h3, u8_ne (b := 48) (hh 48 (by decide) (by decide)), u8_ne (b := 49) (hh 49 (by decide) (by decide)), u8_ne (b := 50) (hh 50 (by decide) (by decide)), u8_ne (b := 51) (hh 51 (by decide) (by decide)),
    u8_ne (b := 52) (hh 52 (by decide) (by decide)), u8_ne (b := 53) (hh 53 (by decide) (by decide)), u8_ne (b := 54) (hh 54 (by decide) (by decide)), u8_ne (b := 55) (hh 55 (by decide) (by decide)), u8_ne (b := 56) (hh 56 (by decide) (by decide)), u8_ne (b := 57) (hh 57 (by decide) (by decide))⟩

set_option maxRecDepth 100000 in
set_option maxHeartbeats 1000000 in
theorem startListItem_not (p : Option Addr) (b : Nat) (x : Ln) (w : World) (F : HP) (hx : x.OK) (hc : Ln.noItem (Ln.item 3 x).peek) (hs : Sat w (row b 105 x.cells * F)) :
    Calls Tryz.prog 141 #[.pointer p, .pointer (some ⟨b, 0, none⟩)] w fun e w' => e = .returned (.bool false) ∧ Sat w' (row b 105 x.cells * F) := by
  have h1 := (hs.new (d := w.heap.size) [.pointer p] 117 rfl).drop1
  have h2 := h1.new (d := w.heap.size + 1) x.cells 105 (by simp)
  obtain ⟨c0, c1, c2, c3, c4, cf⟩ := line_cells hs
  have hbl := hs.row_lt
  generalize hX : Ln.item 3 x = X at hc
  have HX := Lib.hid hX
  clear hX
  generalize hcc : X.peek = c at hc
  obtain ⟨q0, q1, q2, q3, q4, q5, q6, q7, q8, q9, q10, q11, q12⟩ := noItem_facts hc
  have HC := Lib.hid hcc
  have H2 := Lib.hid h2
  clear h1 h2 hs hcc hc
  go_enter Tryz.func141, Tryz.ntmps141
  go_wp2
  go_step3
  go_wp2
  go_loopw [6, 7] (fun n i wr => ∃ (k : Nat) (y : Ln), k ≤ 3 ∧ i = .int .i64 k ∧ n = .int .i64 k ∧ y.OK ∧ Ln.item (3 - k) y = X ∧ Sat wr (row (w.heap.size + 1) 105 y.cells * (row b 105 x.cells * F))) (fun _ i _ => 3 - (intOf i).toNat)
  case atStart => exact ⟨0, x, by decide, rfl, rfl, hx, HX.out, H2.out⟩
  case round =>
    obtain ⟨k, y, hk, rfl, rfl, hy, hit, s1⟩ := hrel
    by_cases hlt : k < 3
    · have hT := trimSpace_w (w.heap.size + 1) y 1 1 false wr _ hy (by decide) s1
      obtain ⟨j, hj⟩ : ∃ j, 3 - k = j + 1 := ⟨2 - k, by omega⟩
      rw [hj] at hit
      simp only [Ln.item] at hit
      cases ht : y.trimSpace 1 1 false with
      | none =>
        rw [ht] at hT hit
        simp only [Option.isSome_none, Option.getD_none] at hT hit
        go_wp2_with fail
        refine hT.mono ?_
        rintro e w1 ⟨rfl, s2⟩
        go_wp2_with fail
        refine (peek_w _ y _ _ hy s2).mono ?_
        rintro e w2 ⟨rfl, m, rfl⟩
        rw [hit, HC.out]
        go_wp2
        refine wp_label ?_
        rename_i hk2
        refine hk2 _ _ ?_
        go_wp2
        rw [Exit.noGoto_ret]
        refine bodyPost_ret (v := .bool false) (by simp [results, Tryz.results141, go_sem]) rfl ⟨rfl, ?_⟩
        exact (s2.drewN m).drop1
      | some z =>
        rw [ht] at hT hit
        simp only [Option.isSome_some, Option.getD_some] at hT hit
        go_wp2_with fail
        refine hT.mono ?_
        rintro e w1 ⟨rfl, s2⟩
        go_wp2
        go_roundw
        case rel => exact ⟨k + 1, z, by omega, by go_num, by go_num, (Ln.trimSpace_ok hy ht).1, by rw [show 3 - (k + 1) = j by omega]; exact hit, s2⟩
        case measure => simp [intOf]; omega
    · obtain rfl : k = 3 := by omega
      simp only [Nat.sub_self, Ln.item] at hit
      go_wp2_with fail
      refine (peek_w _ y _ _ hy s1).mono ?_
      rintro e w2 ⟨rfl, m, rfl⟩
      rw [hit, HC.out]
      go_wp2
      refine wp_label ?_
      rename_i hk2
      refine hk2 _ _ ?_
      go_wp2
      rw [Exit.noGoto_ret]
      refine bodyPost_ret (v := .bool false) (by simp [results, Tryz.results141, go_sem]) rfl ⟨rfl, ?_⟩
      exact (s1.drewN m).drop1

set_option maxRecDepth 100000 in
set_option maxHeartbeats 1000000 in
theorem newListItem_not (p g n len cap : Nat) (T : TypeId) (bv : Value) (x : Ln) (w : World) (F : HP) (hn : n < len) (hl : len ≤ 1000000000) (hx : x.OK) (hc : Ln.noItem (Ln.item 3 x).peek) (h4 : w.cell? ⟨p, 4, none⟩ = some (.slice (some ⟨g, 0, none⟩) len cap))
    (h5 : w.cell? ⟨p, 5, none⟩ = some (.int .i64 n)) (h0 : w.cell? ⟨g, n * 4, none⟩ = some (.iface T bv))
    (hT : ∀ w, (Instr.typeAssert (.iface T bv) 119 243 true).run Tryz.prog w = .ok (.tuple #[.pointer none, .bool false]) w) (hs : Sat w F) :
    Calls Tryz.prog 91 #[.pointer (some ⟨p, 0, none⟩), x.agg] w fun e w' => e = .returned (.tuple #[x.agg, .bool false]) ∧ Sat w' F := by
  have h1 : Sat (w.alloc (.cells x.cells.toArray 105)) (row w.heap.size 105 x.cells * F) := hs.new _ _ rfl
  have h2 := (h1.new (d := w.heap.size + 1) Ln.zero.cells 105 (by simp)).swap
  have hp : p < w.heap.size := World.block_lt_of_cell? w _ h4
  have hg : g < w.heap.size := World.block_lt_of_cell? w _ h0
  have hb := (((Below.refl w.heap.size w).alloc (Nat.le_refl _) (.cells x.cells.toArray 105)).alloc (by simp) (.cells Ln.zero.cells.toArray 105))
  simp only [Ln.cells, Ln.zero, Int.natCast_zero, UInt8.toNat_zero] at hb
  have q4 := (hb.cell (p := ⟨p, 4, none⟩) hp).trans h4
  have q5 := (hb.cell (p := ⟨p, 5, none⟩) hp).trans h5
  have q0 := (hb.cell (p := ⟨g, n * 4, none⟩) hg).trans h0
  have Q4 := Lib.hid q4
  have Q5 := Lib.hid q5
  have Q0 := Lib.hid q0
  have HS := Lib.hid h2
  clear h1 h2 hs hb q4 q5 q0 h4 h5 h0
  unfold Ln.agg
  go_enter Tryz.func91, Tryz.ntmps91
  go_wp2_with fail
  refine (curB_w p g n len cap _ _ hn hl Q4.out Q5.out Q0.out).mono ?_
  rintro e w1 ⟨rfl, m, rfl⟩
  go_wp2_with fail
  refine (startListItem_not _ w.heap.size x _ _ hx hc (HS.out.drewN m)).mono ?_
  rintro e w2 ⟨rfl, s2⟩
  obtain ⟨b0, b1, b2, b3, b4, bf⟩ := line_cells s2
  obtain ⟨a0, a1, a2, a3, a4, af⟩ := line_cells s2.swap
  have HS2 := Lib.hid s2
  clear s2
  go_wp2
  refine bodyPost_ret (v := .tuple #[x.agg, .bool false]) (by simp [results, Tryz.results91, go_sem, Ln.agg, *]) rfl ⟨rfl, ?_⟩
  exact ((((((HS2.out.swap).set 0 _).set 1 _).set 2 _).set 3 _).set 4 _).drop1.drop1

set_option maxRecDepth 100000 in
set_option maxHeartbeats 1000000 in
theorem startHTML_not (p : Option Addr) (b : Nat) (x : Ln) (w : World) (F : HP) (hx : x.OK) (hc : x.indent.peek ≠ 60) (hs : Sat w (row b 105 x.cells * F)) :
    Calls Tryz.prog 142 #[.pointer p, .pointer (some ⟨b, 0, none⟩)] w fun e w' => e = .returned (.bool false) ∧ Sat w' (row b 105 x.cells * F) := by
  have h2 := hs.new (d := w.heap.size) x.cells 105 (by simp)
  obtain ⟨c0, c1, c2, c3, c4, cf⟩ := line_cells hs
  have hbl := hs.row_lt
  have hxi := Ln.indent_ok hx
  generalize hi : x.indent = xi at hxi hc
  have hi' : (x.trimSpace 0 3 false).getD x = xi := hi
  have HI2 := Lib.hid hi'
  have q : ((xi.peek.toNat : Int) == 60) = false := u8_ne (b := 60) hc
  generalize hcc : xi.peek = c at q
  have HC := Lib.hid hcc
  clear hcc
  have H2 := Lib.hid h2
  clear h2 hs hi hi' hc
  go_enter Tryz.func142, Tryz.ntmps142
  go_wp2
  go_step3
  go_wp2_with fail
  refine (trimSpace_w _ x 0 3 false _ _ hx (by decide) H2.out).mono ?_
  rintro e w1 ⟨rfl, s1⟩
  rw [HI2.out] at s1
  go_wp2_with fail
  refine (peek_w _ xi _ _ hxi.1 s1).mono ?_
  rintro e w2 ⟨rfl, m, rfl⟩
  rw [HC.out]
  go_wp2
  rw [Exit.noGoto_ret]
  refine bodyPost_ret (v := .bool false) (by simp [results, Tryz.results142, go_sem]) rfl ⟨rfl, ?_⟩
  exact (s1.drewN m).drop1

set_option maxRecDepth 100000 in
set_option maxHeartbeats 1000000 in
theorem newHTML_not (p : Option Addr) (x : Ln) (w : World) (F : HP) (hx : x.OK) (hc : x.indent.peek ≠ 60) (hs : Sat w F) :
    Calls Tryz.prog 92 #[.pointer p, x.agg] w fun e w' => e = .returned (.tuple #[x.agg, .bool false]) ∧ Sat w' F := by
  have h1 : Sat (w.alloc (.cells x.cells.toArray 105)) (row w.heap.size 105 x.cells * F) := hs.new _ _ rfl
  have h2 := (h1.new (d := w.heap.size + 1) Ln.zero.cells 105 (by simp))
  have h3 := (h2.new (d := w.heap.size + 2) x.cells 105 (by simp))
  have HS := Lib.hid h3
  clear h1 h2 h3 hs
  unfold Ln.agg
  go_enter Tryz.func92, Tryz.ntmps92
  go_wp2_with fail
  refine (startHTML_not _ _ x _ _ hx hc HS.out).mono ?_
  rintro e w2 ⟨rfl, s2⟩
  obtain ⟨b0, b1, b2, b3, b4, bf⟩ := line_cells s2.swap
  obtain ⟨a0, a1, a2, a3, a4, af⟩ := line_cells s2.third
  have HS2 := Lib.hid s2
  clear s2
  go_wp2
  refine bodyPost_ret (v := .tuple #[x.agg, .bool false]) (by simp [results, Tryz.results92, go_sem, Ln.agg, *]) rfl ⟨rfl, ?_⟩
  exact ((((((HS2.out.swap).set 0 _).set 1 _).set 2 _).set 3 _).set 4 _).drop1.drop1.drop1

end Go.Proofs.YtmdabdpghcjplaaGreatDoor

/- newFence where no fence stands. -/
namespace Go.Proofs.YtmdabdpghcjplaaGreatDoor
open Go.RowKit Sl

set_option maxRecDepth 100000 in
set_option maxHeartbeats 1000000 in
theorem trimFence_not (b nb : Nat) (fp ip : Value) (x : Ln) (n0 : Int) (w : World) (F : HP) (hx : x.OK) (hc : (Ln.item 3 x).peek ≠ 96 ∧ (Ln.item 3 x).peek ≠ 126)
    (hs : Sat w (row b 105 x.cells * (row nb 3 [.int .i64 n0] * F))) :
    Calls Tryz.prog 143 #[.pointer (some ⟨b, 0, none⟩), fp, ip, .pointer (some ⟨nb, 0, none⟩)] w fun e w' => e = .returned (.bool false) ∧ ∃ n : Int, Sat w' (row b 105 x.cells * (row nb 3 [.int .i64 n] * F)) := by
  have h3 := ((hs.swap.set 0 (.int .i64 0)).new (d := w.heap.size) x.cells 105 (by simp)).swap
  obtain ⟨c0, c1, c2, c3, c4, cf⟩ := line_cells hs
  have hbl := hs.row_lt
  have e0 : w.cell? ⟨nb, 0, none⟩ = some (.int .i64 n0) := hs.swap.cell 0 rfl
  have ez := fun i => hs.swap.frozen i
  have hnl := hs.swap.row_lt
  generalize hX : Ln.item 3 x = X at hc
  have HX := Lib.hid hX
  clear hX
  generalize hcc : X.peek = c at hc
  have q1 : ((c.toNat : Int) == 96) = false := u8_ne (b := 96) hc.1
  have q2 : ((c.toNat : Int) == 126) = false := u8_ne (b := 126) hc.2
  have HC := Lib.hid hcc
  have H3 := Lib.hid h3
  clear h3 hs hcc hc
  go_enter Tryz.func143, Tryz.ntmps143
  go_wp2
  obtain ⟨P, hP⟩ : ∃ P : Nat → World → Prop, P = fun k wr => ∃ y : Ln, y.OK ∧ Ln.item (3 - k) y = X ∧ Sat wr (row nb 3 [.int .i64 (k : Int)] * (row w.heap.size 105 y.cells * (row b 105 x.cells * F))) := ⟨_, rfl⟩
  go_loopg [] 3 (fun g wr => g ≤ 3 ∧ P (3 - g) wr)
  case atStart => exact ⟨Nat.le_refl _, by rw [hP]; exact ⟨x, hx, HX.out, H3.out⟩⟩
  case round =>
    obtain ⟨hg, hrel⟩ := hrel
    rw [hP] at hrel
    obtain ⟨y, hy, hit, s1⟩ := hrel
    clear e0 ez hnl
    have e0 : wr.cell? ⟨nb, 0, none⟩ = some (.int .i64 ((3 - gk : Nat) : Int)) := s1.cell 0 rfl
    have ez := fun i => s1.frozen i
    have hnl := s1.row_lt
    generalize hkk : 3 - gk = k at *
    have hk3 : k ≤ 3 := by omega
    by_cases hlt : k < 3
    · obtain ⟨j, hj⟩ : ∃ j, 3 - k = j + 1 := ⟨2 - k, by omega⟩
      have hT := trimSpace_w w.heap.size y 1 1 false wr _ hy (by decide) s1.swap
      rw [hj] at hit
      simp only [Ln.item] at hit
      cases ht : y.trimSpace 1 1 false with
      | none =>
        rw [ht] at hT hit
        simp only [Option.isSome_none, Option.getD_none] at hT hit
        go_wp2_with fail
        refine hT.mono ?_
        rintro e w1 ⟨rfl, s2⟩
        go_wp2_with fail
        refine (peek_w _ y _ _ hy s2).mono ?_
        rintro e w2 ⟨rfl, m, rfl⟩
        rw [hit, HC.out]
        go_wp2
        refine bodyPost_ret (v := .bool false) (by simp [results, Tryz.results143, go_sem]) rfl ⟨rfl, (k : Int), ?_⟩
        exact (s2.drewN m).drop1.swap
      | some z =>
        rw [ht] at hT hit
        simp only [Option.isSome_some, Option.getD_some] at hT hit
        go_wp2_with fail
        refine hT.mono ?_
        rintro e w1 ⟨rfl, s2⟩
        have s3 := s2.swap
        clear e0 ez hnl
        have e0 : w1.cell? ⟨nb, 0, none⟩ = some (.int .i64 (k : Int)) := s3.cell 0 rfl
        have ez := fun i => s3.frozen i
        have hnl := s3.row_lt
        go_wp2
        go_roundg (gk - 1)
        case measure => omega
        case rel =>
          refine ⟨by omega, ?_⟩
          rw [hP, show 3 - (gk - 1) = k + 1 by omega]
          exact ⟨z, (Ln.trimSpace_ok hy ht).1, by rw [show 3 - (k + 1) = j by omega]; exact hit, s3.set 0 _⟩
    · obtain rfl : k = 3 := by omega
      simp only [Nat.sub_self, Ln.item] at hit
      go_wp2_with fail
      refine (peek_w _ y _ _ hy s1.swap).mono ?_
      rintro e w2 ⟨rfl, m, rfl⟩
      rw [hit, HC.out]
      go_wp2
      refine bodyPost_ret (v := .bool false) (by simp [results, Tryz.results143, go_sem]) rfl ⟨rfl, 3, ?_⟩
      exact (s1.swap.drewN m).drop1.swap

set_option maxRecDepth 100000 in
set_option maxHeartbeats 1000000 in
theorem newFence_not (p : Option Addr) (x : Ln) (w : World) (F : HP) (hx : x.OK) (hc : (Ln.item 3 x).peek ≠ 96 ∧ (Ln.item 3 x).peek ≠ 126) (hs : Sat w F) :
    Calls Tryz.prog 93 #[.pointer p, x.agg] w fun e w' => e = .returned (.tuple #[x.agg, .bool false]) ∧ Sat w' F := by
  have h1 : Sat (w.alloc (.cells x.cells.toArray 105)) (row w.heap.size 105 x.cells * F) := hs.new _ _ rfl
  have h2 := (h1.new (d := w.heap.size + 1) Ln.zero.cells 105 (by simp))
  have h3 := (h2.new (d := w.heap.size + 2) [.string ⟨#[]⟩] 9 (by simp)).drop1
  have h4 := (h3.new (d := w.heap.size + 3) [.string ⟨#[]⟩] 9 (by simp)).drop1
  have h5 := (h4.new (d := w.heap.size + 4) [.int .i64 0] 3 (by simp))
  have h6 := (h5.new (d := w.heap.size + 5) x.cells 105 (by simp))
  have HS := Lib.hid h6
  clear h1 h2 h3 h4 h5 h6 hs
  unfold Ln.agg
  go_enter Tryz.func93, Tryz.ntmps93
  go_wp2_with fail
  refine (trimFence_not _ _ _ _ x 0 _ _ hx hc HS.out).mono ?_
  rintro e w2 ⟨rfl, n, s2⟩
  have s3 := s2.drop1.drop1
  obtain ⟨a0, a1, a2, a3, a4, af⟩ := line_cells s3
  obtain ⟨b0, b1, b2, b3, b4, bf⟩ := line_cells s3.swap
  have HS2 := Lib.hid s3
  clear s2 s3
  go_wp2
  refine bodyPost_ret (v := .tuple #[x.agg, .bool false]) (by simp [results, Tryz.results93, go_sem, Ln.agg, *]) rfl ⟨rfl, ?_⟩
  exact (((((HS2.out.set 0 _).set 1 _).set 2 _).set 3 _).set 4 _).drop1.drop1

end Go.Proofs.YtmdabdpghcjplaaGreatDoor
