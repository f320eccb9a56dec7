/- A line's own steps: what they make of it, in plain Lean; and that the code's do the same. -/
import Derived.Test.YtbfmmikllelfeaaGreatDoorP1
import Derived.Deep.LoopGhost
import Derived.Laws.Concat
namespace Go.Proofs.YtbfmmikllelfeaaGreatDoor
open Go.RowKit Sl

theorem and_three (i : Nat) (hi : i < 9223372036854775808) : bits BinOp.and IntKind.i64 (i : Int) 3 = ((i % 4 : Nat) : Int) := by
  have h1 : (BitVec.ofInt 64 (i : Int)).toNat = i := by
    rw [BitVec.ofInt_natCast, BitVec.toNat_ofNat]; exact Nat.mod_eq_of_lt (by omega)
  have h2 : (BitVec.ofInt 64 (3 : Int)).toNat = 3 := by decide
  show IntKind.i64.wrap ((BitVec.ofInt 64 (i : Int) &&& BitVec.ofInt 64 (3 : Int)).toNat : Int) = _
  rw [BitVec.toNat_and, h1, h2, show i &&& 3 = i % 4 from Nat.and_two_pow_sub_one_eq_mod i 2]
  have := Nat.mod_lt i (show 0 < 4 by decide)
  rw [IntKind.wrap_i64]
  omega

/-- the letter at the place -/
def Ln.ch (x : Ln) : Option UInt8 := x.text.data.toList[x.i]?

/-- one space less -/
def Ln.step (eol : Bool) (x : Ln) : Option Ln :=
  if 0 < x.spaces then some { x with spaces := x.spaces - 1 }
  else match x.ch with
    | none => if eol then some x else none
    | some c => if c = 9 then some { x with spaces := 3 - (x.i - x.tab) % 4, i := x.i + 1, tab := x.i + 1 } else if c = 32 then some { x with i := x.i + 1 } else none

def Ln.trimGo (min : Nat) (eol : Bool) : Nat → Nat → Ln → Option Ln
  | 0, _, x => some x
  | k + 1, n, x => match x.step eol with
    | some x' => trimGo min eol k (n + 1) x'
    | none => if min ≤ n then some x else none

def Ln.trimSpace (x : Ln) (min max : Nat) (eol : Bool) : Option Ln := x.trimGo min eol max 0

structure Ln.OK (x : Ln) : Prop where
  tab : x.tab ≤ x.i
  i : x.i ≤ x.text.size
  sp : x.spaces ≤ 3
  size : x.text.size ≤ 1000000000000

theorem Ln.step_ok {x x' : Ln} {eol : Bool} (h : x.OK) (hs : x.step eol = some x') : x'.OK ∧ x'.text = x.text ∧ x'.nl = x.nl := by
  unfold Ln.step at hs
  obtain ⟨h1, h2, h3, h4⟩ := h
  split at hs
  · obtain rfl := Option.some.inj hs
    exact ⟨⟨h1, h2, by simp; omega, h4⟩, rfl, rfl⟩
  · cases hc : x.ch with
    | none =>
      rw [hc] at hs
      simp only at hs
      split at hs
      · obtain rfl := Option.some.inj hs
        exact ⟨⟨h1, h2, h3, h4⟩, rfl, rfl⟩
      · cases hs
    | some c =>
      rw [hc] at hs
      have hl : x.i < x.text.size := by
        have := (List.getElem?_eq_some_iff.1 hc).1
        rw [← B.size_data] at this
        exact this
      simp only at hs
      split at hs
      · obtain rfl := Option.some.inj hs
        exact ⟨⟨Nat.le_refl _, hl, by simp only; omega, h4⟩, rfl, rfl⟩
      · split at hs
        · obtain rfl := Option.some.inj hs
          exact ⟨⟨by simp; omega, hl, h3, h4⟩, rfl, rfl⟩
        · cases hs

theorem Ln.trimGo_ok {min : Nat} {eol : Bool} : ∀ {k n : Nat} {x x' : Ln}, x.OK → x.trimGo min eol k n = some x' → x'.OK ∧ x'.text = x.text ∧ x'.nl = x.nl
  | 0, _, x, x', h, hs => by
    simp only [Ln.trimGo, Option.some.injEq] at hs
    subst hs
    exact ⟨h, rfl, rfl⟩
  | k + 1, n, x, x', h, hs => by
    simp only [Ln.trimGo] at hs
    cases e : x.step eol with
    | some y =>
      rw [e] at hs
      obtain ⟨h1, h2, h3⟩ := step_ok h e
      obtain ⟨i1, i2, i3⟩ := trimGo_ok h1 hs
      exact ⟨i1, i2.trans h2, i3.trans h3⟩
    | none =>
      rw [e] at hs
      simp only at hs
      split at hs
      · obtain rfl := Option.some.inj hs
        exact ⟨h, rfl, rfl⟩
      · cases hs

theorem Ln.trimSpace_ok {min max : Nat} {eol : Bool} {x x' : Ln} (h : x.OK) (hs : x.trimSpace min max eol = some x') : x'.OK ∧ x'.text = x.text ∧ x'.nl = x.nl := trimGo_ok h hs

set_option maxRecDepth 100000 in
set_option maxHeartbeats 1000000 in
theorem trimSpace_w (b : Nat) (x : Ln) (min max : Nat) (eol : Bool) (w : World) (F : HP) (hx : x.OK) (hm : max ≤ 1000) (hs : Sat w (row b 181 x.cells * F)) :
    Calls Tryz.prog 207 #[.pointer (some ⟨b, 0, none⟩), .int .i64 min, .int .i64 max, .bool eol] w fun e w' =>
      e = .returned (.bool (x.trimSpace min max eol).isSome) ∧ Sat w' (row b 181 ((x.trimSpace min max eol).getD x).cells * F) := by
  have c0 : w.cell? ⟨b, 0, none⟩ = some (.int .i64 x.spaces) := hs.cell 0 rfl
  have c1 : w.cell? ⟨b, 1, none⟩ = some (.int .i64 x.i) := hs.cell 1 rfl
  have c2 : w.cell? ⟨b, 2, none⟩ = some (.int .i64 x.tab) := hs.cell 2 rfl
  have c3 : w.cell? ⟨b, 3, none⟩ = some (.string x.text) := hs.cell 3 rfl
  have c4 : w.cell? ⟨b, 4, none⟩ = some (.int .u8 x.nl.toNat) := hs.cell 4 rfl
  have hlb : b < w.heap.size := hs.row_lt
  have hs1 : Sat (w.alloc (.cells (x.cells).toArray 181)) (row w.heap.size 181 x.cells * (row b 181 x.cells * F)) := hs.new x.cells 181 rfl
  unfold Ln.trimSpace
  generalize hT : x.trimGo min eol max 0 = T
  have HT := Lib.hid hT
  clear hT
  obtain ⟨spaces, i, tab, text, nl⟩ := x
  simp only at c0 c1 c2 c3 c4
  go_enter Tryz.func207, Tryz.ntmps207
  go_wp2
  go_loopw [10] (fun n wr => ∃ (k : Nat) (y : Ln), k ≤ max ∧ n = .int .i64 k ∧ y.OK ∧ y.text = text ∧ y.nl = nl ∧ y.trimGo min eol (max - k) k = T ∧ Sat wr (row w.heap.size 181 y.cells * (row b 181 (Ln.cells ⟨spaces, i, tab, text, nl⟩) * F))) (fun n _ => max - (intOf n).toNat)
  case atStart => exact ⟨0, _, Nat.zero_le _, rfl, hx, rfl, rfl, HT.out, hs1⟩
  case round =>
    obtain ⟨k, ⟨sp, yi, yt, yx, yn⟩, hk, rfl, hy, rfl, rfl, hg, h⟩ := hrel
    have HG := Lib.hid hg
    clear hg hs1 hs
    have d0 : wr.cell? ⟨w.heap.size, 0, none⟩ = some (.int .i64 sp) := h.cell 0 rfl
    have d1 : wr.cell? ⟨w.heap.size, 1, none⟩ = some (.int .i64 yi) := h.cell 1 rfl
    have d2 : wr.cell? ⟨w.heap.size, 2, none⟩ = some (.int .i64 yt) := h.cell 2 rfl
    have d3 : wr.cell? ⟨w.heap.size, 3, none⟩ = some (.string yx) := h.cell 3 rfl
    have d4 : wr.cell? ⟨w.heap.size, 4, none⟩ = some (.int .u8 yn.toNat) := h.cell 4 rfl
    have e0 : wr.cell? ⟨b, 0, none⟩ = some (.int .i64 spaces) := h.swap.cell 0 rfl
    have e1 : wr.cell? ⟨b, 1, none⟩ = some (.int .i64 i) := h.swap.cell 1 rfl
    have e2 : wr.cell? ⟨b, 2, none⟩ = some (.int .i64 tab) := h.swap.cell 2 rfl
    have e3 : wr.cell? ⟨b, 3, none⟩ = some (.string yx) := h.swap.cell 3 rfl
    have e4 : wr.cell? ⟨b, 4, none⟩ = some (.int .u8 yn.toNat) := h.swap.cell 4 rfl
    have f0 : ∀ i, wr.frozen? ⟨w.heap.size, i, none⟩ = false := fun i => h.frozen i
    have f1 : ∀ i, wr.frozen? ⟨b, i, none⟩ = false := fun i => h.swap.frozen i
    obtain ⟨y1, y2, y3, y4⟩ := hy
    simp only at y1 y2 y3 y4
    have HS := Lib.hid h
    clear h
    by_cases hlt : k < max
    · have hgo : ∀ o : Option Ln, Ln.step eol ⟨sp, yi, yt, yx, yn⟩ = o → (match o with | some x' => Ln.trimGo min eol (max - (k + 1)) (k + 1) x' | none => if min ≤ k then some ⟨sp, yi, yt, yx, yn⟩ else none) = T := by
        intro o ho
        have := HG.out
        rw [show max - k = (max - (k + 1)) + 1 by omega, Ln.trimGo, ho] at this
        exact this
      have HGO := Lib.hid hgo
      clear hgo
      by_cases hsp : 0 < sp
      · have hst := HGO.out (some ⟨sp - 1, yi, yt, yx, yn⟩) (by unfold Ln.step; rw [if_pos hsp])
        have HST := Lib.hid hst
        clear hst
        go_wp2
        go_roundw
        case rel =>
          refine ⟨k + 1, ⟨sp - 1, yi, yt, yx, yn⟩, by omega, by go_num, ⟨y1, y2, by simp only; omega, y4⟩, rfl, rfl, HST.out, ?_⟩
          have e : ((sp : Int) - 1) = ((sp - 1 : Nat) : Int) := by omega
          rw [e]
          exact HS.out.set 0 _
        case measure => simp [intOf]; omega
      · have hst0 := HGO.out (Ln.step eol ⟨sp, yi, yt, yx, yn⟩) rfl
        obtain rfl : sp = 0 := by omega
        have hge : yi < yx.size ∨ yi = yx.size := by omega
        rcases hge with hl | rfl
        · have hch : (⟨0, yi, yt, yx, yn⟩ : Ln).ch = some yx[yi] := by
            unfold Ln.ch
            rw [List.getElem?_eq_getElem (by rw [← B.size_data]; exact hl)]
            rfl
          unfold Ln.step at hst0
          rw [if_neg hsp, hch] at hst0
          simp only at hst0
          have HST := Lib.hid hst0
          clear hst0
          by_cases h9 : ((yx[yi]).toNat : Int) = 9
          · have e9 : yx[yi] = 9 := UInt8.toNat_inj.1 (by simpa using (by omega : (yx[yi]).toNat = 9))
            have hg9 := HST.out
            rw [if_pos e9] at hg9
            have HG9 := Lib.hid hg9
            clear hg9
            have hand : bits BinOp.and IntKind.i64 ((yi : Int) - (yt : Int)) 3 = (((yi - yt) % 4 : Nat) : Int) := by
              rw [show ((yi : Int) - (yt : Int)) = ((yi - yt : Nat) : Int) by omega, and_three _ (by omega)]
            go_wp2
            go_roundw
            case rel =>
              rw [show (4 - ((yi - yt : Nat) : Int) % 4 - 1) = ((3 - (yi - yt) % 4 : Nat) : Int) by omega]
              exact ⟨k + 1, ⟨3 - (yi - yt) % 4, yi + 1, yi + 1, yx, yn⟩, by omega, by go_num, ⟨Nat.le_refl _, hl, by simp only; omega, y4⟩, rfl, rfl, HG9.out, ((HS.out.set 0 _).set 1 _).set 2 _⟩
            case measure => simp [intOf]; omega
          · by_cases h32 : ((yx[yi]).toNat : Int) = 32
            · have e32 : yx[yi] = 32 := UInt8.toNat_inj.1 (by simpa using (by omega : (yx[yi]).toNat = 32))
              have n9 : ¬ yx[yi] = 9 := by rw [e32]; decide
              have hg2 := HST.out
              rw [if_neg n9, if_pos e32] at hg2
              have HG2 := Lib.hid hg2
              clear hg2
              go_wp2
              go_roundw
              case rel => exact ⟨k + 1, ⟨0, yi + 1, yt, yx, yn⟩, by omega, by go_num, ⟨by simp only; omega, hl, by simp only; omega, y4⟩, rfl, rfl, HG2.out, HS.out.set 1 _⟩
              case measure => simp [intOf]; omega
            · have n9 : ¬ yx[yi] = 9 := fun e => h9 (by rw [e]; rfl)
              have n32 : ¬ yx[yi] = 32 := fun e => h32 (by rw [e]; rfl)
              have hg3 := HST.out
              rw [if_neg n9, if_neg n32] at hg3
              simp only at hg3
              have HG3 := Lib.hid hg3
              clear hg3
              by_cases hmk : min ≤ k
              · go_wp2
                go_ret
                have hT := HG3.out
                rw [if_pos hmk] at hT
                rw [← hT]
                exact ⟨rfl, ((((HS.out.drop1.set 0 _).set 1 _).set 2 _).set 3 _).set 4 _⟩
              · go_wp2
                go_ret
                have hT := HG3.out
                rw [if_neg hmk] at hT
                rw [← hT]
                exact ⟨rfl, HS.out.drop1⟩
        · have hch : (⟨0, yx.size, yt, yx, yn⟩ : Ln).ch = none := by
            unfold Ln.ch
            rw [List.getElem?_eq_none (by rw [← B.size_data]; exact Nat.le_refl _)]
          unfold Ln.step at hst0
          rw [if_neg hsp, hch] at hst0
          simp only at hst0
          have HST := Lib.hid hst0
          clear hst0
          cases eol with
          | true =>
            go_wp2
            go_roundw
            case rel => exact ⟨k + 1, ⟨0, yx.size, yt, yx, yn⟩, by omega, by go_num, ⟨y1, y2, y3, y4⟩, rfl, rfl, HST.out, HS.out⟩
            case measure => simp [intOf]; omega
          | false =>
            by_cases hmk : min ≤ k
            · go_wp2
              go_ret
              have hT := HST.out
              simp only [Bool.false_eq_true, if_false] at hT
              rw [if_pos hmk] at hT
              rw [← hT]
              exact ⟨rfl, ((((HS.out.drop1.set 0 _).set 1 _).set 2 _).set 3 _).set 4 _⟩
            · go_wp2
              go_ret
              have hT := HST.out
              simp only [Bool.false_eq_true, if_false] at hT
              rw [if_neg hmk] at hT
              rw [← hT]
              exact ⟨rfl, HS.out.drop1⟩
    · go_wp2
      go_ret
      have hT := HG.out
      obtain rfl : k = max := by omega
      rw [Nat.sub_self, Ln.trimGo] at hT
      rw [← hT]
      exact ⟨rfl, ((((HS.out.drop1.set 0 _).set 1 _).set 2 _).set 3 _).set 4 _⟩

end Go.Proofs.YtbfmmikllelfeaaGreatDoor

/- A line's further steps: trim, peek, skipSpace, eof, string. -/
namespace Go.Proofs.YtbfmmikllelfeaaGreatDoor
open Go.RowKit Sl

def Ln.trim (x : Ln) (c : UInt8) : Option Ln :=
  if 0 < x.spaces then (if c = 32 then some { x with spaces := x.spaces - 1 } else none)
  else if x.ch = some c then some { x with i := x.i + 1 } else none

theorem Ln.ch_of {x : Ln} (h : x.i < x.text.size) : x.ch = some x.text[x.i] := by
  unfold Ln.ch
  rw [List.getElem?_eq_getElem (by rw [← B.size_data]; exact h)]
  rfl
theorem Ln.ch_end {x : Ln} (h : x.text.size ≤ x.i) : x.ch = none := by
  unfold Ln.ch
  rw [List.getElem?_eq_none (by rw [← B.size_data]; exact h)]

theorem Ln.trim_ok {x x' : Ln} {c : UInt8} (h : x.OK) (hs : x.trim c = some x') : x'.OK ∧ x'.text = x.text ∧ x'.nl = x.nl := by
  unfold Ln.trim at hs
  obtain ⟨h1, h2, h3, h4⟩ := h
  split at hs
  · split at hs
    · obtain rfl := Option.some.inj hs
      exact ⟨⟨h1, h2, by simp only; omega, h4⟩, rfl, rfl⟩
    · cases hs
  · split at hs
    · rename_i hc
      have hl : x.i < x.text.size := by
        by_cases h : x.i < x.text.size
        · exact h
        · rw [Ln.ch_end (by omega)] at hc; cases hc
      obtain rfl := Option.some.inj hs
      exact ⟨⟨by simp only; omega, hl, h3, h4⟩, rfl, rfl⟩
    · cases hs

theorem u8_ne {a b : UInt8} (h : a ≠ b) : (((a.toNat : Int)) == (b.toNat : Int)) = false := by
  simp only [beq_eq_false_iff_ne, ne_eq]
  intro e
  exact h (UInt8.toNat_inj.1 (by omega))

set_option maxRecDepth 100000 in
set_option maxHeartbeats 1000000 in
theorem trim_w (b : Nat) (x : Ln) (c : UInt8) (w : World) (F : HP) (hx : x.OK) (hs : Sat w (row b 181 x.cells * F)) :
    Calls Tryz.prog 237 #[.pointer (some ⟨b, 0, none⟩), .int .u8 c.toNat] w fun e w' =>
      e = .returned (.bool (x.trim c).isSome) ∧ Sat w' (row b 181 ((x.trim c).getD x).cells * F) := by
  obtain ⟨spaces, i, tab, text, nl⟩ := x
  have c0 : w.cell? ⟨b, 0, none⟩ = some (.int .i64 spaces) := hs.cell 0 rfl
  have c1 : w.cell? ⟨b, 1, none⟩ = some (.int .i64 i) := hs.cell 1 rfl
  have c3 : w.cell? ⟨b, 3, none⟩ = some (.string text) := hs.cell 3 rfl
  have fz : ∀ i, w.frozen? ⟨b, i, none⟩ = false := fun i => hs.frozen i
  obtain ⟨x1, x2, x3, x4⟩ := hx
  simp only at x1 x2 x3 x4
  have HS := Lib.hid hs
  clear hs
  by_cases hsp : 0 < spaces
  · by_cases hc : c = 32
    · subst hc
      have ht : (⟨spaces, i, tab, text, nl⟩ : Ln).trim 32 = some ⟨spaces - 1, i, tab, text, nl⟩ := by unfold Ln.trim; rw [if_pos hsp, if_pos rfl]
      rw [ht]
      clear ht
      have h32 : ((32 : UInt8).toNat : Int) = 32 := rfl
      go_enter Tryz.func237, Tryz.ntmps237
      go_wp2
      go_ret
      refine ⟨rfl, ?_⟩
      rw [show ((spaces : Int) - 1) = ((spaces - 1 : Nat) : Int) by omega]
      exact HS.out.set 0 _
    · have ht : (⟨spaces, i, tab, text, nl⟩ : Ln).trim c = none := by unfold Ln.trim; rw [if_pos hsp, if_neg hc]
      rw [ht]
      clear ht
      have h32 : ((c.toNat : Int) == 32) = false := u8_ne hc
      go_enter Tryz.func237, Tryz.ntmps237
      go_wp2
      go_ret
      exact ⟨rfl, HS.out⟩
  · obtain rfl : spaces = 0 := by omega
    by_cases hl : i < text.size
    · have hch : (⟨0, i, tab, text, nl⟩ : Ln).ch = some text[i] := Ln.ch_of hl
      by_cases hc : text[i] = c
      · have ht : (⟨0, i, tab, text, nl⟩ : Ln).trim c = some ⟨0, i + 1, tab, text, nl⟩ := by unfold Ln.trim; rw [if_neg hsp, hch, if_pos (by rw [hc])]
        rw [ht]
        clear ht hch
        have he : (((text[i]).toNat : Int) == (c.toNat : Int)) = true := by rw [hc]; simp
        go_enter Tryz.func237, Tryz.ntmps237
        go_wp2
        go_quiet (fail)
        go_wp2
        go_ret
        exact ⟨rfl, (HS.out.drewN _).set 1 _⟩
      · have ht : (⟨0, i, tab, text, nl⟩ : Ln).trim c = none := by
          unfold Ln.trim
          rw [if_neg hsp, hch, if_neg (fun e => hc (Option.some.inj e))]
        rw [ht]
        clear ht hch
        have he : (((text[i]).toNat : Int) == (c.toNat : Int)) = false := u8_ne hc
        go_enter Tryz.func237, Tryz.ntmps237
        go_wp2
        go_quiet (fail)
        go_wp2
        go_ret
        exact ⟨rfl, HS.out.drewN _⟩
    · have ht : (⟨0, i, tab, text, nl⟩ : Ln).trim c = none := by
        unfold Ln.trim
        rw [if_neg hsp, Ln.ch_end (by simp only; omega), if_neg (by simp)]
      rw [ht]
      clear ht
      go_enter Tryz.func237, Tryz.ntmps237
      go_wp2
      go_quiet (fail)
      go_wp2
      go_ret
      exact ⟨rfl, HS.out.drewN _⟩

theorem drewN_twice (w : World) (a b : Nat) : (w.drewN a).drewN b = w.drewN (a + b) := by
  simp [World.drewN, Nat.add_assoc]

def Ln.peek (x : Ln) : UInt8 := if 0 < x.spaces then 32 else x.ch.getD 0

theorem ret_u8 {a b : UInt8} (h : a = b) : Ending.returned (.int .u8 (a.toNat : Int)) = .returned (.int .u8 (b.toNat : Int)) := by rw [h]

set_option maxRecDepth 100000 in
set_option maxHeartbeats 1000000 in
theorem peek_w (b : Nat) (x : Ln) (w : World) (F : HP) (hx : x.OK) (hs : Sat w (row b 181 x.cells * F)) :
    Calls Tryz.prog 239 #[.pointer (some ⟨b, 0, none⟩)] w fun e w' => e = .returned (.int .u8 x.peek.toNat) ∧ ∃ m, w' = w.drewN m := by
  obtain ⟨spaces, i, tab, text, nl⟩ := x
  have c0 : w.cell? ⟨b, 0, none⟩ = some (.int .i64 spaces) := hs.cell 0 rfl
  have c1 : w.cell? ⟨b, 1, none⟩ = some (.int .i64 i) := hs.cell 1 rfl
  have c3 : w.cell? ⟨b, 3, none⟩ = some (.string text) := hs.cell 3 rfl
  obtain ⟨x1, x2, x3, x4⟩ := hx
  simp only at x1 x2 x3 x4
  clear hs
  by_cases hsp : 0 < spaces
  · have ht : (⟨spaces, i, tab, text, nl⟩ : Ln).peek = 32 := by unfold Ln.peek; rw [if_pos hsp]
    rw [ht]
    clear ht
    go_enter Tryz.func239, Tryz.ntmps239
    go_wp2
    go_ret
    exact ⟨rfl, 0, rfl⟩
  · obtain rfl : spaces = 0 := by omega
    by_cases hl : i < text.size
    · have ht : (⟨0, i, tab, text, nl⟩ : Ln).peek = text[i] := by unfold Ln.peek; rw [if_neg hsp, Ln.ch_of hl]; rfl
      rw [ht]
      clear ht
      go_enter Tryz.func239, Tryz.ntmps239
      go_wp2
      go_quiet (fail)
      go_wp2
      go_quiet (fail)
      go_wp2
      go_ret
      exact ⟨rfl, _, drewN_twice _ _ _⟩
    · have ht : (⟨0, i, tab, text, nl⟩ : Ln).peek = 0 := by unfold Ln.peek; rw [if_neg hsp, Ln.ch_end (by simp only; omega)]; rfl
      rw [ht]
      clear ht
      go_enter Tryz.func239, Tryz.ntmps239
      go_wp2
      go_quiet (fail)
      go_wp2
      go_ret
      exact ⟨rfl, _, rfl⟩

def Ln.skip (x : Ln) : Ln := { x with spaces := 0, i := x.i + (x.rest.takeWhile B.isST).length }

theorem Ln.skip_ok {x : Ln} (h : x.OK) : x.skip.OK ∧ x.skip.text = x.text ∧ x.skip.nl = x.nl := by
  obtain ⟨h1, h2, h3, h4⟩ := h
  have hl : (x.rest.takeWhile B.isST).length ≤ x.rest.length := (List.takeWhile_prefix _).length_le
  have hr : x.rest.length = x.text.size - x.i := by unfold Ln.rest; rw [List.length_drop, ← B.size_data]
  refine ⟨⟨?_, ?_, ?_, h4⟩, rfl, rfl⟩
  · show x.tab ≤ x.i + _; omega
  · show x.i + _ ≤ x.text.size; omega
  · show 0 ≤ 3; omega

set_option maxRecDepth 100000 in
set_option maxHeartbeats 1000000 in
theorem skipSpace_w (b : Nat) (x : Ln) (w : World) (F : HP) (hx : x.OK) (hs : Sat w (row b 181 x.cells * F)) :
    Calls Tryz.prog 240 #[.pointer (some ⟨b, 0, none⟩)] w fun e w' => e = .returned (.tuple #[]) ∧ Sat w' (row b 181 x.skip.cells * F) := by
  obtain ⟨spaces, i, tab, text, nl⟩ := x
  have c0 : w.cell? ⟨b, 0, none⟩ = some (.int .i64 spaces) := hs.cell 0 rfl
  have fz : ∀ i, w.frozen? ⟨b, i, none⟩ = false := fun i => hs.frozen i
  obtain ⟨x1, x2, x3, x4⟩ := hx
  simp only at x1 x2 x3 x4
  have hs1 : Sat (w.setCell ⟨b, 0, none⟩ (.int .i64 0)) (row b 181 (Ln.cells ⟨0, i, tab, text, nl⟩) * F) := hs.set 0 _
  generalize hT : (⟨spaces, i, tab, text, nl⟩ : Ln).skip = T
  have hT' : (⟨0, i, tab, text, nl⟩ : Ln).skip = T := hT
  have HT := Lib.hid hT'
  clear hT hT' hs
  go_enter Tryz.func240, Tryz.ntmps240
  go_wp2
  go_loopw [] (fun wr => ∃ k : Nat, i ≤ k ∧ k ≤ text.size ∧ (⟨0, k, tab, text, nl⟩ : Ln).skip = T ∧ Sat wr (row b 181 (Ln.cells ⟨0, k, tab, text, nl⟩) * F)) (fun wr => text.size - (intOf ((wr.cell? ⟨b, 1, none⟩).getD undef)).toNat)
  case atStart => exact ⟨i, Nat.le_refl _, x2, HT.out, hs1⟩
  case round =>
    obtain ⟨k, hik, hk, hg, h⟩ := hrel
    have HG := Lib.hid hg
    clear hg hs1 c0 fz
    have d1 : wr.cell? ⟨b, 1, none⟩ = some (.int .i64 k) := h.cell 1 rfl
    have d3 : wr.cell? ⟨b, 3, none⟩ = some (.string text) := h.cell 3 rfl
    have f0 : ∀ i, wr.frozen? ⟨b, i, none⟩ = false := fun i => h.frozen i
    have HS := Lib.hid h
    clear h
    have hd : k < text.size → text.data.toList.drop k = text.data.toList[k]?.getD 0 :: text.data.toList.drop (k + 1) := fun hlt => by
      have hlt' : k < text.data.toList.length := by rw [← B.size_data]; exact hlt
      rw [List.drop_eq_getElem_cons hlt', List.getElem?_eq_getElem hlt']; rfl
    by_cases hlt : k < text.size
    · have hch : text.data.toList[k]?.getD 0 = text[k] := by
        rw [List.getElem?_eq_getElem (by rw [← B.size_data]; exact hlt)]; rfl
      have hd' := hd hlt
      rw [hch] at hd'
      have HD := Lib.hid hd'
      clear hd hd' hch
      by_cases hb : B.isST text[k] = true
      · have hb1 := hb
        unfold B.isST at hb1
        have hg2 : (⟨0, k + 1, tab, text, nl⟩ : Ln).skip = T := by
          rw [← HG.out]
          unfold Ln.skip Ln.rest
          simp only [HD.out, List.takeWhile_cons, hb, if_true, List.length_cons]
          rw [Nat.add_assoc, Nat.add_comm 1]
        have HG2 := Lib.hid hg2
        clear hg2 hb
        by_cases h32 : ((text[k]).toNat : Int) = 32
        · go_wp2
          go_quiet (fail)
          go_wp2
          go_roundw
          case rel => exact ⟨k + 1, by omega, by omega, HG2.out, (HS.out.drewN _).set 1 _⟩
          case measure =>
            have hm : ∀ n, ((wr.drewN n).setCell ⟨b, 1, none⟩ (.int .i64 ((k : Int) + 1))).cell? ⟨b, 1, none⟩ = some (.int .i64 ((k : Int) + 1)) := fun n => ((HS.out.drewN n).set 1 (.int .i64 ((k : Int) + 1))).cell 1 rfl
            simp [d1, hm, intOf]; omega
        · have h9 : ((text[k]).toNat : Int) = 9 := by
            simp only [Bool.or_eq_true, beq_iff_eq] at hb1
            rcases hb1 with e | e
            · exact absurd (by rw [e]; rfl) h32
            · rw [e]; rfl
          clear hb1
          go_wp2
          go_quiet (fail)
          go_wp2
          go_roundw
          case rel => exact ⟨k + 1, by omega, by omega, HG2.out, (HS.out.drewN _).set 1 _⟩
          case measure =>
            have hm : ∀ n, ((wr.drewN n).setCell ⟨b, 1, none⟩ (.int .i64 ((k : Int) + 1))).cell? ⟨b, 1, none⟩ = some (.int .i64 ((k : Int) + 1)) := fun n => ((HS.out.drewN n).set 1 (.int .i64 ((k : Int) + 1))).cell 1 rfl
            simp [d1, hm, intOf]; omega
      · have hb0 : B.isST text[k] = false := by simpa using hb
        have hTT : T = ⟨0, k, tab, text, nl⟩ := by
          rw [← HG.out]
          unfold Ln.skip Ln.rest
          simp only [HD.out, List.takeWhile_cons, hb0, Bool.false_eq_true, if_false, List.length_nil, Nat.add_zero]
        have HTT := Lib.hid hTT
        clear hTT hb
        unfold B.isST at hb0
        simp only [Bool.or_eq_false_iff, beq_eq_false_iff_ne, ne_eq] at hb0
        have h32 : (((text[k]).toNat : Int) == 32) = false := u8_ne (b := 32) hb0.1
        have h9 : (((text[k]).toNat : Int) == 9) = false := u8_ne (b := 9) hb0.2
        clear hb0
        go_wp2
        go_quiet (fail)
        go_wp2
        go_end0
        rw [HTT.out]
        exact ⟨rfl, HS.out.drewN _⟩
    · have hTT : T = ⟨0, k, tab, text, nl⟩ := by
        rw [← HG.out]
        unfold Ln.skip Ln.rest
        simp only
        rw [List.drop_eq_nil_of_le (by rw [← B.size_data]; omega)]
        rfl
      have HTT := Lib.hid hTT
      clear hTT hd
      go_wp2
      go_quiet (fail)
      go_wp2
      go_end0
      rw [HTT.out]
      exact ⟨rfl, HS.out.drewN _⟩

def Ln.str (x : Ln) : List UInt8 := List.replicate x.spaces 32 ++ x.rest

set_option maxRecDepth 100000 in
set_option maxHeartbeats 1000000 in
theorem eof_w (b : Nat) (x : Ln) (w : World) (F : HP) (hs : Sat w (row b 181 x.cells * F)) :
    Calls Tryz.prog 241 #[.pointer (some ⟨b, 0, none⟩)] w fun e w' => e = .returned (.bool (decide (x.text.size ≤ x.i))) ∧ ∃ m, w' = w.drewN m := by
  obtain ⟨spaces, i, tab, text, nl⟩ := x
  have c1 : w.cell? ⟨b, 1, none⟩ = some (.int .i64 i) := hs.cell 1 rfl
  have c3 : w.cell? ⟨b, 3, none⟩ = some (.string text) := hs.cell 3 rfl
  clear hs
  go_enter Tryz.func241, Tryz.ntmps241
  go_wp2
  go_quiet (fail)
  go_wp2
  go_ret
  exact ⟨by simp, _, rfl⟩

set_option maxRecDepth 100000 in
set_option maxHeartbeats 1000000 in
theorem string_w (b : Nat) (x : Ln) (w : World) (F : HP) (hx : x.OK) (hs : Sat w (row b 181 x.cells * F)) :
    Calls Tryz.prog 190 #[.pointer (some ⟨b, 0, none⟩)] w fun e w' => e = .returned (.string (B.bs x.str)) ∧ ∃ m, w' = w.drewN m := by
  obtain ⟨spaces, i, tab, text, nl⟩ := x
  have c0 : w.cell? ⟨b, 0, none⟩ = some (.int .i64 spaces) := hs.cell 0 rfl
  have c1 : w.cell? ⟨b, 1, none⟩ = some (.int .i64 i) := hs.cell 1 rfl
  have c3 : w.cell? ⟨b, 3, none⟩ = some (.string text) := hs.cell 3 rfl
  obtain ⟨x1, x2, x3, x4⟩ := hx
  simp only at x1 x2 x3 x4
  clear hs
  have hr : text.extract i text.size = B.bs (text.data.toList.drop i) := B.extract_end _ _
  unfold Ln.str Ln.rest
  have hadd : ∀ (a : ByteArray) (w : World), a.size ≤ 3 → (Op.stringOp .add a (B.bs (text.data.toList.drop i))).run Tryz.prog w = .ok (.string (a ++ B.bs (text.data.toList.drop i))) w := fun a w ha =>
    run_string_add_sum w a _ (by rw [B.bs_size, List.length_drop, ← B.size_data]; omega)
  have a1 := fun w => hadd ⟨#[32]⟩ w (by decide)
  have a2 := fun w => hadd ⟨#[32, 32]⟩ w (by decide)
  have a3 := fun w => hadd ⟨#[32, 32, 32]⟩ w (by decide)
  clear hadd
  have h4 : spaces = 0 ∨ spaces = 1 ∨ spaces = 2 ∨ spaces = 3 := by omega
  rcases h4 with rfl | rfl | rfl | rfl
  all_goals
    go_enter Tryz.func190, Tryz.ntmps190
    go_wp2
    go_quiet (fail)
    go_wp2
    go_ret
    refine ⟨ret_str ?_, _, rfl⟩
    first | rfl | (simp [B.bs, ByteArray.ext_iff]; rfl)

end Go.Proofs.YtbfmmikllelfeaaGreatDoor

/- trimSpaceTab. -/
namespace Go.Proofs.YtbfmmikllelfeaaGreatDoor
open Go.RowKit

theorem B.trimR_step {l : List UInt8} {k : Nat} (h : k < l.length) (hs : B.isST l[k] = true) : B.trimR (l.take (k + 1)) = B.trimR (l.take k) := by
  unfold B.trimR
  rw [List.take_succ_eq_append_getElem h, List.reverse_append]
  simp [hs]
theorem B.trimR_stop {l : List UInt8} {k : Nat} (h : k < l.length) (hs : B.isST l[k] = false) : B.trimR (l.take (k + 1)) = l.take (k + 1) := by
  unfold B.trimR
  rw [List.take_succ_eq_append_getElem h, List.reverse_append]
  simp [hs]

theorem isST_of {c : UInt8} (h : ((c.toNat : Int) == 32) = true ∨ ((c.toNat : Int) == 9) = true) : B.isST c = true := by
  unfold B.isST
  rcases h with h | h
  · have : c.toNat = 32 := by have := h; simp at this; omega
    rw [show c = 32 from UInt8.toNat_inj.1 this]; rfl
  · have : c.toNat = 9 := by have := h; simp at this; omega
    rw [show c = 9 from UInt8.toNat_inj.1 this]; rfl

set_option maxHeartbeats 1000000 in
theorem trimSpaceTab_w (s : List UInt8) (w : World) (hs : s.length ≤ 1000000000000) :
    Calls Tryz.prog 108 #[.string (B.bs s)] w fun e w' => e = .returned (.string (B.bs (B.trimR (B.trimL s)))) ∧ w = w' := by
  go_enter Tryz.func108, Tryz.ntmps108
  go_wp2
  go_loopw [3] (fun i wr => ∃ k : Nat, k ≤ s.length ∧ i = .int .i64 k ∧ B.trimL s = B.trimL (s.drop k) ∧ w = wr) (fun i _ => s.length - (intOf i).toNat)
  case atStart => exact ⟨0, Nat.zero_le _, rfl, rfl, rfl⟩
  case round =>
    obtain ⟨k, hk, rfl, hn, rfl⟩ := hrel
    have HN := Lib.hid hn
    clear hn
    have hz : (B.bs s).size = s.length := rfl
    by_cases hlt : k < s.length ∧ B.isST (s[k]?.getD 0) = true
    · obtain ⟨hlt, hst⟩ := hlt
      generalize hc : s[k] = c
      have hix : ∀ h, (B.bs s)[k]'h = c := fun _ => hc
      have HIX := Lib.hid hix
      have hst2 : B.isST c = true := by rw [← hc]; simpa [hlt] using hst
      have hd : s.drop k = c :: s.drop (k + 1) := by rw [List.drop_eq_getElem_cons hlt, hc]
      have HD := Lib.hid hd
      clear hd hst
      have hcc : c = 32 ∨ c = 9 := by simpa [B.isST] using hst2
      rcases hcc with rfl | rfl
      all_goals
        go_wp2
        go_roundw
        case rel => exact ⟨k + 1, by omega, by go_num, by rw [HN.out, HD.out]; rfl, by first | trivial | rfl⟩
        case measure => simp [intOf]; omega
    · have hT : B.trimL s = s.drop k := by
        rw [HN.out]
        by_cases hlt2 : k < s.length
        · have h2 : B.isST s[k] = false := by
            cases h : B.isST s[k] with
            | false => rfl
            | true => exact absurd ⟨hlt2, by simpa [hlt2] using h⟩ hlt
          rw [List.drop_eq_getElem_cons hlt2, B.trimL, List.dropWhile_cons, h2]; rfl
        · rw [List.drop_eq_nil_of_le (by omega)]; rfl
      have hex : (B.bs s).extract k s.length = B.bs (s.drop k) := by rw [← hz, B.extract_end, B.bs_data]
      have hlen : s.length - k = (s.drop k).length := by simp
      have hzb : (s.drop k).length ≤ 1000000000000 := by simp; omega
      by_cases hlt2 : k < s.length
      · generalize hc : s[k] = c
        have hix : ∀ h, (B.bs s)[k]'h = c := fun _ => hc
        have hcf : B.isST c = false := by
          cases h : B.isST c with
          | false => rfl
          | true => exact absurd ⟨hlt2, by rw [← hc] at h; simpa [hlt2] using h⟩ hlt
        have h32 : ((c.toNat : Int) == 32) = false := u8_ne (b := 32) (by rintro rfl; simp [B.isST] at hcf)
        have h9 : ((c.toNat : Int) == 9) = false := u8_ne (b := 9) (by rintro rfl; simp [B.isST] at hcf)
        clear hlt hcf
        generalize s.drop k = t at hex hlen hzb hT
        have hzt : (B.bs t).size = t.length := rfl
        have HT := Lib.hid hT
        clear hT HN
        go_wp2
        try rw [hex]
        try rw [hlen]
        go_loopw [4] (fun i wr => ∃ j : Nat, j ≤ t.length ∧ i = .int .i64 j ∧ B.trimR t = B.trimR (t.take j) ∧ w = wr) (fun i _ => (intOf i).toNat)
        case atStart => exact ⟨t.length, Nat.le_refl _, rfl, by rw [List.take_of_length_le (Nat.le_refl _)], by first | trivial | rfl⟩
        case round =>
          obtain ⟨j, hj, rfl, hn, rfl⟩ := hrel
          have HN := Lib.hid hn
          clear hn
          cases j with
          | zero =>
            go_wp2
            go_ret
            refine ⟨ret_str ?_, rfl⟩
            rw [HT.out, HN.out]; rfl
          | succ j =>
            generalize hc : t[j] = c
            have hix : ∀ h, (B.bs t)[j]'h = c := fun _ => hc
            by_cases hst : B.isST c = true
            · have hR := B.trimR_step (l := t) (k := j) (by omega) (by rw [hc]; exact hst)
              have hcc : c = 32 ∨ c = 9 := by simpa [B.isST] using hst
              rw [hR] at HN
              rcases hcc with rfl | rfl
              all_goals
                go_wp2
                go_roundw
                case rel => exact ⟨j, by omega, by go_num, HN.out, by first | trivial | rfl⟩
                case measure => simp [intOf]
            · have hR := B.trimR_stop (l := t) (k := j) (by omega) (by rw [hc]; simpa using hst)
              have hcf : B.isST c = false := by simpa using hst
              have h32 : ((c.toNat : Int) == 32) = false := u8_ne (b := 32) (by rintro rfl; simp [B.isST] at hcf)
              have h9 : ((c.toNat : Int) == 9) = false := u8_ne (b := 9) (by rintro rfl; simp [B.isST] at hcf)
              go_wp2
              go_ret
              refine ⟨ret_str ?_, rfl⟩
              rw [HT.out, HN.out, hR, B.extract_zero, B.bs_data]
      · obtain rfl : k = s.length := by omega
        have HT := Lib.hid (show B.trimL s = [] from by rw [hT]; simp)
        clear hlt hT HN
        go_wp2
        go_loopw [4] (fun i wr => i = .int .i64 0 ∧ w = wr) (fun _ _ => 0)
        case atStart => first | exact ⟨rfl, rfl⟩ | exact ⟨rfl, trivial⟩
        case round =>
          obtain ⟨rfl, rfl⟩ := hrel
          go_wp2
          go_ret
          refine ⟨ret_str ?_, rfl⟩
          rw [HT.out]; rfl

end Go.Proofs.YtbfmmikllelfeaaGreatDoor
