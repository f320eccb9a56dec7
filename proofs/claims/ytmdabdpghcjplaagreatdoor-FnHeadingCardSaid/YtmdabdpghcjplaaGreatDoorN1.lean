/- A line's own steps: what they make of it, in plain Lean; and that the code's do the same. -/
import Derived.Test.YtmdabdpghcjplaaGreatDoorP1
import Derived.Deep.LoopGhost
namespace Go.Proofs.YtmdabdpghcjplaaGreatDoor
open Go.RowKit Sl

theorem and_three (i : Nat) (hi : i < 9223372036854775808) : bits BinOp.and IntKind.i64 (i : Int) 3 = ((i % 4 : Nat) : Int) := by
  have h1 : (BitVec.ofInt 64 (i : Int)).toNat = i := by
    rw [BitVec.ofInt_natCast, BitVec.toNat_ofNat]; exact Nat.mod_eq_of_lt (by omega)
  have h2 : (BitVec.ofInt 64 (3 : Int)).toNat = 3 := by decide
  show IntKind.i64.wrap ((BitVec.ofInt 64 (i : Int) &&& BitVec.ofInt 64 (3 : Int)).toNat : Int) = _
  rw [BitVec.toNat_and, h1, h2, show i &&& 3 = i % 4 from Nat.and_two_pow_sub_one_eq_mod i 2]
  have := Nat.mod_lt i (show 0 < 4 by decide)
  rw [IntKind.wrap_i64]
  omega

/-- the letter at the place -/
def Ln.ch (x : Ln) : Option UInt8 := x.text.data.toList[x.i]?

/-- one space less -/
def Ln.step (eol : Bool) (x : Ln) : Option Ln :=
  if 0 < x.spaces then some { x with spaces := x.spaces - 1 }
  else match x.ch with
    | none => if eol then some x else none
    | some c => if c = 9 then some { x with spaces := 3 - (x.i - x.tab) % 4, i := x.i + 1, tab := x.i + 1 } else if c = 32 then some { x with i := x.i + 1 } else none

def Ln.trimGo (min : Nat) (eol : Bool) : Nat → Nat → Ln → Option Ln
  | 0, _, x => some x
  | k + 1, n, x => match x.step eol with
    | some x' => trimGo min eol k (n + 1) x'
    | none => if min ≤ n then some x else none

def Ln.trimSpace (x : Ln) (min max : Nat) (eol : Bool) : Option Ln := x.trimGo min eol max 0

structure Ln.OK (x : Ln) : Prop where
  tab : x.tab ≤ x.i
  i : x.i ≤ x.text.size
  sp : x.spaces ≤ 3
  size : x.text.size ≤ 1000000000000

theorem Ln.step_ok {x x' : Ln} {eol : Bool} (h : x.OK) (hs : x.step eol = some x') : x'.OK ∧ x'.text = x.text ∧ x'.nl = x.nl := by
  unfold Ln.step at hs
  obtain ⟨h1, h2, h3, h4⟩ := h
  split at hs
  · obtain rfl := Option.some.inj hs
    exact ⟨⟨h1, h2, by simp; omega, h4⟩, rfl, rfl⟩
  · cases hc : x.ch with
    | none =>
      rw [hc] at hs
      simp only at hs
      split at hs
      · obtain rfl := Option.some.inj hs
        exact ⟨⟨h1, h2, h3, h4⟩, rfl, rfl⟩
      · cases hs
    | some c =>
      rw [hc] at hs
      have hl : x.i < x.text.size := by
        have := (List.getElem?_eq_some_iff.1 hc).1
        rw [← B.size_data] at this
        exact this
      simp only at hs
      split at hs
      · obtain rfl := Option.some.inj hs
        exact ⟨⟨Nat.le_refl _, hl, by simp only; omega, h4⟩, rfl, rfl⟩
      · split at hs
        · obtain rfl := Option.some.inj hs
          exact ⟨⟨by simp; omega, hl, h3, h4⟩, rfl, rfl⟩
        · cases hs

theorem Ln.trimGo_ok {min : Nat} {eol : Bool} : ∀ {k n : Nat} {x x' : Ln}, x.OK → x.trimGo min eol k n = some x' → x'.OK ∧ x'.text = x.text ∧ x'.nl = x.nl
  | 0, _, x, x', h, hs => by
    simp only [Ln.trimGo, Option.some.injEq] at hs
    subst hs
    exact ⟨h, rfl, rfl⟩
  | k + 1, n, x, x', h, hs => by
    simp only [Ln.trimGo] at hs
    cases e : x.step eol with
    | some y =>
      rw [e] at hs
      obtain ⟨h1, h2, h3⟩ := step_ok h e
      obtain ⟨i1, i2, i3⟩ := trimGo_ok h1 hs
      exact ⟨i1, i2.trans h2, i3.trans h3⟩
    | none =>
      rw [e] at hs
      simp only at hs
      split at hs
      · obtain rfl := Option.some.inj hs
        exact ⟨h, rfl, rfl⟩
      · cases hs

theorem Ln.trimSpace_ok {min max : Nat} {eol : Bool} {x x' : Ln} (h : x.OK) (hs : x.trimSpace min max eol = some x') : x'.OK ∧ x'.text = x.text ∧ x'.nl = x.nl := trimGo_ok h hs

set_option maxRecDepth 100000 in
set_option maxHeartbeats 1000000 in
theorem trimSpace_w (b : Nat) (x : Ln) (min max : Nat) (eol : Bool) (w : World) (F : HP) (hx : x.OK) (hm : max ≤ 1000) (hs : Sat w (row b 105 x.cells * F)) :
    Calls Tryz.prog 145 #[.pointer (some ⟨b, 0, none⟩), .int .i64 min, .int .i64 max, .bool eol] w fun e w' =>
      e = .returned (.bool (x.trimSpace min max eol).isSome) ∧ Sat w' (row b 105 ((x.trimSpace min max eol).getD x).cells * F) := by
  have c0 : w.cell? ⟨b, 0, none⟩ = some (.int .i64 x.spaces) := hs.cell 0 rfl
  have c1 : w.cell? ⟨b, 1, none⟩ = some (.int .i64 x.i) := hs.cell 1 rfl
  have c2 : w.cell? ⟨b, 2, none⟩ = some (.int .i64 x.tab) := hs.cell 2 rfl
  have c3 : w.cell? ⟨b, 3, none⟩ = some (.string x.text) := hs.cell 3 rfl
  have c4 : w.cell? ⟨b, 4, none⟩ = some (.int .u8 x.nl.toNat) := hs.cell 4 rfl
  have hlb : b < w.heap.size := hs.row_lt
  have hs1 : Sat (w.alloc (.cells (x.cells).toArray 105)) (row w.heap.size 105 x.cells * (row b 105 x.cells * F)) := hs.new x.cells 105 rfl
  unfold Ln.trimSpace
  generalize hT : x.trimGo min eol max 0 = T
  have HT := Lib.hid hT
  clear hT
  obtain ⟨spaces, i, tab, text, nl⟩ := x
  simp only at c0 c1 c2 c3 c4
  go_enter Tryz.func145, Tryz.ntmps145
  go_wp2
  go_loopw [10] (fun n wr => ∃ (k : Nat) (y : Ln), k ≤ max ∧ n = .int .i64 k ∧ y.OK ∧ y.text = text ∧ y.nl = nl ∧ y.trimGo min eol (max - k) k = T ∧ Sat wr (row w.heap.size 105 y.cells * (row b 105 (Ln.cells ⟨spaces, i, tab, text, nl⟩) * F))) (fun n _ => max - (intOf n).toNat)
  case atStart => exact ⟨0, _, Nat.zero_le _, rfl, hx, rfl, rfl, HT.out, hs1⟩
  case round =>
    obtain ⟨k, ⟨sp, yi, yt, yx, yn⟩, hk, rfl, hy, rfl, rfl, hg, h⟩ := hrel
    have HG := Lib.hid hg
    clear hg hs1 hs
    have d0 : wr.cell? ⟨w.heap.size, 0, none⟩ = some (.int .i64 sp) := h.cell 0 rfl
    have d1 : wr.cell? ⟨w.heap.size, 1, none⟩ = some (.int .i64 yi) := h.cell 1 rfl
    have d2 : wr.cell? ⟨w.heap.size, 2, none⟩ = some (.int .i64 yt) := h.cell 2 rfl
    have d3 : wr.cell? ⟨w.heap.size, 3, none⟩ = some (.string yx) := h.cell 3 rfl
    have d4 : wr.cell? ⟨w.heap.size, 4, none⟩ = some (.int .u8 yn.toNat) := h.cell 4 rfl
    have e0 : wr.cell? ⟨b, 0, none⟩ = some (.int .i64 spaces) := h.swap.cell 0 rfl
    have e1 : wr.cell? ⟨b, 1, none⟩ = some (.int .i64 i) := h.swap.cell 1 rfl
    have e2 : wr.cell? ⟨b, 2, none⟩ = some (.int .i64 tab) := h.swap.cell 2 rfl
    have e3 : wr.cell? ⟨b, 3, none⟩ = some (.string yx) := h.swap.cell 3 rfl
    have e4 : wr.cell? ⟨b, 4, none⟩ = some (.int .u8 yn.toNat) := h.swap.cell 4 rfl
    have f0 : ∀ i, wr.frozen? ⟨w.heap.size, i, none⟩ = false := fun i => h.frozen i
    have f1 : ∀ i, wr.frozen? ⟨b, i, none⟩ = false := fun i => h.swap.frozen i
    obtain ⟨y1, y2, y3, y4⟩ := hy
    simp only at y1 y2 y3 y4
    have HS := Lib.hid h
    clear h
    by_cases hlt : k < max
    · have hgo : ∀ o : Option Ln, Ln.step eol ⟨sp, yi, yt, yx, yn⟩ = o → (match o with | some x' => Ln.trimGo min eol (max - (k + 1)) (k + 1) x' | none => if min ≤ k then some ⟨sp, yi, yt, yx, yn⟩ else none) = T := by
        intro o ho
        have := HG.out
        rw [show max - k = (max - (k + 1)) + 1 by omega, Ln.trimGo, ho] at this
        exact this
      have HGO := Lib.hid hgo
      clear hgo
      by_cases hsp : 0 < sp
      · have hst := HGO.out (some ⟨sp - 1, yi, yt, yx, yn⟩) (by unfold Ln.step; rw [if_pos hsp])
        have HST := Lib.hid hst
        clear hst
        go_wp2
        go_roundw
        case rel =>
          refine ⟨k + 1, ⟨sp - 1, yi, yt, yx, yn⟩, by omega, by go_num, ⟨y1, y2, by simp only; omega, y4⟩, rfl, rfl, HST.out, ?_⟩
          have e : ((sp : Int) - 1) = ((sp - 1 : Nat) : Int) := by omega
          rw [e]
          exact HS.out.set 0 _
        case measure => simp [intOf]; omega
      · have hst0 := HGO.out (Ln.step eol ⟨sp, yi, yt, yx, yn⟩) rfl
        obtain rfl : sp = 0 := by omega
        have hge : yi < yx.size ∨ yi = yx.size := by omega
        rcases hge with hl | rfl
        · have hch : (⟨0, yi, yt, yx, yn⟩ : Ln).ch = some yx[yi] := by
            unfold Ln.ch
            rw [List.getElem?_eq_getElem (by rw [← B.size_data]; exact hl)]
            rfl
          unfold Ln.step at hst0
          rw [if_neg hsp, hch] at hst0
          simp only at hst0
          have HST := Lib.hid hst0
          clear hst0
          by_cases h9 : ((yx[yi]).toNat : Int) = 9
          · have e9 : yx[yi] = 9 := UInt8.toNat_inj.1 (by simpa using (by omega : (yx[yi]).toNat = 9))
            have hg9 := HST.out
            rw [if_pos e9] at hg9
            have HG9 := Lib.hid hg9
            clear hg9
            have hand : bits BinOp.and IntKind.i64 ((yi : Int) - (yt : Int)) 3 = (((yi - yt) % 4 : Nat) : Int) := by
              rw [show ((yi : Int) - (yt : Int)) = ((yi - yt : Nat) : Int) by omega, and_three _ (by omega)]
            go_wp2
            go_roundw
            case rel =>
              rw [show (4 - ((yi - yt : Nat) : Int) % 4 - 1) = ((3 - (yi - yt) % 4 : Nat) : Int) by omega]
              exact ⟨k + 1, ⟨3 - (yi - yt) % 4, yi + 1, yi + 1, yx, yn⟩, by omega, by go_num, ⟨Nat.le_refl _, hl, by simp only; omega, y4⟩, rfl, rfl, HG9.out, ((HS.out.set 0 _).set 1 _).set 2 _⟩
            case measure => simp [intOf]; omega
          · by_cases h32 : ((yx[yi]).toNat : Int) = 32
            · have e32 : yx[yi] = 32 := UInt8.toNat_inj.1 (by simpa using (by omega : (yx[yi]).toNat = 32))
              have n9 : ¬ yx[yi] = 9 := by rw [e32]; decide
              have hg2 := HST.out
              rw [if_neg n9, if_pos e32] at hg2
              have HG2 := Lib.hid hg2
              clear hg2
              go_wp2
              go_roundw
              case rel => exact ⟨k + 1, ⟨0, yi + 1, yt, yx, yn⟩, by omega, by go_num, ⟨by simp only; omega, hl, by simp only; omega, y4⟩, rfl, rfl, HG2.out, HS.out.set 1 _⟩
              case measure => simp [intOf]; omega
            · have n9 : ¬ yx[yi] = 9 := fun e => h9 (by rw [e]; rfl)
              have n32 : ¬ yx[yi] = 32 := fun e => h32 (by rw [e]; rfl)
              have hg3 := HST.out
              rw [if_neg n9, if_neg n32] at hg3
              simp only at hg3
              have HG3 := Lib.hid hg3
              clear hg3
              by_cases hmk : min ≤ k
              · go_wp2
                go_ret
                have hT := HG3.out
                rw [if_pos hmk] at hT
                rw [← hT]
                exact ⟨rfl, ((((HS.out.drop1.set 0 _).set 1 _).set 2 _).set 3 _).set 4 _⟩
              · go_wp2
                go_ret
                have hT := HG3.out
                rw [if_neg hmk] at hT
                rw [← hT]
                exact ⟨rfl, HS.out.drop1⟩
        · have hch : (⟨0, yx.size, yt, yx, yn⟩ : Ln).ch = none := by
            unfold Ln.ch
            rw [List.getElem?_eq_none (by rw [← B.size_data]; exact Nat.le_refl _)]
          unfold Ln.step at hst0
          rw [if_neg hsp, hch] at hst0
          simp only at hst0
          have HST := Lib.hid hst0
          clear hst0
          cases eol with
          | true =>
            go_wp2
            go_roundw
            case rel => exact ⟨k + 1, ⟨0, yx.size, yt, yx, yn⟩, by omega, by go_num, ⟨y1, y2, y3, y4⟩, rfl, rfl, HST.out, HS.out⟩
            case measure => simp [intOf]; omega
          | false =>
            by_cases hmk : min ≤ k
            · go_wp2
              go_ret
              have hT := HST.out
              simp only [Bool.false_eq_true, if_false] at hT
              rw [if_pos hmk] at hT
              rw [← hT]
              exact ⟨rfl, ((((HS.out.drop1.set 0 _).set 1 _).set 2 _).set 3 _).set 4 _⟩
            · go_wp2
              go_ret
              have hT := HST.out
              simp only [Bool.false_eq_true, if_false] at hT
              rw [if_neg hmk] at hT
              rw [← hT]
              exact ⟨rfl, HS.out.drop1⟩
    · go_wp2
      go_ret
      have hT := HG.out
      obtain rfl : k = max := by omega
      rw [Nat.sub_self, Ln.trimGo] at hT
      rw [← hT]
      exact ⟨rfl, ((((HS.out.drop1.set 0 _).set 1 _).set 2 _).set 3 _).set 4 _⟩

end Go.Proofs.YtmdabdpghcjplaaGreatDoor
