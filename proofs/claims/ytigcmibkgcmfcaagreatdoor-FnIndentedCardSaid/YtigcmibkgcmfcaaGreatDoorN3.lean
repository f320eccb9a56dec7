/- The block starters' looks at a line. -/
import Derived.Test.YtigcmibkgcmfcaaGreatDoorN2
import Derived.Test.YtigcmibkgcmfcaaGreatDoorP3
namespace Go.Proofs.YtigcmibkgcmfcaaGreatDoor
open Go.RowKit Sl

def Ln.indent (x : Ln) : Ln := (x.trimSpace 0 3 false).getD x

theorem Ln.trimGo_some {eol : Bool} : ∀ {k n : Nat} {x : Ln}, (x.trimGo 0 eol k n).isSome = true
  | 0, _, _ => rfl
  | k + 1, n, x => by
    simp only [Ln.trimGo]
    cases x.step eol with
    | none => simp
    | some y => exact trimGo_some

theorem Ln.trimSpace_some (x : Ln) (k : Nat) (eol : Bool) : (x.trimSpace 0 k eol).isSome = true := trimGo_some

theorem Ln.getD_ok {o : Option Ln} {x : Ln} (h : x.OK) (ho : ∀ y, o = some y → y.OK ∧ y.text = x.text ∧ y.nl = x.nl) : (o.getD x).OK ∧ (o.getD x).text = x.text ∧ (o.getD x).nl = x.nl := by
  cases o with
  | none => exact ⟨h, rfl, rfl⟩
  | some y => exact ho y rfl

theorem Ln.indent_ok {x : Ln} (h : x.OK) : x.indent.OK ∧ x.indent.text = x.text ∧ x.indent.nl = x.nl := getD_ok h fun _ e => trimSpace_ok h e

def Ln.quote (x : Ln) : Option Ln := (x.indent.trim 62).map fun t => (t.trimSpace 0 1 true).getD t

theorem Ln.quote_ok {x x' : Ln} (h : x.OK) (hq : x.quote = some x') : x'.OK ∧ x'.text = x.text ∧ x'.nl = x.nl := by
  unfold Ln.quote at hq
  obtain ⟨t, ht, rfl⟩ := Option.map_eq_some_iff.1 hq
  obtain ⟨h1, h2, h3⟩ := indent_ok h
  obtain ⟨i1, i2, i3⟩ := trim_ok h1 ht
  obtain ⟨j1, j2, j3⟩ := getD_ok i1 fun _ e => trimSpace_ok i1 e
  exact ⟨j1, j2.trans (i2.trans h2), j3.trans (i3.trans h3)⟩

theorem line_cells {w : World} {b : Nat} {x : Ln} {F : HP} (h : Sat w (row b 101 x.cells * F)) :
    w.cell? ⟨b, 0, none⟩ = some (.int .i64 x.spaces) ∧ w.cell? ⟨b, 1, none⟩ = some (.int .i64 x.i) ∧ w.cell? ⟨b, 2, none⟩ = some (.int .i64 x.tab) ∧ w.cell? ⟨b, 3, none⟩ = some (.string x.text) ∧ w.cell? ⟨b, 4, none⟩ = some (.int .u8 x.nl.toNat) ∧ ∀ i, w.frozen? ⟨b, i, none⟩ = false :=
  ⟨h.cell 0 rfl, h.cell 1 rfl, h.cell 2 rfl, h.cell 3 rfl, h.cell 4 rfl, fun i => h.frozen i⟩

def Ln.zero : Ln := ⟨0, 0, 0, ⟨#[]⟩, 0⟩
theorem Sl.Sat.third {w : World} {A B C F : HP} (h : Sat w (A * (B * (C * F)))) : Sat w (C * (A * (B * F))) := h.cast (by ac_rfl)

set_option maxRecDepth 100000 in
set_option maxHeartbeats 1000000 in
theorem trimQuote_w (x : Ln) (w : World) (F : HP) (hx : x.OK) (hs : Sat w F) :
    Calls Tryz.prog 122 #[x.agg] w fun e w' => e = .returned (.tuple #[((x.quote).getD x).agg, .bool x.quote.isSome]) ∧ Sat w' F := by
  have h1 : Sat (w.alloc (.cells x.cells.toArray 101)) (row w.heap.size 101 x.cells * F) := hs.new _ _ rfl
  have h2 := h1.new (d := w.heap.size + 1) Ln.zero.cells 101 (by simp)
  have h3 := h2.new (d := w.heap.size + 2) x.cells 101 (by simp)
  generalize hq : x.quote = q
  have hq' : (x.indent.trim 62).map (fun t => (t.trimSpace 0 1 true).getD t) = q := hq
  have HQ := Lib.hid hq'
  clear hq hq'
  have hxi := Ln.indent_ok hx
  generalize hi : x.indent = xi at hxi
  have hi' : (x.trimSpace 0 3 false).getD x = xi := hi
  have HI := Lib.hid hi
  have HI2 := Lib.hid hi'
  clear hi hi'
  have h62 : ((62 : UInt8).toNat : Int) = 62 := rfl
  unfold Ln.agg
  go_enter Tryz.func122, Tryz.ntmps122
  go_wp2_with fail
  refine (trimSpace_w _ x 0 3 false _ _ hx (by decide) h3).mono ?_
  rintro e w1 ⟨rfl, s1⟩
  rw [HI2.out] at s1
  go_wp2_with fail
  refine (trim_w _ xi 62 _ _ hxi.1 s1).mono ?_
  cases ht : xi.trim 62 with
  | none =>
    rintro e w2 ⟨rfl, s2⟩
    have hqq := HQ.out
    rw [HI.out, ht] at hqq
    simp only [Option.map_none] at hqq
    subst hqq
    obtain ⟨a0, a1, a2, a3, a4, af⟩ := line_cells s2.swap
    obtain ⟨b0, b1, b2, b3, b4, bf⟩ := line_cells s2.third
    have HS := Lib.hid s2
    clear s1 s2 h1 h2 h3
    go_wp2
    refine bodyPost_ret (v := .tuple #[x.agg, .bool false]) (by simp [results, Tryz.results122, go_sem, Ln.agg, *]) rfl ⟨rfl, ?_⟩
    exact (((((HS.out.swap.set 0 _).set 1 _).set 2 _).set 3 _).set 4 _).drop1.drop1.drop1
  | some t =>
    rintro e w2 ⟨rfl, s2⟩
    simp only [Option.getD_some] at s2
    have hqq := HQ.out
    rw [HI.out, ht] at hqq
    simp only [Option.map_some] at hqq
    subst hqq
    have ht1 := (Ln.trim_ok hxi.1 ht).1
    go_wp2_with fail
    refine (trimSpace_w _ t 0 1 true _ _ ht1 (by decide) s2).mono ?_
    rintro e w3 ⟨rfl, s3⟩
    generalize hu : (t.trimSpace 0 1 true).getD t = u at s3
    obtain ⟨a0, a1, a2, a3, a4, af⟩ := line_cells s3.swap
    obtain ⟨b0, b1, b2, b3, b4, bf⟩ := line_cells s3
    have HS := Lib.hid s3
    have HU := Lib.hid hu
    clear s1 s2 s3 h1 h2 h3 hu
    go_wp2
    refine bodyPost_ret (v := .tuple #[u.agg, .bool true]) (by simp [results, Tryz.results122, go_sem, Ln.agg, *]) rfl ⟨?_, ?_⟩
    · simp [HU.out, Ln.agg]
    · exact (((((HS.out.swap.set 0 _).set 1 _).set 2 _).set 3 _).set 4 _).drop1.drop1.drop1

end Go.Proofs.YtigcmibkgcmfcaaGreatDoor
