/- A heading is printed. -/
import Derived.Test.YtmdabdpghcjplaaGreatDoorI9
import Derived.Test.YtmdabdpghcjplaaGreatDoorSk
import Derived.Test.YtmdabdpghcjplaaGreatDoorG7
import Derived.Test.YtmdabdpghcjplaaGreatDoorI7
import Derived.Test.YtmdabdpghcjplaaGreatDoorBl
namespace Go.Proofs.YtmdabdpghcjplaaGreatDoor
open Go.RowKit Sl

def levC (lev : Nat) : UInt8 := (48 + lev).toUInt8
def headHTML (lev : Nat) (s : List UInt8) : List UInt8 := [60, 104, levC lev, 62] ++ s ++ [60, 47, 104, levC lev, 62, 10]

theorem itoa_lev {lev : Nat} (h1 : 1 ≤ lev) (h6 : lev ≤ 6) (w : World) : Calls Tryz.prog 206 #[.int .i64 lev] w fun e w' => e = .returned (.string (B.bs [levC lev])) ∧ w = w' := by
  refine (Sk.strconv_Itoa_small lev (by omega) w).mono ?_
  rintro e w' ⟨rfl, rfl⟩
  refine ⟨?_, rfl⟩
  have : lev = 1 ∨ lev = 2 ∨ lev = 3 ∨ lev = 4 ∨ lev = 5 ∨ lev = 6 := by omega
  rcases this with rfl | rfl | rfl | rfl | rfl | rfl <;> exact ret_str (by kernel_rfl)

set_option maxRecDepth 100000 in
set_option maxHeartbeats 2000000 in
theorem headPrint_w (d b lev : Nat) (st en : Value) (t : TX) (F : HP) (W w : World) (l : List UInt8) (h1 : 1 ≤ lev) (h6 : lev ≤ 6) (hn : t.toks.length ≤ 1000000000) (hc : ∀ x ∈ t.toks, (∀ s, x ≠ .code s) ∧ x.txt.length ≤ 1000000000)
    (hs : Sat W (row d 236 [st, en, .int .i64 lev, t.ptr, .string ⟨#[]⟩] * (t.read * F))) (hb : Below W.heap.size W w) (hB : IsBuf W.heap.size b l w) (hl : l.length + (headHTML lev (htmls t.toks)).length ≤ 1000000000000) :
    Calls Tryz.prog 325 #[.pointer (some ⟨d, 0, none⟩), .pointer (some ⟨b, 0, none⟩)] w fun e w' => e = .returned (.tuple #[]) ∧ IsBuf W.heap.size b (l ++ headHTML lev (htmls t.toks)) w' ∧ Below W.heap.size W w' := by
  have hd : ∀ w', Below W.heap.size W w' → w'.cell? ⟨d, 1 + 1, none⟩ = some (.int .i64 lev) ∧ w'.cell? ⟨d, 3, none⟩ = some (.pointer (some ⟨t.tb, 0, none⟩)) ∧ w'.cell? ⟨d, 4, none⟩ = some (.string ⟨#[]⟩) := fun w' hb' =>
    ⟨(hb'.cell (p := ⟨d, 2, none⟩) hs.row_lt).trans (hs.cell 2 rfl), (hb'.cell (p := ⟨d, 3, none⟩) hs.row_lt).trans (hs.cell 3 rfl), (hb'.cell (p := ⟨d, 4, none⟩) hs.row_lt).trans (hs.cell 4 rfl)⟩
  have hT := hs.cast (show _ = t.read * (row d 236 [st, en, .int .i64 lev, t.ptr, .string ⟨#[]⟩] * F) from by
    generalize t.read = Y
    ac_rfl)
  have hi := fun w => itoa_lev h1 h6 w
  unfold headHTML at hl
  simp only [List.length_append, List.length_cons, List.length_nil] at hl
  have HD := Lib.hid hd
  have HI := Lib.hid hi
  have HT := Lib.hid hT
  obtain ⟨d0, d1, d2⟩ := hd w hb
  clear hd hi hT hs
  go_enter Tryz.func325, Tryz.ntmps325
  go_wp2_with fail
  refine (HI.out w).mono ?_
  rintro e w1 ⟨rfl, rfl⟩
  have e1 : (⟨#[60, 104]⟩ : ByteArray) ++ B.bs [levC lev] = B.bs [60, 104, levC lev] := B.append [60, 104] [levC lev]
  have e2 : (⟨#[60, 47, 104]⟩ : ByteArray) ++ B.bs [levC lev] = B.bs [60, 47, 104, levC lev] := B.append [60, 47, 104] [levC lev]
  have e3 : B.bs [60, 47, 104, levC lev] ++ (⟨#[62, 10]⟩ : ByteArray) = B.bs [60, 47, 104, levC lev, 62, 10] := B.append [60, 47, 104, levC lev] [62, 10]
  go_wp2_with fail
  refine (bufWrite_w W b l (B.bs [60, 104, levC lev]) w hb hB (by rw [B.bs_size]; simp only [List.length_cons, List.length_nil]; omega)).mono ?_
  rintro e w2 ⟨rfl, hB2, hb2⟩
  rw [B.bs_data] at hB2
  obtain ⟨d0, d1, d2⟩ := HD.out w2 hb2
  go_wp2_with fail
  refine (bufByte_w W.heap.size b _ 62 w2 hB2 (by simp only [List.length_append, List.length_cons, List.length_nil]; omega)).mono ?_
  rintro e w3 ⟨rfl, hB3, hb3, _⟩
  have hb3' := hb2.trans hb3
  obtain ⟨d0, d1, d2⟩ := HD.out w3 hb3'
  have hrp := readPrint_w t b _ W w3 _ hn hc HT.out hb3' hB3 (by simp only [List.length_append, List.length_cons, List.length_nil]; omega)
  unfold TX.ptr at hrp
  have HRP := Lib.hid hrp
  clear hrp
  go_wp2_with fail
  refine HRP.out.mono ?_
  rintro e w4 ⟨rfl, hB4, hb4⟩
  obtain ⟨d0, d1, d2⟩ := HD.out w4 hb4
  go_wp2_with fail
  refine (HI.out w4).mono ?_
  rintro e w5 ⟨rfl, rfl⟩
  go_wp2_with fail
  refine (bufWrite_w W b _ (B.bs [60, 47, 104, levC lev, 62, 10]) w4 hb4 hB4 (by rw [B.bs_size]; simp only [List.length_append, List.length_cons, List.length_nil]; omega)).mono ?_
  rintro e w6 ⟨rfl, hB6, hb6⟩
  rw [B.bs_data] at hB6
  go_wp2
  go_end0
  refine ⟨rfl, ?_, hb6⟩
  unfold headHTML
  simpa [List.append_assoc] using hB6

theorem prt_head {A : List UInt8 → Prop} {d lev : Nat} {st en : Value} {t : TX} {G : HP} (h1 : 1 ≤ lev) (h6 : lev ≤ 6) (hn : t.toks.length ≤ 1000000000) (hc : ∀ x ∈ t.toks, (∀ s, x ≠ .code s) ∧ x.txt.length ≤ 1000000000) :
    Prt A (row d 236 [st, en, .int .i64 lev, t.ptr, .string ⟨#[]⟩] * (t.read * G)) (.iface 233 (.pointer (some ⟨d, 0, none⟩))) (headHTML lev (htmls t.toks)) :=
  ⟨_, ⟨d, 0, none⟩, 325, rfl, fun w => meth_Heading_PrintHTML ⟨d, 0, none⟩ w, fun w => ahead_Heading_PrintHTML ⟨d, 0, none⟩ w, enters_of Tryz.func325 (by kernel_rfl) rfl,
    fun W F w b l hW _ hb hB hl => headPrint_w d b lev st en t (G * F) W w l h1 h6 hn hc (hW.cast (by generalize t.read = Y; ac_rfl)) hb hB hl⟩

end Go.Proofs.YtmdabdpghcjplaaGreatDoor

/- A text that is one heading: parsed and printed. -/
namespace Go.Proofs.YtmdabdpghcjplaaGreatDoor
open Go.RowKit Sl

def rootOB (r : Nat) (inn : SV) (items : List Value) : OB := ⟨.iface 99 (.pointer (some ⟨r, 0, none⟩)), inn, items, 0, 0⟩

noncomputable def HdK0 (pb : Nat) (oc : List Value) (n dep : Int) (p : Nat) : HP := Sl.ex fun x : Nat × SV => Dsp pb oc ⟨n, dep, [rootOB x.1 x.2 []], [], none⟩ p

structure HdX where
  r : Nat
  inn : SV
  d : Nat
  tb : Nat

/-- The heading's block, and its text. -/
def HdC (lev : Nat) (raw : List UInt8) (toks : List Tok) (i : Nat) (d tb : Nat) : HP := row d 236 [.int .i64 1, .int .i64 1, .int .i64 lev, .pointer (some ⟨tb, 0, none⟩), .string ⟨#[]⟩] * TxsAt i [⟨tb, 1, 1, raw, toks⟩]

noncomputable def HdK1 (pb : Nat) (oc : List Value) (lev : Nat) (raw : List UInt8) (toks : List Tok) (p : Nat) : HP := Sl.ex fun x : HdX =>
  Dsp pb oc ⟨1, 0, [rootOB x.r x.inn [.iface 233 (.pointer (some ⟨x.d, 0, none⟩))]], [.pointer (some ⟨x.tb, 0, none⟩)], none⟩ p * HdC lev raw toks 0 x.d x.tb

def HdD (lev : Nat) (raw : List UInt8) (toks : List Tok) (i : Nat) (items ptrs : List Value) : HP := Sl.ex fun x : Nat × Nat => Sl.pur (items = [.iface 233 (.pointer (some ⟨x.1, 0, none⟩))] ∧ ptrs = [.pointer (some ⟨x.2, 0, none⟩)]) * HdC lev raw toks i x.1 x.2

noncomputable def HdT (pb : Nat) (oc : List Value) (lev : Nat) (raw : List UInt8) (toks : List Tok) (p : Nat) (tx : SV) (i : Nat) : HP := Dcl pb oc (HdD lev raw toks i) p tx

theorem typeAssert_root' (r : Nat) : ∀ w, (Instr.typeAssert (.iface 99 (.pointer (some ⟨r, 0, none⟩))) 119 163 true).run Tryz.prog w = .ok (.tuple #[.pointer none, .bool false]) w := fun w => by kernel_rfl

theorem zero_ok' : Ln.zero.OK := ⟨Nat.le_refl _, Nat.le_refl _, Nat.zero_le _, Nat.zero_le _⟩
theorem zero_blank' : Ln.zero.blank = true := rfl

/-- What is known of the text: one line, a heading of it. -/
structure HdText (text : List UInt8) (lev : Nat) (raw : List UInt8) : Prop where
  lines : B.lines text = [(text, 0)]
  ok : (LineOf (text, 0)).OK
  quote : (LineOf (text, 0)).quote = none
  blank : (LineOf (text, 0)).blank = false
  head : ∃ lv, (LineOf (text, 0)).heading = some (lev, lv) ∧ lv.str.length ≤ 1000000 ∧ atxText lv.str = raw

theorem does_atx {pb p : Nat} {oc : List Value} {l : Ln} {lev : Nat} {raw : List UInt8} {toks : List Tok} {G0 : HP} (hl : l.OK) (hh : ∃ lv, l.heading = some (lev, lv) ∧ lv.str.length ≤ 1000000 ∧ atxText lv.str = raw) (hoc : oc[0]? = some (.bool false)) :
    Does p (HdK0 pb oc 1 0 p * G0) (HdK1 pb oc lev raw toks p * G0) 1 l Ln.zero := by
  intro w F hs
  obtain ⟨lv, h1, h2, h3⟩ := hh
  obtain ⟨⟨r, inn⟩, h⟩ := (hs.cast (star_assoc _ _ _)).ex
  refine (newATX_does pb p oc ⟨1, 0, [rootOB r inn []], [], none⟩ [] (rootOB r inn []) l lv lev (G0 * F) w hl h1 h2 hoc rfl rfl (by show 0 < _; decide) (by show 0 < _; decide) h).mono ?_
  rintro e w' ⟨rfl, tb, d, inn', h5⟩
  refine ⟨rfl, ?_⟩
  rw [h3] at h5
  have h5' : Sat w' (Dsp pb oc ⟨1, 0, [rootOB r inn' [.iface 233 (.pointer (some ⟨d, 0, none⟩))]], [.pointer (some ⟨tb, 0, none⟩)], none⟩ p * (row d 236 [.int .i64 1, .int .i64 1, .int .i64 lev, .pointer (some ⟨tb, 0, none⟩), .string ⟨#[]⟩] * (row tb 111 [.int .i64 1, .int .i64 1, .slice none 0 0, .string (B.bs raw)] * (G0 * F)))) := h5
  have hc : HdC lev raw toks 0 d tb = row d 236 [.int .i64 1, .int .i64 1, .int .i64 lev, .pointer (some ⟨tb, 0, none⟩), .string ⟨#[]⟩] * row tb 111 [.int .i64 1, .int .i64 1, .slice none 0 0, .string (B.bs raw)] := congrArg (row d 236 _ * ·) (star_emp _)
  have h6 : Sat w' (HdK1 pb oc lev raw toks p * (G0 * F)) := by
    refine Sat.ex_mk ⟨r, inn', d, tb⟩ ?_
    show Sat w' (Dsp pb oc _ p * HdC lev raw toks 0 d tb * (G0 * F))
    rw [hc]
    exact h5'.cast (by ac_rfl)
  exact h6.cast (star_assoc _ _ _).symm

noncomputable def HdK (pb : Nat) (oc : List Value) (lev : Nat) (raw : List UInt8) (toks : List Tok) (G0 : HP) (p : Nat) (done : List (List UInt8 × UInt8)) : HP :=
  if done = [] then HdK0 pb oc 0 (-1) p * G0 else HdK1 pb oc lev raw toks p * G0

theorem head_lines (pb : Nat) (oc : List Value) (G0 : HP) (text : List UInt8) (lev : Nat) (raw : List UInt8) (toks : List Tok) (hoc : oc[0]? = some (.bool false)) (ht : HdText text lev raw) : LinesP oc G0 (HdK pb oc lev raw toks G0) pb text where
  first := by
    intro p r g cap w F h
    have h1 := dsp_first pb oc p r g cap w (G0 * F) h
    show Sat w (HdK0 pb oc 0 (-1) p * G0 * F)
    exact (Sat.ex_mk (P := fun x : Nat × SV => Dsp pb oc ⟨0, -1, [rootOB x.1 x.2 []], [], none⟩ p) (r, ⟨none, 0, 0⟩) h1).cast (star_assoc _ _ _).symm
  next := by
    intro p done l rest w F hl hs
    rw [ht.lines] at hl
    obtain ⟨rfl, rfl, rfl⟩ : done = [] ∧ l = (text, 0) ∧ rest = [] := by
      cases done with
      | nil => simp at hl; exact ⟨rfl, hl.1.symm, hl.2⟩
      | cons a b => simp at hl
    have hs1 : Sat w (HdK0 pb oc 0 (-1) p * (G0 * F)) := Sat.cast (show Sat w (HdK0 pb oc 0 (-1) p * G0 * F) from hs) (star_assoc _ _ _)
    obtain ⟨⟨r, inn⟩, h⟩ := hs1.ex
    obtain ⟨hh, hf, h1⟩ := dsp_iff.1 h
    refine ⟨DV.ps ⟨0, -1, [rootOB r inn []], [], none⟩ pb hh, arr 122 4 (.slice (some ⟨hh.g, 0, none⟩) 1 hh.cap) 1 (obCells [rootOB r inn []]) * (obOwn [rootOB r inn []] * (arr 106 1 hh.tx.v hh.tx.len [] * (row pb 78 oc * G0))), rfl, h1.cast (by show row p 96 _ * (arr 122 4 (.slice (some ⟨hh.g, 0, none⟩) 1 hh.cap) 1 (obCells [rootOB r inn []]) * (obOwn [rootOB r inn []] * (arr 106 1 hh.tx.v hh.tx.len [] * (row pb 78 oc * (G0 * F))))) = _; ac_rfl), fun w' hs' => ?_⟩
    refine (addLine_stop p (LineOf (text, 0)) Ln.zero (DV.ps ⟨1, -1, [rootOB r inn []], [], none⟩ pb hh) _ F w' (HdK0 pb oc 1 0 p * G0) (HdK1 pb oc lev raw toks p * G0) 1 ht.ok rfl ht.blank (by decide) ?_ (does_atx ht.ok ht.head hoc) zero_ok' zero_blank' ?_ hs').mono ?_
    · intro j hj
      obtain rfl : j = 0 := by omega
      intro w F hs
      exact newQuote_not _ _ w _ ht.ok ht.quote hs
    · intro w2 h5
      have h6 : Sat w2 (Dsp pb oc ⟨1, 0, [rootOB r inn []], [], none⟩ p * (G0 * F)) := dsp_iff.2 ⟨hh, hf, h5.cast (by
        show row p 96 (DV.ps ⟨1, 0, [rootOB r inn []], [], none⟩ pb hh).cells * (arr 122 4 (.slice (some ⟨hh.g, 0, none⟩) 1 hh.cap) 1 (obCells [rootOB r inn []]) * (obOwn [rootOB r inn []] * (arr 106 1 hh.tx.v hh.tx.len [] * (row pb 78 oc * G0))) * F) = row p 96 (DV.ps ⟨1, 0, [rootOB r inn []], [], none⟩ pb hh).cells * (arr 122 4 (.slice (some ⟨hh.g, 0, none⟩) 1 hh.cap) 1 (obCells [rootOB r inn []]) * (obOwn [rootOB r inn []] * (arr 106 1 hh.tx.v hh.tx.len [] * (row pb 78 oc * (G0 * F)))))
        ac_rfl)⟩
      exact (Sat.ex_mk (P := fun x : Nat × SV => Dsp pb oc ⟨1, 0, [rootOB x.1 x.2 []], [], none⟩ p) (r, inn) h6).cast (star_assoc _ _ _).symm
    · rintro e w2 ⟨rfl, h5⟩
      exact ⟨rfl, h5⟩

end Go.Proofs.YtmdabdpghcjplaaGreatDoor
