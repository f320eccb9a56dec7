/- A text that is an indented block of code: the states, line by line, and its HTML. -/
import Derived.Test.YtmdabdpghcjplaaGreatDoorE1
import Derived.Test.YtmdabdpghcjplaaGreatDoorKi
import Derived.Test.YtmdabdpghcjplaaGreatDoorN11
import Derived.Test.YtmdabdpghcjplaaGreatDoorN8
import Derived.Test.YtmdabdpghcjplaaGreatDoorA4
import Derived.Test.YtmdabdpghcjplaaGreatDoorP5
import Derived.Test.YtmdabdpghcjplaaGreatDoorCb
namespace Go.Proofs.YtmdabdpghcjplaaGreatDoor
open Go.RowKit Sl

/-- What a state with one block of code open in the root is made of. -/
structure LeafX where
  r : Nat
  g : Nat
  cap : Nat
  dep : Int
  corner : Bool
  inn : SV
  q : Nat
  ts : SV
  st : Int
  en : Int

noncomputable def LeafX.ps (x : LeafX) (pb n : Nat) : PSt := { PSt.first pb x.g x.cap bt0 with lineno := n, depth := x.dep, corner := x.corner, stack := ⟨some ⟨x.g, 0, none⟩, 2, x.cap⟩ }
/-- The cells of the stack. -/
def LeafX.cs (x : LeafX) (T : TypeId) : List Value := [.iface 99 (.pointer (some ⟨x.r, 0, none⟩)), x.inn.v, .int .i64 0, .int .i64 0, .iface T (.pointer (some ⟨x.q, 0, none⟩)), .slice none 0 0, .int .i64 x.st, .int .i64 x.en]

/-- One block of code of the type T is open in the root, after n lines; txt are its lines; its builder holds cells. -/
noncomputable def LeafHas (T : TypeId) (B : Nat → SV → HP) (pb n : Nat) (txt : List (List UInt8)) (p : Nat) : HP := Sl.ex fun x : LeafX => Sl.pur (x.inn.len = 0 ∧ x.ts.len = txt.length) * (row p 96 (x.ps pb n).cells *
  (arr 122 4 (.slice (some ⟨x.g, 0, none⟩) 2 x.cap) 2 (x.cs T) * (arr 70 1 x.inn.v x.inn.len [] * (B x.q x.ts * arr 9 1 x.ts.v x.ts.len (strCells txt)))))

theorem leafHas_iff {w : World} {T : TypeId} {B : Nat → SV → HP} {pb n p : Nat} {txt : List (List UInt8)} {F : HP} : Sat w (LeafHas T B pb n txt p * F) ↔ ∃ x : LeafX, (x.inn.len = 0 ∧ x.ts.len = txt.length) ∧
    Sat w (row p 96 (x.ps pb n).cells * (arr 122 4 (.slice (some ⟨x.g, 0, none⟩) 2 x.cap) 2 (x.cs T) * (arr 70 1 x.inn.v x.inn.len [] * (B x.q x.ts * (arr 9 1 x.ts.v x.ts.len (strCells txt) * F))))) := by
  constructor
  · intro h
    obtain ⟨x, h⟩ := h.ex
    obtain ⟨h1, h2⟩ := (h.cast (star_assoc _ _ _)).pur
    exact ⟨x, h1, h2.cast (by ac_rfl)⟩
  · rintro ⟨x, h1, h2⟩
    refine Sat.ex_mk x ?_
    rw [star_assoc, pur_star h1]
    exact h2.cast (by ac_rfl)

/-- The root's one block is a block of code. -/
def CodeC (fence : ByteArray) (txt : List (List UInt8)) (l : List Value) : HP := Sl.ex fun x : Nat × SV × Int × Int => Sl.pur (l = [.iface 262 (.pointer (some ⟨x.1, 0, none⟩))] ∧ x.2.1.len = txt.length) *
  (row x.1 371 [.int .i64 x.2.2.1, .int .i64 x.2.2.2, .string fence, .string ⟨#[]⟩, x.2.1.v] * arr 9 1 x.2.1.v x.2.1.len (strCells txt))

theorem codeC_mk {w : World} {d : Nat} {ts : SV} {st en : Int} {fence : ByteArray} {txt : List (List UInt8)} {F : HP} (hl : ts.len = txt.length)
    (h : Sat w ((row d 371 [.int .i64 st, .int .i64 en, .string fence, .string ⟨#[]⟩, ts.v] * arr 9 1 ts.v ts.len (strCells txt)) * F)) : Sat w (CodeC fence txt [.iface 262 (.pointer (some ⟨d, 0, none⟩))] * F) := by
  refine Sat.ex_mk (d, ts, st, en) ?_
  rw [star_assoc, pur_star ⟨rfl, hl⟩]
  exact h

def preB (q : Nat) (ts : SV) : HP := row q 258 (preCells ts)

/-- Closing the block, then the root. -/
theorem trimLeaf (T : TypeId) (B : Nat → SV → HP) (fence : ByteArray) (pb n p : Nat) (txt : List (List UInt8)) (F : HP) (w : World)
    (hb : ∀ (x : LeafX), Bld p x.g x.cap T 262 ⟨x.q, 0, none⟩ x.st x.en (B x.q x.ts * arr 9 1 x.ts.v x.ts.len (strCells txt)) (fun d => row d 371 [.int .i64 x.st, .int .i64 x.en, .string fence, .string ⟨#[]⟩, x.ts.v] * arr 9 1 x.ts.v x.ts.len (strCells txt)))
    (hs : Sat w (LeafHas T B pb n txt p * F)) :
    Calls Tryz.prog 56 #[.pointer (some ⟨p, 0, none⟩), .int .i64 0] w fun e w' => e = .returned (.tuple #[]) ∧ Sat w' (DocHas pb n (CodeC fence txt) p ⟨none, 0, 0⟩ 0 * F) := by
  refine (trimStack_w p 0 2 (by decide) (by decide) (fun k => if k = 2 then LeafHas T B pb n txt p else if k = 1 then RootHas pb n (CodeC fence txt) p else DocHas pb n (CodeC fence txt) p ⟨none, 0, 0⟩ 0) F ?_ ?_ w hs).mono ?_
  · intro k w _ h1 h
    have : k = 0 ∨ k = 1 ∨ k = 2 := by omega
    rcases this with rfl | rfl | rfl
    · exact docHas_len (i := 0) h
    · exact rootHas_len h
    · obtain ⟨x, _, h⟩ := leafHas_iff.1 h
      exact ⟨_, _, (PSt.facts h).2.2.2.2.1⟩
  · intro k w _ h1 h
    have : k = 0 ∨ k = 1 := by omega
    rcases this with rfl | rfl
    · exact closeRootHas pb n p _ F w h
    · obtain ⟨x, ⟨hx1, hx2⟩, h⟩ := leafHas_iff.1 h
      obtain ⟨junk, _, j2, j3, j4, hr⟩ := h.swap.arr_row
      refine (closeLeaf_w p x.g x.cap T 262 ⟨x.q, 0, none⟩ (.iface 99 (.pointer (some ⟨x.r, 0, none⟩))) (.int .i64 0) (.int .i64 0) (.slice none 0 0) x.inn [] x.st x.en junk _ _ (x.ps pb n) F w rfl j2 (by omega) (hb x)
        (fun v w => tb_Block_CodeBlock_List v w) (hr.swap.cast (by rw [show x.cs T = [.iface 99 (.pointer (some ⟨x.r, 0, none⟩)), x.inn.v, .int .i64 0, .int .i64 0, .iface T (.pointer (some ⟨x.q, 0, none⟩)), .slice none 0 0, .int .i64 x.st, .int .i64 x.en] from rfl]; ac_rfl))).mono ?_
      rintro e w' ⟨⟨v, rfl⟩, d, inn', hi, h5⟩
      refine ⟨v, rfl, rootHas_iff.2 ⟨⟨x.r, x.g, x.cap, x.dep, x.corner, inn', [.iface 262 (.pointer (some ⟨d, 0, none⟩))]⟩, ⟨by simp [hi, hx1], by simp⟩, ?_⟩⟩
      have h6 := Sl.arr_mk (t := 122) (sz := 4) (n := 1) (cap := x.cap) (xs := [.iface 99 (.pointer (some ⟨x.r, 0, none⟩)), inn'.v, .int .i64 0, .int .i64 0]) (junk := [.iface T (.pointer (some ⟨x.q, 0, none⟩)), .slice none 0 0, .int .i64 x.st, .int .i64 x.en] ++ junk) rfl (by omega) j3 (by simpa [LeafX.cs] using j4) h5.swap
      rw [List.nil_append] at h6
      have h7 : Sat w' ((row d 371 [.int .i64 x.st, .int .i64 x.en, .string fence, .string ⟨#[]⟩, x.ts.v] * arr 9 1 x.ts.v x.ts.len (strCells txt)) * (row p 96 { x.ps pb n with stack := ⟨some ⟨x.g, 0, none⟩, 1, x.cap⟩ }.cells *
        (arr 122 4 (.slice (some ⟨x.g, 0, none⟩) 1 x.cap) 1 [.iface 99 (.pointer (some ⟨x.r, 0, none⟩)), inn'.v, .int .i64 0, .int .i64 0] * (arr 70 1 inn'.v inn'.len [.iface 262 (.pointer (some ⟨d, 0, none⟩))] * F)))) := h6.cast (by ac_rfl)
      have h8 := codeC_mk (fence := fence) (txt := txt) hx2 h7
      generalize CodeC fence txt [.iface 262 (.pointer (some ⟨d, 0, none⟩))] = H at h8
      exact h8.cast (by ac_rfl)
  · rintro e w' ⟨rfl, h⟩
    exact ⟨rfl, h⟩

theorem not_item {pb n p : Nat} {l : Ln} (hl : l.OK) (hc : Ln.noItem (Ln.item 3 l).peek) : Not p (Fresh pb n p) 4 l := by
  intro w F hs
  obtain ⟨x, hx, h⟩ := fresh_iff.1 hs
  obtain ⟨f0, f1, f2, f3, f4, f5, f6, f7, f8, f9, f10, f11, fz, hlp⟩ := PSt.facts h
  obtain ⟨junk, _, _, _, _, hr⟩ := h.swap.arr_row
  refine (newListItem_not p x.g 0 1 x.cap 99 _ l w _ (by decide) (by decide) hl hc f4 ?_ (hr.cell 0 rfl) (fun w => by kernel_rfl) hs)
  rw [f5]
  show some (Value.int .i64 x.dep) = _
  rw [hx.2.2]
  rfl

theorem not_html {p : Nat} {S : HP} {l : Ln} (h : l.OK) (hc : l.indent.peek ≠ 60) : Not p S 5 l := fun w F hs => newHTML_not _ l w (S * F) h hc hs
theorem not_fence {p : Nat} {S : HP} {l : Ln} (h : l.OK) (hc : (Ln.item 3 l).peek ≠ 96 ∧ (Ln.item 3 l).peek ≠ 126) : Not p S 6 l := fun w F hs => newFence_not _ l w (S * F) h hc hs

theorem does_pre {pb p : Nat} {l l4 : Ln} (hl : l.OK) (h4 : l.trimSpace 4 4 false = some l4) (hb : l4.blank = false) : Does p (Fresh pb 1 p) (LeafHas 256 preB pb 1 [l4.str] p) 7 l Ln.zero := by
  intro w F hs
  obtain ⟨x, ⟨hx1, hx2, hx3⟩, hs2⟩ := fresh_iff.1 hs
  refine (newPre_does p x.g x.cap 99 (.pointer (some ⟨x.r, 0, none⟩)) (.int .i64 0) (.int .i64 0) x.inn l l4 (x.st pb 1) _ w rfl hx3 hl h4 hb (typeAssert_root x.r) hs2).mono ?_
  rintro e w' ⟨rfl, q, g2, cap2, ts, c, ht, h5⟩
  refine ⟨rfl, leafHas_iff.2 ⟨⟨x.r, g2, cap2, x.dep, c, x.inn, q, ts, 1, 1⟩, ⟨hx2, ht⟩, ?_⟩⟩
  rw [hx1] at h5
  have h6 : Sat w' (row p 96 ((⟨x.r, g2, cap2, x.dep, c, x.inn, q, ts, 1, 1⟩ : LeafX).ps pb 1).cells * (arr 122 4 (.slice (some ⟨g2, 0, none⟩) 2 cap2) 2 ((⟨x.r, g2, cap2, x.dep, c, x.inn, q, ts, 1, 1⟩ : LeafX).cs 256) *
    (preB q ts * (arr 9 1 ts.v ts.len (strCells [l4.str]) * (arr 70 1 x.inn.v x.inn.len [] * F))))) := h5
  exact h6.cast (by ac_rfl)

def preR' (q n : Nat) (txt : List (List UInt8)) : HP := Sl.ex fun ts : SV => Sl.pur (ts.len = n) * (preB q ts * arr 9 1 ts.v ts.len (strCells txt))

theorem ext_pre (p q : Nat) (l l4 : Ln) (ts : SV) (txt : List (List UInt8)) (hl : l.OK) (h4 : l.trimSpace 4 4 true = some l4) (hn : ts.len ≤ 1000000000) :
    Ext p 256 ⟨q, 0, none⟩ (preB q ts * arr 9 1 ts.v ts.len (strCells txt)) (preR' q (ts.len + 1) (txt ++ [l4.str])) l :=
  ⟨336, fun w => meth_preBuilder_extend ⟨q, 0, none⟩ w, fun w => ahead_preBuilder_extend ⟨q, 0, none⟩ w, enters_of Tryz.func336 (by kernel_rfl) rfl, fun x w F hs => by
    refine (preExtend_w p q l l4 x ts (strCells txt) F w hl h4 hn (hs.cast (by unfold preB; ac_rfl))).mono ?_
    rintro e w' ⟨rfl, ts', c, ht, h5⟩
    refine ⟨rfl, c, ?_⟩
    have h6 : Sat w' ((preB q ts' * arr 9 1 ts'.v ts'.len (strCells (txt ++ [l4.str]))) * (row p 96 { x with corner := c }.cells * F)) := h5.cast (by unfold preB strCells; rw [List.map_append]; ac_rfl)
    have h7 : Sat w' (preR' q (ts.len + 1) (txt ++ [l4.str]) * (row p 96 { x with corner := c }.cells * F)) := by
      refine Sat.ex_mk ts' ?_
      rw [star_assoc, pur_star ht]
      exact h6
    exact h7.swap⟩

noncomputable def IndK (pb : Nat) (p : Nat) (done : List (List UInt8 × UInt8)) : HP :=
  if done = [] then RootHas pb 0 nilC p else LeafHas 256 preB pb done.length (done.map fun l => l.1.drop 4) p

theorem ind_lines (pb : Nat) (text : List UInt8) (h : IndText (B.lines text)) : Lines (IndK pb) pb text where
  first := by
    intro p r g cap w F h
    exact rootHas_first pb p r g cap w F h
  next := by
    intro p done l rest w F hl hs
    obtain ⟨s, nl, rfl, hsz⟩ := h.all l (by rw [hl]; simp)
    by_cases hd : done = []
    · subst hd
      obtain ⟨s', nl', rest', hL, hink⟩ := h.first
      rw [hL, List.nil_append] at hl
      obtain ⟨h1, h2⟩ := List.cons.inj hl
      have h3 : s' = s := by
        have := congrArg (fun x : List UInt8 × UInt8 => x.1.drop 4) h1
        simpa only [indL_drop] using this
      subst h3
      obtain ⟨x, hx, h⟩ := rootHas_iff.1 hs
      obtain ⟨hi, h2⟩ := nilC_iff.1 (h.cast (show _ = nilC x.items * (row p 96 (x.st pb 0).cells * (arr 122 4 (.slice (some ⟨x.g, 0, none⟩) 1 x.cap) 1 [.iface 99 (.pointer (some ⟨x.r, 0, none⟩)), x.inn.v, .int .i64 0, .int .i64 0] * (arr 70 1 x.inn.v x.inn.len x.items * F))) from by ac_rfl))
      refine ⟨x.st pb 0, arr 122 4 (.slice (some ⟨x.g, 0, none⟩) 1 x.cap) 1 [.iface 99 (.pointer (some ⟨x.r, 0, none⟩)), x.inn.v, .int .i64 0, .int .i64 0] * arr 70 1 x.inn.v x.inn.len x.items, rfl, h2.cast (by ac_rfl), fun w' hs' => ?_⟩
      have hf := firstInd (nl := nl) hsz hink
      have hs3 : Sat w' (row p 96 (x.st pb 1).cells * (arr 122 4 (.slice (some ⟨x.g, 0, none⟩) 1 x.cap) 1 [.iface 99 (.pointer (some ⟨x.r, 0, none⟩)), x.inn.v, .int .i64 0, .int .i64 0] * (arr 70 1 x.inn.v x.inn.len x.items * F))) := by
        refine hs'.cast ?_
        rw [star_assoc]
        rfl
      obtain ⟨l4, p1, p2, p3⟩ := hf.pre
      refine (addLine_stop p (LineOf (indL s', nl)) Ln.zero (x.st pb 1) _ F w' (Fresh pb 1 p) (LeafHas 256 preB pb 1 [l4.str] p) 7 hf.ok rfl hf.blank (by decide) ?_ (does_pre hf.ok p1 p2) zero_ok zero_blank ?_ hs3).mono ?_
      · intro j hj
        have : j = 0 ∨ j = 1 ∨ j = 2 ∨ j = 3 ∨ j = 4 ∨ j = 5 ∨ j = 6 := by omega
        rcases this with rfl | rfl | rfl | rfl | rfl | rfl | rfl
        · exact not_quote hf.ok hf.quote
        · exact not_atx hf.ok hf.heading
        · exact not_setext
        · exact not_hr hf.ok hf.hr
        · exact not_item hf.ok (by rw [hf.item]; exact ⟨by decide, by decide, by decide, .inl (by decide)⟩)
        · exact not_html hf.ok (by rw [hf.indent]; decide)
        · exact not_fence hf.ok (by rw [hf.item]; decide)
      · intro w2 h5
        exact fresh_of hi hx.1 h5
      · rintro e w2 ⟨rfl, h5⟩
        refine ⟨rfl, ?_⟩
        rw [p3] at h5
        show Sat w2 (IndK pb p ([] ++ [(indL s', nl)]) * F)
        unfold IndK
        rw [if_neg (by simp)]
        simpa [indL_drop] using h5
    · have hk : IndK pb p done = LeafHas 256 preB pb done.length (done.map fun l => l.1.drop 4) p := if_neg hd
      rw [hk] at hs
      obtain ⟨x, ⟨hx1, hx2⟩, h0⟩ := leafHas_iff.1 hs
      have hdl : done.length ≤ 1000000 := by
        have h1 := congrArg List.length hl
        rw [List.length_append] at h1
        have := h.len
        omega
      refine ⟨x.ps pb done.length, arr 122 4 (.slice (some ⟨x.g, 0, none⟩) 2 x.cap) 2 (x.cs 256) * (arr 70 1 x.inn.v x.inn.len [] * (preB x.q x.ts * arr 9 1 x.ts.v x.ts.len (strCells (done.map fun l => l.1.drop 4)))), rfl, h0.cast (by ac_rfl), fun w' hs' => ?_⟩
      obtain ⟨l4, e1, e2⟩ := ind_ext s nl
      have hok : (LineOf (indL s, nl)).OK := lineOf_ok _ _ (by have := indL_len s; omega)
      have hs3 : Sat w' (row p 96 (x.ps pb (done.length + 1)).cells * (arr 122 4 (.slice (some ⟨x.g, 0, none⟩) 2 x.cap) 2 (x.cs 256) * ((preB x.q x.ts * arr 9 1 x.ts.v x.ts.len (strCells (done.map fun l => l.1.drop 4))) * (arr 70 1 x.inn.v x.inn.len [] * F)))) := by
        have h5 : Sat w' (row p 96 (x.ps pb (done.length + 1)).cells * (arr 122 4 (.slice (some ⟨x.g, 0, none⟩) 2 x.cap) 2 (x.cs 256) * (arr 70 1 x.inn.v x.inn.len [] * (preB x.q x.ts * arr 9 1 x.ts.v x.ts.len (strCells (done.map fun l => l.1.drop 4)))) * F)) := hs'
        exact h5.cast (by ac_rfl)
      refine (addLine_leaf p x.g x.cap (LineOf (indL s, nl)) (x.ps pb (done.length + 1)) 256 ⟨x.q, 0, none⟩ _ _ _ _ _ x.st x.en _ _ _ w' hok rfl (ext_pre p x.q _ l4 x.ts (done.map fun l => l.1.drop 4) hok e1 (by rw [hx2, List.length_map]; omega)) hs3).mono ?_
      rintro e w2 ⟨rfl, c, en', h6⟩
      refine ⟨rfl, ?_⟩
      have hk2 : IndK pb p (done ++ [(indL s, nl)]) = LeafHas 256 preB pb (done.length + 1) ((done.map fun l => l.1.drop 4) ++ [s]) p := by
        unfold IndK
        rw [if_neg (by simp), List.length_append, List.map_append]
        simp [indL_drop]
      rw [hk2]
      have h7 : Sat w2 (preR' x.q (x.ts.len + 1) ((done.map fun l => l.1.drop 4) ++ [l4.str]) * (row p 96 { x.ps pb (done.length + 1) with depth := 1, corner := c }.cells * (arr 122 4 (.slice (some ⟨x.g, 0, none⟩) 2 x.cap) 2 [.iface 99 (.pointer (some ⟨x.r, 0, none⟩)), x.inn.v, .int .i64 0, .int .i64 0, .iface 256 (.pointer (some ⟨x.q, 0, none⟩)), .slice none 0 0, .int .i64 x.st, .int .i64 en'] *
        (arr 70 1 x.inn.v x.inn.len [] * F)))) := h6.cast (by ac_rfl)
      obtain ⟨ts', h8⟩ := h7.ex
      rw [star_assoc] at h8
      obtain ⟨ht, h9⟩ := h8.pur
      rw [e2] at h9
      refine leafHas_iff.2 ⟨⟨x.r, x.g, x.cap, 1, c, x.inn, x.q, ts', x.st, en'⟩, ⟨hx1, ?_⟩, ?_⟩
      · show ts'.len = _
        rw [ht, hx2]; simp
      · have h10 : Sat w2 ((preB x.q ts' * arr 9 1 ts'.v ts'.len (strCells ((done.map fun l => l.1.drop 4) ++ [s]))) * (row p 96 ((⟨x.r, x.g, x.cap, 1, c, x.inn, x.q, ts', x.st, en'⟩ : LeafX).ps pb (done.length + 1)).cells * (arr 122 4 (.slice (some ⟨x.g, 0, none⟩) 2 x.cap) 2 ((⟨x.r, x.g, x.cap, 1, c, x.inn, x.q, ts', x.st, en'⟩ : LeafX).cs 256) *
          (arr 70 1 x.inn.v x.inn.len [] * F)))) := h9
        exact h10.cast (by ac_rfl)

theorem prt_code (fence : ByteArray) (txt : List (List UInt8)) (d : Nat) (hn : txt.length ≤ 1000000) (hsz : ∀ s ∈ txt, s.length ≤ 1000000000) (hf : codeOk fence txt) (hl : (codeHTML txt).length ≤ 1000000000000) :
    Prt (fun l => l = []) (CodeC fence txt [.iface 262 (.pointer (some ⟨d, 0, none⟩))]) (.iface 262 (.pointer (some ⟨d, 0, none⟩))) (codeHTML txt) :=
  ⟨_, ⟨d, 0, none⟩, 337, rfl, fun w => meth_CodeBlock_PrintHTML ⟨d, 0, none⟩ w, fun w => ahead_CodeBlock_PrintHTML ⟨d, 0, none⟩ w, enters_of Tryz.func337 (by kernel_rfl) rfl,
    fun W F w b l hs hA hb hB _ => by
      obtain rfl : l = [] := hA
      obtain ⟨⟨d', ts, st, en⟩, h1⟩ := hs.ex
      rw [star_assoc] at h1
      obtain ⟨⟨h2, h3⟩, h4⟩ := h1.pur
      have h5 : d = d' := by simpa using h2
      subst h5
      exact codePrint_w d b (.int .i64 st) (.int .i64 en) fence ts txt F W w h3 hn hsz (h4.cast (star_assoc _ _ _)) hf hb hB hl⟩

/-- A document whose one block is a block of code. -/
theorem code_html (fence : ByteArray) (txt : List (List UInt8)) (pb n p : Nat) (tx : SV) (i : Nat) (root : Option Addr) (w : World) (G : HP) (hn : txt.length ≤ 1000000) (hsz : ∀ s ∈ txt, s.length ≤ 1000000000) (hf : codeOk fence txt) (hl : (codeHTML txt).length ≤ 1000000000000)
    (hs : Sat w (DocHas pb n (CodeC fence txt) p tx i * G)) (hr : w.cell? ⟨p, 1, none⟩ = some (.pointer root)) :
    Calls Tryz.prog 27 #[.iface 45 (.pointer root)] w fun e w' => e = .returned (.string (B.bs (codeHTML txt))) ∧ Sat w' G := by
  obtain ⟨x, ⟨_, hx1, hx2⟩, hd⟩ := docHas_iff.1 hs
  have hr' := hd.cell 1 (v := .pointer (some ⟨x.d, 0, none⟩)) rfl
  rw [hr] at hr'
  have hr2 : root = some ⟨x.d, 0, none⟩ := by injection hr' with e; injection e
  subst hr2
  obtain ⟨⟨d, ts, st, en⟩, h2⟩ := (hd.cast (show _ = CodeC fence txt x.items * (row p 96 (x.st pb n).cells * (row x.d 341 [.int .i64 0, .int .i64 0, x.inn.v, .map none] * (arr 70 1 x.inn.v x.inn.len x.items * G))) from by ac_rfl)).ex
  rw [star_assoc] at h2
  obtain ⟨⟨hi, _⟩, _⟩ := h2.pur
  have hd1 := hd.drop1
  rw [hi] at hd1 hx1 hx2
  have h4 := toHTML_w (fun l => l = []) x.d (.int .i64 0) (.int .i64 0) (.map none) x.inn [.iface 262 (.pointer (some ⟨d, 0, none⟩))] [codeHTML txt] (CodeC fence txt [.iface 262 (.pointer (some ⟨d, 0, none⟩))]) G w hx1 hx2 hd1 rfl ?_ ?_ (by simpa using hl)
  · simpa using h4
  · intro i v o hv ho
    cases i with
    | zero =>
      simp at hv ho
      subst hv; subst ho
      exact prt_code fence txt d hn hsz hf hl
    | succ i => simp at hv
  · intro k hk
    obtain rfl : k = 0 := by simpa using hk
    rfl

theorem ind_prints (text : List UInt8) (txt : List (List UInt8)) (h : IndText (B.lines text)) (htx : (B.lines text).map (fun l => l.1.drop 4) = txt) (hz : text.length ≤ 1000000000) (hnul : (0 : UInt8) ∉ text) (hl : (codeHTML txt).length ≤ 1000000000000) :
    Prints (B.bs text) (B.bs (codeHTML txt)) where
  size := by rw [B.bs_size]; exact hz
  nul := by rw [B.bs_data]; exact B.no_nul hnul
  run := by
    intro pb
    rw [B.bs_data]
    have hne : B.lines text ≠ [] := by
      obtain ⟨s, nl, rest, e, _⟩ := h.first
      rw [e]; simp
    have hn : txt.length ≤ 1000000 := by rw [← htx, List.length_map]; exact h.len
    have hsz : ∀ s ∈ txt, s.length ≤ 1000000000 := by
      intro s hs
      rw [← htx] at hs
      obtain ⟨l, hl1, rfl⟩ := List.mem_map.1 hs
      obtain ⟨s', nl, rfl, h2⟩ := h.all l hl1
      rw [indL_drop]; exact h2
    have hf : codeOk ⟨#[]⟩ txt := by
      obtain ⟨s, nl, h1, h2⟩ := h.last
      refine .inr ⟨rfl, s, ?_, trimR_ink h2⟩
      rw [← htx, List.getLast?_map, h1]
      simp [indL_drop]
    refine ⟨IndK pb, DocHas pb (B.lines text).length (CodeC ⟨#[]⟩ txt), ind_lines pb text h, ends_of _ pb _ _ _ (fun p w F hs => ?_), ?_⟩
    · have hk : IndK pb p (B.lines text) = LeafHas 256 preB pb (B.lines text).length txt p := by
        unfold IndK
        rw [if_neg hne, htx]
      rw [hk] at hs
      exact trimLeaf 256 preB ⟨#[]⟩ pb _ p txt F w (fun x => bld_pre p x.q x.g x.cap x.st x.en x.ts (strCells txt)) hs
    · intro p tx root w G hs hr
      exact code_html ⟨#[]⟩ txt pb _ p tx tx.len root w G hn hsz hf hl hs hr

end Go.Proofs.YtmdabdpghcjplaaGreatDoor
