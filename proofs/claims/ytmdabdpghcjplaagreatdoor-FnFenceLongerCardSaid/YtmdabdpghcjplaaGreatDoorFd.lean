/- A text that is a fenced block of code: the states, line by line, and its HTML. -/
import Derived.Test.YtmdabdpghcjplaaGreatDoorE2
import Derived.Test.YtmdabdpghcjplaaGreatDoorA4
import Derived.Test.YtmdabdpghcjplaaGreatDoorFx
import Derived.Test.YtmdabdpghcjplaaGreatDoorTop
namespace Go.Proofs.YtmdabdpghcjplaaGreatDoor
open Go.RowKit Sl

/-- Closing a block of code that is open in the root. -/
theorem closeLeafHas (T : TypeId) (B : Nat → SV → HP) (fence : ByteArray) (pb n p : Nat) (txt : List (List UInt8)) (F : HP) (w : World)
    (hb : ∀ (x : LeafX), Bld p x.g x.cap T 262 ⟨x.q, 0, none⟩ x.st x.en (B x.q x.ts * arr 9 1 x.ts.v x.ts.len (strCells txt)) (fun d => row d 371 [.int .i64 x.st, .int .i64 x.en, .string fence, .string ⟨#[]⟩, x.ts.v] * arr 9 1 x.ts.v x.ts.len (strCells txt)))
    (hs : Sat w (LeafHas T B pb n txt p * F)) :
    Calls Tryz.prog 65 #[.pointer (some ⟨p, 0, none⟩)] w fun e w' => ∃ v, e = .returned v ∧ Sat w' (RootHas pb n (CodeC fence txt) p * F) := by
  obtain ⟨x, ⟨hx1, hx2⟩, h⟩ := leafHas_iff.1 hs
  obtain ⟨junk, _, j2, j3, j4, hr⟩ := h.swap.arr_row
  refine (closeLeaf_w p x.g x.cap T 262 ⟨x.q, 0, none⟩ (.iface 99 (.pointer (some ⟨x.r, 0, none⟩))) (.int .i64 0) (.int .i64 0) (.slice none 0 0) x.inn [] x.st x.en junk _ _ (x.ps pb n) F w rfl j2 (by omega) (hb x)
    (fun v w => tb_Block_CodeBlock_List v w) (hr.swap.cast (by rw [show x.cs T = [.iface 99 (.pointer (some ⟨x.r, 0, none⟩)), x.inn.v, .int .i64 0, .int .i64 0, .iface T (.pointer (some ⟨x.q, 0, none⟩)), .slice none 0 0, .int .i64 x.st, .int .i64 x.en] from rfl]; ac_rfl))).mono ?_
  rintro e w' ⟨⟨v, rfl⟩, d, inn', hi, h5⟩
  refine ⟨v, rfl, rootHas_iff.2 ⟨⟨x.r, x.g, x.cap, x.dep, x.corner, inn', [.iface 262 (.pointer (some ⟨d, 0, none⟩))]⟩, ⟨by simp [hi, hx1], by simp⟩, ?_⟩⟩
  have h6 := Sl.arr_mk (t := 122) (sz := 4) (n := 1) (cap := x.cap) (xs := [.iface 99 (.pointer (some ⟨x.r, 0, none⟩)), inn'.v, .int .i64 0, .int .i64 0]) (junk := [.iface T (.pointer (some ⟨x.q, 0, none⟩)), .slice none 0 0, .int .i64 x.st, .int .i64 x.en] ++ junk) rfl (by omega) j3 (by simpa [LeafX.cs] using j4) h5.swap
  rw [List.nil_append] at h6
  have h7 : Sat w' ((row d 371 [.int .i64 x.st, .int .i64 x.en, .string fence, .string ⟨#[]⟩, x.ts.v] * arr 9 1 x.ts.v x.ts.len (strCells txt)) * (row p 96 { x.ps pb n with stack := ⟨some ⟨x.g, 0, none⟩, 1, x.cap⟩ }.cells *
    (arr 122 4 (.slice (some ⟨x.g, 0, none⟩) 1 x.cap) 1 [.iface 99 (.pointer (some ⟨x.r, 0, none⟩)), inn'.v, .int .i64 0, .int .i64 0] * (arr 70 1 inn'.v inn'.len [.iface 262 (.pointer (some ⟨d, 0, none⟩))] * F)))) := h6.cast (by ac_rfl)
  have h8 := codeC_mk (fence := fence) (txt := txt) hx2 h7
  generalize CodeC fence txt [.iface 262 (.pointer (some ⟨d, 0, none⟩))] = H at h8
  exact h8.cast (by ac_rfl)

/-- Closing the block alone. -/
theorem trimLeaf1 (T : TypeId) (B : Nat → SV → HP) (fence : ByteArray) (pb n p : Nat) (txt : List (List UInt8)) (F : HP) (w : World)
    (hb : ∀ (x : LeafX), Bld p x.g x.cap T 262 ⟨x.q, 0, none⟩ x.st x.en (B x.q x.ts * arr 9 1 x.ts.v x.ts.len (strCells txt)) (fun d => row d 371 [.int .i64 x.st, .int .i64 x.en, .string fence, .string ⟨#[]⟩, x.ts.v] * arr 9 1 x.ts.v x.ts.len (strCells txt)))
    (hs : Sat w (LeafHas T B pb n txt p * F)) :
    Calls Tryz.prog 56 #[.pointer (some ⟨p, 0, none⟩), .int .i64 1] w fun e w' => e = .returned (.tuple #[]) ∧ Sat w' (RootHas pb n (CodeC fence txt) p * F) := by
  refine (trimStack_w p 1 2 (by decide) (by decide) (fun k => if k = 2 then LeafHas T B pb n txt p else RootHas pb n (CodeC fence txt) p) F ?_ ?_ w hs).mono ?_
  · intro k w h0 h1 h
    have : k = 1 ∨ k = 2 := by omega
    rcases this with rfl | rfl
    · exact rootHas_len h
    · obtain ⟨x, _, h⟩ := leafHas_iff.1 h
      exact ⟨_, _, (PSt.facts h).2.2.2.2.1⟩
  · intro k w h0 h1 h
    obtain rfl : k = 1 := by omega
    exact closeLeafHas T B fence pb n p txt F w hb h
  · rintro e w' ⟨rfl, h⟩
    exact ⟨rfl, h⟩

def fenceB (FB : ByteArray) (q : Nat) (ts : SV) : HP := row q 254 (fenceCells FB ⟨#[]⟩ 0 ts)

set_option maxRecDepth 100000 in
set_option maxHeartbeats 1000000 in
theorem fenceBuild_w (p q g cap : Nat) (st en : Int) (FB : ByteArray) (ts : SV) (F : HP) (x : PSt) (w : World) (cs : List Value) (hx : x.stack = ⟨some ⟨g, 0, none⟩, 2, cap⟩) (h6 : cs[6]? = some (.int .i64 st)) (h7 : cs[7]? = some (.int .i64 en))
    (hs : Sat w (row p 96 x.cells * (row g 122 cs * (row q 254 (fenceCells FB ⟨#[]⟩ 0 ts) * F)))) :
    Calls Tryz.prog 333 #[.pointer (some ⟨q, 0, none⟩), .iface 117 (.pointer (some ⟨p, 0, none⟩))] w fun e w' =>
      ∃ d, e = .returned (.iface 262 (.pointer (some ⟨d, 0, none⟩))) ∧ Sat w' (row p 96 x.cells * (row g 122 cs * (row d 371 [.int .i64 st, .int .i64 en, .string FB, .string ⟨#[]⟩, ts.v] * F))) := by
  have m1 := fun w => meth_parseState_pos ⟨p, 0, none⟩ w
  have n1 := fun w => ahead_parseState_pos ⟨p, 0, none⟩ w
  have hp : w.cell? ⟨p, 4, none⟩ = some (.slice (some ⟨g, 0, none⟩) (1 + 1) cap) := by have := hs.cell 4 rfl; rw [hx] at this; exact this
  have hlp := hs.row_lt
  have hlg := hs.swap.row_lt
  have h2 : w.cell? ⟨g, 1 * 4 + 2, none⟩ = some (.int .i64 st) := hs.swap.cell 6 h6
  have h3 : w.cell? ⟨g, 1 * 4 + 3, none⟩ = some (.int .i64 en) := hs.swap.cell 7 h7
  have q0 : w.cell? ⟨q, 0, none⟩ = some (.string FB) := hs.third.cell 0 rfl
  have q1 : w.cell? ⟨q, 1, none⟩ = some (.string ⟨#[]⟩) := hs.third.cell 1 rfl
  have q3 : w.cell? ⟨q, 3, none⟩ = some (.slice ts.a ts.len ts.cap) := hs.third.cell 3 rfl
  have xq0 := fun x : Qt.Ext w => x.cell q0
  have xq1 := fun x : Qt.Ext w => x.cell q1
  have xq3 := fun x : Qt.Ext w => x.cell q3
  go_enter Tryz.func333, Tryz.ntmps333
  go_wp2
  refine Qt.wp_region (fun w' => ∃ x : Qt.Ext w, w' = x.w) 15 (by kernel_rfl) (by kernel_rfl) (Qt.Ext.start w) ?_
  simp only [List.take_succ_cons, List.take_zero, List.drop_succ_cons, List.drop_zero]
  repeat (quiet_step (first
    | (rename_i x; go_at_call 254; exact x.call (pos_w p g 1 cap st en _ (by decide) (x.lt hlp) (x.lt hlg) (x.cell hp) (x.cell h2) (x.cell h3)))))
  refine wpQuiet_nil ?_
  rintro _ ⟨y, rfl⟩
  have hy : Sat y.w _ := hs.ext y.below
  have HY := Lib.hid hy
  clear hy hs
  go_wp2
  go_ret
  refine ⟨_, rfl, ?_⟩
  have h5 := HY.out.new (d := y.w.heap.size) [.int .i64 st, .int .i64 en, .string FB, .string ⟨#[]⟩, ts.v] 371 rfl
  exact (h5.cast (show _ = row q 254 (fenceCells FB ⟨#[]⟩ 0 ts) * (row p 96 x.cells * (row g 122 cs * (row y.w.heap.size 371 [.int .i64 st, .int .i64 en, .string FB, .string ⟨#[]⟩, ts.v] * F))) from by ac_rfl)).drop1

theorem bld_fence (p q g cap : Nat) (st en : Int) (FB : ByteArray) (ts : SV) (txt : List Value) : Bld p g cap 252 262 ⟨q, 0, none⟩ st en (fenceB FB q ts * arr 9 1 ts.v ts.len txt)
    (fun d => row d 371 [.int .i64 st, .int .i64 en, .string FB, .string ⟨#[]⟩, ts.v] * arr 9 1 ts.v ts.len txt) :=
  ⟨333, fun w => meth_fenceBuilder_build ⟨q, 0, none⟩ w, fun w => ahead_fenceBuilder_build ⟨q, 0, none⟩ w, enters_of Tryz.func333 (by kernel_rfl) rfl, fun x w F cs hx h6 h7 hs => by
    refine (fenceBuild_w p q g cap st en FB ts (arr 9 1 ts.v ts.len txt * F) x w cs hx h6 h7 (hs.cast (by unfold fenceB; ac_rfl))).mono ?_
    rintro e w' ⟨d, rfl, h⟩
    exact ⟨d, rfl, h.cast (by ac_rfl)⟩⟩

end Go.Proofs.YtmdabdpghcjplaaGreatDoor

/- A text that is a fenced block of code: its lines. -/
namespace Go.Proofs.YtmdabdpghcjplaaGreatDoor
open Go.RowKit Sl

theorem Tildes.indent {l : Ln} {k : Nat} (h : Tildes l k) : l.indent = l := by
  unfold Ln.indent Ln.trimSpace Ln.trimGo Ln.step
  rw [if_neg (by rw [h.sp]; decide), h.ch]
  rfl

theorem Tildes.noTrim {l : Ln} {k : Nat} (h : Tildes l k) {d : UInt8} (hd : (126 : UInt8) ≠ d) : l.trim d = none :=
  Ln.trim_none h.sp (by rw [h.ch]; simpa using hd)

theorem Tildes.quote {l : Ln} {k : Nat} (h : Tildes l k) : l.quote = none := by
  unfold Ln.quote
  rw [h.indent, h.noTrim (by decide)]; rfl
theorem Tildes.heading {l : Ln} {k : Nat} (h : Tildes l k) : l.heading = none := by
  unfold Ln.heading
  rw [h.indent, h.noTrim (by decide)]
theorem Tildes.hr {l : Ln} {k : Nat} (h : Tildes l k) : l.hr = false := by
  unfold Ln.hr
  rw [h.indent, h.peek]; rfl
theorem Tildes.blank {l : Ln} {k : Nat} (h : Tildes l k) : l.blank = false := by
  unfold Ln.blank
  rw [h.rest]
  have := h.pos
  cases k with
  | zero => omega
  | succ k => rfl

theorem lineOf_tildes (k : Nat) (nl : UInt8) (hk : 0 < k) : Tildes (LineOf (List.replicate k 126, nl)) k := ⟨rfl, lineOf_rest _ _, hk⟩

theorem peek_mem {x : Ln} {c : UInt8} (h : x.peek = c) (h1 : c ≠ 32) (h2 : c ≠ 0) : c ∈ x.text.data.toList := by
  unfold Ln.peek at h
  split at h
  · exact absurd h.symm h1
  · cases hc : x.ch with
    | none => rw [hc] at h; exact absurd h.symm h2
    | some d =>
      rw [hc] at h
      have : d = c := h
      subst this
      unfold Ln.ch at hc
      exact List.mem_of_getElem? hc

theorem body_peek {t : List UInt8} {nl : UInt8} (h : (126 : UInt8) ∉ t) (hz : t.length ≤ 1000000000000) : (Ln.item 3 (LineOf (t, nl))).peek ≠ 126 := by
  intro e
  have h1 := peek_mem e (by decide) (by decide)
  rw [(Ln.item_ok (lineOf_ok t nl hz)).2.1] at h1
  exact h (by simpa [LineOf, B.bs_data] using h1)

theorem lineOf_str (s : List UInt8) (nl : UInt8) : (LineOf (s, nl)).str = s := by
  unfold Ln.str
  rw [lineOf_rest]; rfl

/-- The lines of a fenced block of code. -/
structure FenceText (L : List (List UInt8 × UInt8)) (k k' : Nat) (body : List (List UInt8)) : Prop where
  eq : L = (List.replicate k 126, 10) :: ((body.map fun t => (t, 10)) ++ [(List.replicate k' 126, 10)])
  k3 : 3 ≤ k
  kk : k ≤ k'
  k2 : k' ≤ 1000000
  all : ∀ t ∈ body, (126 : UInt8) ∉ t ∧ t.length ≤ 1000000
  len : body.length ≤ 1000000

theorem Not.frame {p k : Nat} {S G : HP} {l : Ln} (h : Not p S k l) : Not p (S * G) k l := fun w F hs =>
  (h w (G * F) (hs.cast (star_assoc _ _ _))).mono fun _ _ ⟨h1, h2⟩ => ⟨h1, h2.cast (star_assoc _ _ _).symm⟩

/-- In such a state the package's table of names is there. -/
def Tabled (G0 : HP) : Prop := ∀ w F, Sat w (G0 * F) → Ents w

theorem does_fence {pb p k : Nat} {l : Ln} {G0 : HP} (hG : Tabled G0) (hl : l.OK) (hsz : l.text.size ≤ 1000000) (ht : Tildes l k) (hk : 3 ≤ k) :
    Does p (Fresh pb 1 p * G0) (LeafHas 252 (fenceB (B.bs (List.replicate k 126))) pb 1 [] p * G0) 6 l Ln.zero := by
  intro w F hs
  obtain ⟨x, ⟨hx1, hx2, hx3⟩, hs2⟩ := fresh_iff.1 (hs.cast (star_assoc _ _ _))
  refine (newFence_does p x.g x.cap k 99 (.pointer (some ⟨x.r, 0, none⟩)) (.int .i64 0) (.int .i64 0) x.inn l (x.st pb 1) _ w rfl hx3 hl hsz ht hk (fun w' h => hG _ _ h.drop1) hs2).mono ?_
  rintro e w' ⟨rfl, q, g2, cap2, h5⟩
  refine ⟨rfl, ?_⟩
  refine Sat.cast ?_ (star_assoc _ _ _).symm
  refine leafHas_iff.2 ⟨⟨x.r, g2, cap2, x.dep, x.corner, x.inn, q, ⟨none, 0, 0⟩, 1, 1⟩, ⟨hx2, rfl⟩, ?_⟩
  rw [hx1] at h5
  have h6 : Sat w' (row p 96 ((⟨x.r, g2, cap2, x.dep, x.corner, x.inn, q, ⟨none, 0, 0⟩, 1, 1⟩ : LeafX).ps pb 1).cells * (arr 122 4 (.slice (some ⟨g2, 0, none⟩) 2 cap2) 2 ((⟨x.r, g2, cap2, x.dep, x.corner, x.inn, q, ⟨none, 0, 0⟩, 1, 1⟩ : LeafX).cs 252) *
    (fenceB (B.bs (List.replicate k 126)) q ⟨none, 0, 0⟩ * (arr 70 1 x.inn.v x.inn.len [] * (G0 * F))))) := h5
  rw [show arr 9 1 (⟨none, 0, 0⟩ : SV).v 0 (strCells []) = emp from arr_nil _ _, emp_star]
  exact h6.cast (by ac_rfl)

def fenceR' (FB : ByteArray) (q n : Nat) (txt : List (List UInt8)) : HP := Sl.ex fun ts : SV => Sl.pur (ts.len = n) * (fenceB FB q ts * arr 9 1 ts.v ts.len (strCells txt))

theorem ext_fence (p q k : Nat) (l : Ln) (ts : SV) (txt : List (List UInt8)) (G0 : HP) (hG : Tabled G0) (hl : l.OK) (hsz : l.text.size ≤ 1000000) (hc : (Ln.item 3 l).peek ≠ 126) (hk : 3 ≤ k) (hk2 : k ≤ 1000000) (hn : ts.len ≤ 1000000000) :
    Ext p 252 ⟨q, 0, none⟩ ((fenceB (B.bs (List.replicate k 126)) q ts * arr 9 1 ts.v ts.len (strCells txt)) * G0) (fenceR' (B.bs (List.replicate k 126)) q (ts.len + 1) (txt ++ [l.str]) * G0) l :=
  ⟨334, fun w => meth_fenceBuilder_extend ⟨q, 0, none⟩ w, fun w => ahead_fenceBuilder_extend ⟨q, 0, none⟩ w, enters_of Tryz.func334 (by kernel_rfl) rfl, fun x w F hs => by
    refine (fenceExtend_w p q k l x ts (strCells txt) (G0 * F) w hl hsz hc hk hk2 hn (fun w' h => hG _ _ h) (hs.cast (by unfold fenceB; ac_rfl))).mono ?_
    rintro e w' ⟨rfl, ts', c, ht, h5⟩
    refine ⟨rfl, c, ?_⟩
    have h6 : Sat w' ((fenceB (B.bs (List.replicate k 126)) q ts' * arr 9 1 ts'.v ts'.len (strCells (txt ++ [l.str]))) * (G0 * (row p 96 { x with corner := c }.cells * F))) := h5.cast (by unfold fenceB strCells; rw [List.map_append]; ac_rfl)
    have h7 : Sat w' (fenceR' (B.bs (List.replicate k 126)) q (ts.len + 1) (txt ++ [l.str]) * (G0 * (row p 96 { x with corner := c }.cells * F))) := by
      refine Sat.ex_mk ts' ?_
      rw [star_assoc, pur_star ht]
      exact h6
    generalize fenceR' (B.bs (List.replicate k 126)) q (ts.len + 1) (txt ++ [l.str]) = R2 at h7 ⊢
    exact h7.cast (by ac_rfl)⟩

theorem extStop_fence (p q k k' : Nat) (l : Ln) (ts : SV) (txt : List (List UInt8)) (G0 : HP) (hG : Tabled G0) (hl : l.OK) (hsz : l.text.size ≤ 1000000) (ht : Tildes l k') (hk : 3 ≤ k) (hkk : k ≤ k') (hk2 : k' ≤ 1000000) :
    ExtStop p 252 ⟨q, 0, none⟩ ((fenceB (B.bs (List.replicate k 126)) q ts * arr 9 1 ts.v ts.len (strCells txt)) * G0) l :=
  ⟨334, fun w => meth_fenceBuilder_extend ⟨q, 0, none⟩ w, fun w => ahead_fenceBuilder_extend ⟨q, 0, none⟩ w, enters_of Tryz.func334 (by kernel_rfl) rfl, fun x w F hs => by
    refine (fenceClose_w p q k k' l x ts (arr 9 1 ts.v ts.len (strCells txt) * (G0 * F)) w hl hsz ht hk hkk hk2 (fun w' h => hG _ _ h.drop1) (hs.cast (by unfold fenceB; ac_rfl))).mono ?_
    rintro e w' ⟨rfl, h5⟩
    exact ⟨rfl, h5.cast (by unfold fenceB; ac_rfl)⟩⟩

end Go.Proofs.YtmdabdpghcjplaaGreatDoor

/- A text that is a fenced block of code: parsed and printed. -/
namespace Go.Proofs.YtmdabdpghcjplaaGreatDoor
open Go.RowKit Sl

noncomputable def FenceK (pb k n : Nat) (body : List (List UInt8)) (G0 : HP) (p : Nat) (done : List (List UInt8 × UInt8)) : HP :=
  if done = [] then RootHas pb 0 nilC p * G0
  else if done.length = n then RootHas pb n (CodeC (B.bs (List.replicate k 126)) body) p * G0
  else LeafHas 252 (fenceB (B.bs (List.replicate k 126))) pb done.length (done.tail.map (·.1)) p * G0

set_option maxHeartbeats 1000000 in
theorem fence_lines (pb k k' : Nat) (text : List UInt8) (body : List (List UInt8)) (G0 : HP) (hG : Tabled G0) (h : FenceText (B.lines text) k k' body) : LinesG G0 (FenceK pb k (B.lines text).length body G0) pb text where
  first := by
    intro p r g cap w F h
    show Sat w (RootHas pb 0 nilC p * G0 * F)
    exact (rootHas_first pb p r g cap w _ h).cast (star_assoc _ _ _).symm
  next := by
    intro p done l rest w F hl hs
    have hk2 : k ≤ 1000000 := Nat.le_trans h.kk h.k2
    have hk3 := h.k3
    have hkk := h.kk
    have hk'2 := h.k2
    by_cases hd : done = []
    · subst hd
      have hl2 := hl
      rw [h.eq, List.nil_append] at hl2
      obtain ⟨rfl, h2⟩ := List.cons.inj hl2
      clear hl2
      have hs1 : Sat w (RootHas pb 0 nilC p * (G0 * F)) := Sat.cast (show Sat w (RootHas pb 0 nilC p * G0 * F) from hs) (star_assoc _ _ _)
      obtain ⟨x, hx, h0⟩ := rootHas_iff.1 hs1
      obtain ⟨hi, h2⟩ := nilC_iff.1 (h0.cast (show _ = nilC x.items * (row p 96 (x.st pb 0).cells * (arr 122 4 (.slice (some ⟨x.g, 0, none⟩) 1 x.cap) 1 [.iface 99 (.pointer (some ⟨x.r, 0, none⟩)), x.inn.v, .int .i64 0, .int .i64 0] * (arr 70 1 x.inn.v x.inn.len x.items * (G0 * F)))) from by ac_rfl))
      refine ⟨x.st pb 0, arr 122 4 (.slice (some ⟨x.g, 0, none⟩) 1 x.cap) 1 [.iface 99 (.pointer (some ⟨x.r, 0, none⟩)), x.inn.v, .int .i64 0, .int .i64 0] * (arr 70 1 x.inn.v x.inn.len x.items * G0), rfl, h2.cast (by ac_rfl), fun w' hs' => ?_⟩
      have ht := lineOf_tildes k 10 (by omega)
      have hok : (LineOf (List.replicate k 126, 10)).OK := lineOf_ok _ _ (by simp; omega)
      have hsz : (LineOf (List.replicate k 126, 10)).text.size ≤ 1000000 := by show (B.bs _).size ≤ _; rw [B.bs_size]; simpa using hk2
      have hs3 : Sat w' (row p 96 (x.st pb 1).cells * (arr 122 4 (.slice (some ⟨x.g, 0, none⟩) 1 x.cap) 1 [.iface 99 (.pointer (some ⟨x.r, 0, none⟩)), x.inn.v, .int .i64 0, .int .i64 0] * (arr 70 1 x.inn.v x.inn.len x.items * (G0 * F)))) := by
        have h5 : Sat w' (row p 96 (x.st pb 1).cells * (arr 122 4 (.slice (some ⟨x.g, 0, none⟩) 1 x.cap) 1 [.iface 99 (.pointer (some ⟨x.r, 0, none⟩)), x.inn.v, .int .i64 0, .int .i64 0] * (arr 70 1 x.inn.v x.inn.len x.items * G0) * F)) := hs'
        exact h5.cast (by ac_rfl)
      refine (addLine_stop p (LineOf (List.replicate k 126, 10)) Ln.zero (x.st pb 1) _ F w' (Fresh pb 1 p * G0) (LeafHas 252 (fenceB (B.bs (List.replicate k 126))) pb 1 [] p * G0) 6 hok rfl ht.blank (by decide) ?_ (does_fence hG hok hsz ht h.k3) zero_ok zero_blank ?_ hs3).mono ?_
      · intro j hj
        have : j = 0 ∨ j = 1 ∨ j = 2 ∨ j = 3 ∨ j = 4 ∨ j = 5 := by omega
        rcases this with rfl | rfl | rfl | rfl | rfl | rfl
        · exact not_quote hok ht.quote
        · exact not_atx hok ht.heading
        · exact Not.frame not_setext
        · exact not_hr hok ht.hr
        · exact Not.frame (not_item hok (by rw [ht.item, ht.peek]; exact ⟨by decide, by decide, by decide, .inr (by decide)⟩))
        · exact not_html hok (by rw [ht.indent, ht.peek]; decide)
      · intro w2 h5
        exact (fresh_of hi hx.1 h5).cast (star_assoc _ _ _).symm
      · rintro e w2 ⟨rfl, h5⟩
        refine ⟨rfl, ?_⟩
        show Sat w2 (FenceK pb k (B.lines text).length body G0 p ([] ++ [(List.replicate k 126, 10)]) * F)
        unfold FenceK
        rw [if_neg (by simp), if_neg (by rw [h.eq]; simp)]
        exact h5
    · obtain ⟨d0, done', rfl⟩ : ∃ a b, done = a :: b := by
        cases done with
        | nil => exact absurd rfl hd
        | cons a b => exact ⟨a, b, rfl⟩
      have hl2 := hl
      rw [h.eq, List.cons_append] at hl2
      obtain ⟨hd0, h2⟩ := List.cons.inj hl2
      clear hl2
      have hLn : (B.lines text).length = body.length + 2 := by rw [h.eq]; simp
      have hdl : (d0 :: done').length + 1 + rest.length = (B.lines text).length := by rw [hl]; simp; omega
      have hk : FenceK pb k (B.lines text).length body G0 p (d0 :: done') = LeafHas 252 (fenceB (B.bs (List.replicate k 126))) pb (d0 :: done').length (done'.map (·.1)) p * G0 := by
        unfold FenceK
        rw [if_neg hd, if_neg (by omega)]; rfl
      rw [hk] at hs
      have hbl := h.len
      obtain ⟨x, ⟨hx1, hx2⟩, h0⟩ := leafHas_iff.1 (hs.cast (star_assoc _ _ _))
      generalize hn : (d0 :: done').length = n at *
      refine ⟨x.ps pb n, arr 122 4 (.slice (some ⟨x.g, 0, none⟩) 2 x.cap) 2 (x.cs 252) * (arr 70 1 x.inn.v x.inn.len [] * (fenceB (B.bs (List.replicate k 126)) x.q x.ts * (arr 9 1 x.ts.v x.ts.len (strCells (done'.map (·.1))) * G0))), rfl, h0.cast (by ac_rfl), fun w' hs' => ?_⟩
      have hs3 : Sat w' (row p 96 (x.ps pb (n + 1)).cells * (arr 122 4 (.slice (some ⟨x.g, 0, none⟩) 2 x.cap) 2 (x.cs 252) * (((fenceB (B.bs (List.replicate k 126)) x.q x.ts * arr 9 1 x.ts.v x.ts.len (strCells (done'.map (·.1)))) * G0) * (arr 70 1 x.inn.v x.inn.len [] * F)))) := by
        have h5 : Sat w' (row p 96 (x.ps pb (n + 1)).cells * (arr 122 4 (.slice (some ⟨x.g, 0, none⟩) 2 x.cap) 2 (x.cs 252) * (arr 70 1 x.inn.v x.inn.len [] * (fenceB (B.bs (List.replicate k 126)) x.q x.ts * (arr 9 1 x.ts.v x.ts.len (strCells (done'.map (·.1))) * G0))) * F)) := hs'
        exact h5.cast (by ac_rfl)
      have hdone : done'.length + 1 = n := by simpa using hn
      by_cases hr : rest = []
      · subst hr
        have h3 : (body.map fun t => (t, (10 : UInt8))) = done' ∧ [(List.replicate k' 126, (10 : UInt8))] = [l] := List.append_inj h2 (by simp at hdl; simp; omega)
        obtain ⟨h4, h5⟩ := h3
        obtain rfl : (List.replicate k' 126, (10 : UInt8)) = l := by simpa using h5
        have hbody : done'.map (·.1) = body := by rw [← h4, List.map_map]; simp [Function.comp_def]
        rw [hbody] at hs3 hx2
        have ht := lineOf_tildes k' 10 (by omega)
        have hok : (LineOf (List.replicate k' 126, 10)).OK := lineOf_ok _ _ (by simp; omega)
        have hsz : (LineOf (List.replicate k' 126, 10)).text.size ≤ 1000000 := by show (B.bs _).size ≤ _; rw [B.bs_size]; simpa using h.k2
        refine (addLine_close p x.g x.cap (LineOf (List.replicate k' 126, 10)) (x.ps pb (n + 1)) 252 ⟨x.q, 0, none⟩ _ _ _ _ _ x.st x.en _ _ (RootHas pb (n + 1) (CodeC (B.bs (List.replicate k 126)) body) p * G0 * F) w' hok ht.blank rfl (extStop_fence p x.q k k' _ x.ts body G0 hG hok hsz ht h.k3 h.kk h.k2) ?_ hs3).mono ?_
        · intro en' w1 F1 h6
          have h7 : Sat w1 (LeafHas 252 (fenceB (B.bs (List.replicate k 126))) pb (n + 1) body p * (G0 * (F * F1))) := by
            refine leafHas_iff.2 ⟨⟨x.r, x.g, x.cap, 0, x.corner, x.inn, x.q, x.ts, x.st, en'⟩, ⟨hx1, by rw [hx2]⟩, ?_⟩
            have h8 : Sat w1 (row p 96 ((⟨x.r, x.g, x.cap, 0, x.corner, x.inn, x.q, x.ts, x.st, en'⟩ : LeafX).ps pb (n + 1)).cells * (arr 122 4 (.slice (some ⟨x.g, 0, none⟩) 2 x.cap) 2 ((⟨x.r, x.g, x.cap, 0, x.corner, x.inn, x.q, x.ts, x.st, en'⟩ : LeafX).cs 252) *
              (((fenceB (B.bs (List.replicate k 126)) x.q x.ts * arr 9 1 x.ts.v x.ts.len (strCells body)) * G0) * (arr 70 1 x.inn.v x.inn.len [] * F))) * F1) := h6
            exact h8.cast (by ac_rfl)
          refine (trimLeaf1 252 (fenceB (B.bs (List.replicate k 126))) (B.bs (List.replicate k 126)) pb (n + 1) p body _ w1 (fun y => bld_fence p y.q y.g y.cap y.st y.en _ y.ts (strCells body)) h7).mono ?_
          rintro e w2 ⟨rfl, h9⟩
          exact ⟨rfl, h9.cast (by ac_rfl)⟩
        · rintro e w2 ⟨rfl, h6⟩
          refine ⟨rfl, ?_⟩
          have hk2 : FenceK pb k (B.lines text).length body G0 p (d0 :: done' ++ [(List.replicate k' 126, 10)]) = RootHas pb (n + 1) (CodeC (B.bs (List.replicate k 126)) body) p * G0 := by
            have e1 : (d0 :: done' ++ [(List.replicate k' (126 : UInt8), (10 : UInt8))]).length = n + 1 := by rw [List.length_append, hn]; rfl
            have e2 : (B.lines text).length = n + 1 := hdl.symm
            unfold FenceK
            rw [if_neg (by simp), if_pos (by rw [e1, e2]), e2]
          rw [hk2]
          exact h6
      · obtain ⟨t, rfl, ht⟩ : ∃ t, l = (t, 10) ∧ t ∈ body := by
          have hmem : l ∈ body.map fun t => (t, (10 : UInt8)) := by
            have h3 : (body.map fun t => (t, (10 : UInt8)))[done'.length]? = some l := by
              have h4 := congrArg (fun z => z[done'.length]?) h2
              have h6 : 0 < rest.length := List.length_pos_iff.2 hr
              have h7 : done'.length < (body.map fun t => (t, (10 : UInt8))).length := by rw [List.length_map]; omega
              rw [List.getElem?_append_left h7] at h4
              rw [h4]; simp
            exact List.mem_of_getElem? h3
          obtain ⟨t, h3, h4⟩ := List.mem_map.1 hmem
          exact ⟨t, h4.symm, h3⟩
        obtain ⟨ht1, ht2⟩ := h.all t ht
        have hok : (LineOf (t, 10)).OK := lineOf_ok _ _ (by omega)
        have hsz : (LineOf (t, 10)).text.size ≤ 1000000 := by show (B.bs _).size ≤ _; rw [B.bs_size]; exact ht2
        have hrl : 0 < rest.length := List.length_pos_iff.2 hr
        refine (addLine_leaf p x.g x.cap (LineOf (t, 10)) (x.ps pb (n + 1)) 252 ⟨x.q, 0, none⟩ _ _ _ _ _ x.st x.en _ _ _ w' hok rfl (ext_fence p x.q k _ x.ts (done'.map (·.1)) G0 hG hok hsz (body_peek ht1 (by omega)) h.k3 hk2 (by rw [hx2, List.length_map]; omega)) hs3).mono ?_
        rintro e w2 ⟨rfl, c, en', h6⟩
        refine ⟨rfl, ?_⟩
        have hk2 : FenceK pb k (B.lines text).length body G0 p (d0 :: done' ++ [(t, 10)]) = LeafHas 252 (fenceB (B.bs (List.replicate k 126))) pb (n + 1) (done'.map (·.1) ++ [t]) p * G0 := by
          have e1 : (d0 :: done' ++ [(t, (10 : UInt8))]).length = n + 1 := by rw [List.length_append, hn]; rfl
          unfold FenceK
          rw [if_neg (by simp), if_neg (by omega), e1]
          simp
        rw [hk2]
        rw [lineOf_str] at h6
        have h7 : Sat w2 (fenceR' (B.bs (List.replicate k 126)) x.q (x.ts.len + 1) (done'.map (·.1) ++ [t]) * (G0 * (row p 96 { x.ps pb (n + 1) with depth := 1, corner := c }.cells * (arr 122 4 (.slice (some ⟨x.g, 0, none⟩) 2 x.cap) 2 [.iface 99 (.pointer (some ⟨x.r, 0, none⟩)), x.inn.v, .int .i64 0, .int .i64 0, .iface 252 (.pointer (some ⟨x.q, 0, none⟩)), .slice none 0 0, .int .i64 x.st, .int .i64 en'] *
          (arr 70 1 x.inn.v x.inn.len [] * F))))) := h6.cast (by
            generalize fenceR' (B.bs (List.replicate k 126)) x.q (x.ts.len + 1) (done'.map (·.1) ++ [t]) = R2
            ac_rfl)
        obtain ⟨ts', h8⟩ := h7.ex
        rw [star_assoc] at h8
        obtain ⟨ht', h9⟩ := h8.pur
        refine Sat.cast ?_ (star_assoc _ _ _).symm
        refine leafHas_iff.2 ⟨⟨x.r, x.g, x.cap, 1, c, x.inn, x.q, ts', x.st, en'⟩, ⟨hx1, ?_⟩, ?_⟩
        · show ts'.len = _
          rw [ht', hx2]; simp
        · have h10 : Sat w2 ((fenceB (B.bs (List.replicate k 126)) x.q ts' * arr 9 1 ts'.v ts'.len (strCells (done'.map (·.1) ++ [t]))) * (G0 * (row p 96 ((⟨x.r, x.g, x.cap, 1, c, x.inn, x.q, ts', x.st, en'⟩ : LeafX).ps pb (n + 1)).cells * (arr 122 4 (.slice (some ⟨x.g, 0, none⟩) 2 x.cap) 2 ((⟨x.r, x.g, x.cap, 1, c, x.inn, x.q, ts', x.st, en'⟩ : LeafX).cs 252) *
            (arr 70 1 x.inn.v x.inn.len [] * F))))) := h9
          exact h10.cast (by ac_rfl)

theorem fence_prints (text : List UInt8) (k k' : Nat) (body : List (List UInt8)) (G0 : HP) (hG : Tabled G0) (h : FenceText (B.lines text) k k' body) (hz : text.length ≤ 1000000000) (hnul : (0 : UInt8) ∉ text) (hl : (codeHTML body).length ≤ 1000000000000) :
    PrintsG G0 (B.bs text) (B.bs (codeHTML body)) where
  size := by rw [B.bs_size]; exact hz
  nul := by rw [B.bs_data]; exact B.no_nul hnul
  run := by
    intro pb
    rw [B.bs_data]
    have hn : body.length ≤ 1000000 := h.len
    have hsz : ∀ s ∈ body, s.length ≤ 1000000000 := fun s hs => by have := (h.all s hs).2; omega
    have hf : codeOk (B.bs (List.replicate k 126)) body := by
      refine .inl ?_
      rw [Lib.toList_data, B.bs_data]
      have := h.k3
      cases k with
      | zero => omega
      | succ k => rfl
    refine ⟨FenceK pb k (B.lines text).length body G0, fun p tx i => DocHas pb (B.lines text).length (CodeC (B.bs (List.replicate k 126)) body) p tx i * G0, fence_lines pb k k' text body G0 hG h, ?_, ?_⟩
    · constructor
      · intro p w F hs
        have hk : FenceK pb k (B.lines text).length body G0 p (B.lines text) = RootHas pb (B.lines text).length (CodeC (B.bs (List.replicate k 126)) body) p * G0 := by
          unfold FenceK
          rw [if_neg (by rw [h.eq]; simp), if_pos rfl]
        rw [hk] at hs
        refine (trimRoot pb _ p _ (G0 * F) w (hs.cast (star_assoc _ _ _))).mono ?_
        rintro e w' ⟨rfl, h5⟩
        exact ⟨rfl, ⟨none, 0, 0⟩, by decide, h5.cast (star_assoc _ _ _).symm⟩
      · intro p tx i w F h5
        obtain ⟨x, ⟨rfl, _⟩, h2⟩ := docHas_iff.1 (h5.cast (star_assoc _ _ _))
        refine ⟨x.st pb (B.lines text).length, row x.d 341 [.int .i64 0, .int .i64 0, x.inn.v, .map none] * (arr 70 1 x.inn.v x.inn.len x.items * (CodeC (B.bs (List.replicate k 126)) body x.items * G0)), rfl, ?_⟩
        generalize CodeC (B.bs (List.replicate k 126)) body x.items = H at h2 ⊢
        exact h2.cast (by ac_rfl)
      · intro p tx i w F h5 hi
        obtain ⟨x, ⟨rfl, _⟩, h2⟩ := docHas_iff.1 (h5.cast (star_assoc _ _ _))
        simp at hi
    · intro p tx root w G hs hr
      refine (code_html (B.bs (List.replicate k 126)) body pb _ p tx tx.len root w (G0 * G) hn hsz hf hl (hs.cast (star_assoc _ _ _)) hr).mono ?_
      rintro e w' ⟨rfl, h5⟩
      exact ⟨rfl, h5⟩

end Go.Proofs.YtmdabdpghcjplaaGreatDoor
