/- A flat document: its closed blocks, perhaps an open one; what is printed of it. -/
import Derived.Test.YtbfmmikllelfeaaGreatDoorGa
import Derived.Test.YtbfmmikllelfeaaGreatDoorH0
import Derived.Test.YtbfmmikllelfeaaGreatDoorI9
namespace Go.Proofs.YtbfmmikllelfeaaGreatDoor
open Go.RowKit Sl

/-- A closed block of a flat document. -/
inductive Blk
  | para (st en : Int) (raw : List UInt8) (toks : List Tok)
  | html (st en : Int) (ls : List (List UInt8))

def Blk.out : Blk → List UInt8
  | .para _ _ _ toks => paraHTML (htmls toks)
  | .html _ _ ls => ls.flatMap fun s => s ++ [10]

def strVals (ls : List (List UInt8)) : List Value := ls.map fun s => .string (B.bs s)

/-- A closed block, and where it lies. -/
structure CB where
  b : Blk
  d : Nat
  tb : Nat
  sv : SV

def CB.v (c : CB) : Value := match c.b with
  | .para .. => .iface 145 (.pointer (some ⟨c.d, 0, none⟩))
  | .html .. => .iface 151 (.pointer (some ⟨c.d, 0, none⟩))
def CB.txs (c : CB) : List TX := match c.b with
  | .para st en raw toks => [⟨c.tb, st, en, raw, toks⟩]
  | .html .. => []
def CB.own (c : CB) : HP := match c.b with
  | .para st en _ _ => row c.d 147 [.int .i64 st, .int .i64 en, .pointer (some ⟨c.tb, 0, none⟩)]
  | .html st en ls => row c.d 153 [.int .i64 st, .int .i64 en, c.sv.v] * arr 9 1 c.sv.v c.sv.len (strVals ls)

def cbOwn : List CB → HP
  | [] => emp
  | c :: r => c.own * cbOwn r
def cbTxs (l : List CB) : List TX := l.flatMap CB.txs

theorem cbOwn_append : ∀ (a b : List CB), cbOwn (a ++ b) = cbOwn a * cbOwn b
  | [], b => (emp_star _).symm
  | o :: r, b => by
    show o.own * cbOwn (r ++ b) = o.own * cbOwn r * cbOwn b
    rw [cbOwn_append r b, star_assoc]

theorem cbTxs_append (a b : List CB) : cbTxs (a ++ b) = cbTxs a ++ cbTxs b := by
  unfold cbTxs
  rw [List.flatMap_append]

theorem txsAt_append : ∀ (a b : List TX), TxsAt 0 (a ++ b) = TxsAt 0 a * TxsAt 0 b
  | [], b => (emp_star _).symm
  | o :: r, b => by
    show o.fresh * TxsAt 0 (r ++ b) = o.fresh * TxsAt 0 r * TxsAt 0 b
    rw [txsAt_append r b, star_assoc]

theorem cb_split {l : List CB} {k : Nat} {c : CB} (h : l[k]? = some c) : ∃ G, cbOwn l = c.own * G := by
  obtain ⟨hk, rfl⟩ := List.getElem?_eq_some_iff.1 h
  refine ⟨cbOwn (l.take k) * cbOwn (l.drop (k + 1)), ?_⟩
  have := cbOwn_append (l.take k) (l.drop k)
  rw [List.take_append_drop, List.drop_eq_getElem_cons hk] at this
  rw [this]
  show cbOwn _ * (l[k].own * cbOwn _) = _
  ac_rfl

/-- What is asked of a block: its text is read as these tokens, which print themselves. -/
def Blk.Good (o : Opt) : Blk → Prop
  | .para _ _ raw toks => InlOf o raw toks ∧ toks.length ≤ 1000000000 ∧ ∀ x ∈ toks, x.txt.length ≤ 1000000000 ∧ x.Good
  | .html _ _ ls => ls.length ≤ 1000000000 ∧ ∀ s ∈ ls, s.length ≤ 1000000000

theorem cbTxs_good {o : Opt} {l : List CB} (h : ∀ b ∈ l.map CB.b, b.Good o) : ∀ t ∈ cbTxs l, InlOf o t.raw t.toks := by
  intro t ht
  unfold cbTxs at ht
  obtain ⟨c, hc, ht⟩ := List.mem_flatMap.1 ht
  have hg := h c.b (List.mem_map_of_mem hc)
  obtain ⟨b, d, tb, sv⟩ := c
  cases b with
  | para st en raw toks =>
    obtain rfl := List.mem_singleton.1 ht
    exact hg.1
  | html st en ls => cases ht

/-- What a closed document holds, of whose texts i have been read. -/
def DocC (bs : List Blk) (i : Nat) (items ptrs : List Value) : HP := Sl.ex fun l : List CB => Sl.pur (l.map CB.b = bs ∧ items = l.map CB.v ∧ ptrs = (cbTxs l).map TX.ptr) * (cbOwn l * TxsAt i (cbTxs l))

noncomputable def DocT (pb : Nat) (oc : List Value) (bs : List Blk) (p : Nat) (tx : SV) (i : Nat) : HP := Dcl pb oc (DocC bs i) p tx

theorem docT_iff {w : World} {pb p i : Nat} {oc : List Value} {bs : List Blk} {tx : SV} {F : HP} : Sat w (DocT pb oc bs p tx i * F) ↔ ∃ (y : DC) (l : List CB), y.fit pb tx ∧ l.map CB.b = bs ∧ y.items = l.map CB.v ∧ y.ptrs = (cbTxs l).map TX.ptr ∧
    Sat w (row p 173 y.x.cells * (row y.d 117 [.int .i64 0, .int .i64 0, y.inn.v, .map y.x.links] * (arr 97 1 y.inn.v y.inn.len y.items * (arr 139 1 tx.v tx.len y.ptrs * (row pb 105 oc * (cbOwn l * (TxsAt i (cbTxs l) * F))))))) := by
  constructor
  · intro h
    obtain ⟨y, hf, h1⟩ := dcl_iff.1 h
    have h2 : Sat w (DocC bs i y.items y.ptrs * (row p 173 y.x.cells * (row y.d 117 [.int .i64 0, .int .i64 0, y.inn.v, .map y.x.links] * (arr 97 1 y.inn.v y.inn.len y.items * (arr 139 1 tx.v tx.len y.ptrs * (row pb 105 oc * F)))))) := h1.cast (by
      generalize DocC bs i y.items y.ptrs = Y
      ac_rfl)
    obtain ⟨l, h3⟩ := h2.ex
    obtain ⟨⟨e1, e2, e3⟩, h4⟩ := (h3.cast (star_assoc _ _ _)).pur
    refine ⟨y, l, hf, e1, e2, e3, h4.cast ?_⟩
    ac_rfl
  · rintro ⟨y, l, hf, e1, e2, e3, h⟩
    refine dcl_iff.2 ⟨y, hf, ?_⟩
    have h2 : Sat w (DocC bs i y.items y.ptrs * (row p 173 y.x.cells * (row y.d 117 [.int .i64 0, .int .i64 0, y.inn.v, .map y.x.links] * (arr 97 1 y.inn.v y.inn.len y.items * (arr 139 1 tx.v tx.len y.ptrs * (row pb 105 oc * F)))))) := by
      refine Sat.ex_mk l ?_
      rw [star_assoc, pur_star ⟨e1, e2, e3⟩]
      exact h.cast (by ac_rfl)
    refine h2.cast ?_
    generalize DocC bs i y.items y.ptrs = Y
    ac_rfl

/-- The open block of a flat document. -/
inductive HK
  | blank
  | pre
  | has (e : List UInt8)

inductive Leaf
  | none
  | para (st en : Int) (ls : List (List UInt8))
  | html (st en : Int) (k : HK) (ls : List (List UInt8))

structure LX where
  q : Nat
  sv : SV
  cb : Nat
  fv : Value

def HK.isBlank : HK → Bool
  | .blank => true
  | _ => false

def HK.fits : HK → LX → Prop
  | .blank, x => x.fv = .nilFunc
  | .pre, x => x.fv = .func (.func 245) #[] #[]
  | .has _, x => x.fv = .func (.func 243) #[] #[.pointer (some ⟨x.cb, 0, Option.none⟩)]

def HK.own : HK → LX → HP
  | .has e, x => row x.cb 9 [.string (B.bs e)]
  | _, _ => emp

def Leaf.obs : Leaf → LX → List OB
  | .none, _ => []
  | .para st en _, x => [⟨.iface 258 (.pointer (some ⟨x.q, 0, Option.none⟩)), ⟨Option.none, 0, 0⟩, [], st, en⟩]
  | .html st en _ _, x => [⟨.iface 356 (.pointer (some ⟨x.q, 0, Option.none⟩)), ⟨Option.none, 0, 0⟩, [], st, en⟩]

def Leaf.fits : Leaf → LX → Prop
  | .html _ _ k _, x => k.fits x
  | _, _ => True

def Leaf.own : Leaf → LX → HP
  | .none, _ => emp
  | .para _ _ ls, x => row x.q 262 [x.sv.v, .pointer Option.none] * arr 9 1 x.sv.v x.sv.len (strVals ls)
  | .html _ _ k ls, x => row x.q 358 [.bool k.isBlank, x.sv.v, x.fv] * (arr 9 1 x.sv.v x.sv.len (strVals ls) * k.own x)

/-- Behind n lines: the closed blocks, the open one. -/
structure DS where
  n : Int
  bs : List Blk
  leaf : Leaf

structure DX where
  r : Nat
  inn : SV
  dep : Int
  l : List CB
  lx : LX

def DX.dv (x : DX) (ds : DS) : DV := ⟨ds.n, x.dep, rootOB x.r x.inn (x.l.map CB.v) :: ds.leaf.obs x.lx, (cbTxs x.l).map TX.ptr, none⟩

noncomputable def DocSt (pb : Nat) (oc : List Value) (ds : DS) (p : Nat) : HP := Sl.ex fun x : DX => Sl.pur (x.l.map CB.b = ds.bs ∧ ds.leaf.fits x.lx) * (Dsp pb oc (x.dv ds) p * (cbOwn x.l * (TxsAt 0 (cbTxs x.l) * ds.leaf.own x.lx)))

theorem docSt_iff {w : World} {pb p : Nat} {oc : List Value} {ds : DS} {F : HP} : Sat w (DocSt pb oc ds p * F) ↔ ∃ x : DX, x.l.map CB.b = ds.bs ∧ ds.leaf.fits x.lx ∧ Sat w (Dsp pb oc (x.dv ds) p * (cbOwn x.l * (TxsAt 0 (cbTxs x.l) * (ds.leaf.own x.lx * F)))) := by
  constructor
  · intro h
    obtain ⟨x, h⟩ := h.ex
    obtain ⟨⟨h1, h2⟩, h3⟩ := (h.cast (star_assoc _ _ _)).pur
    exact ⟨x, h1, h2, h3.cast (by ac_rfl)⟩
  · rintro ⟨x, h1, h2, h3⟩
    refine Sat.ex_mk x ?_
    rw [star_assoc, pur_star ⟨h1, h2⟩]
    exact h3.cast (by ac_rfl)

/-- A line is added. -/
def Steps (oc : List Value) (ds : DS) (l : List UInt8 × UInt8) (ds' : DS) : Prop := ds'.n = ds.n + 1 ∧ ∀ pb p w F, Sat w (DocSt pb oc { ds with n := ds.n + 1 } p * F) →
  Calls Tryz.prog 90 #[.pointer (some ⟨p, 0, none⟩), (LineOf l).agg] w fun e w' => e = .returned (.tuple #[]) ∧ Sat w' (DocSt pb oc ds' p * F)

/-- The open block is closed; there are bs then. -/
def Shuts (oc : List Value) (ds : DS) (bs : List Blk) : Prop := (ds.leaf = .none ∧ bs = ds.bs) ∨ (ds.leaf ≠ .none ∧ ∀ pb p w F, Sat w (DocSt pb oc ds p * F) →
  Calls Tryz.prog 107 #[.pointer (some ⟨p, 0, none⟩)] w fun e w' => ∃ v, e = .returned v ∧ Sat w' (DocSt pb oc ⟨ds.n, bs, .none⟩ p * F))

theorem leaf_obs (k : Leaf) (x : LX) : (k.obs x).length = match k with | .none => 0 | _ => 1 := by
  cases k <;> rfl

theorem doc_lines (pb : Nat) (oc : List Value) (G0 : HP) (text : List UInt8) (D : Nat → DS) (h0 : D 0 = ⟨0, [], .none⟩) (hn : ∀ k, (D k).n = k) (hs : ∀ k l, (B.lines text)[k]? = some l → Steps oc (D k) l (D (k + 1))) :
    LinesP oc G0 (fun p done => DocSt pb oc (D done.length) p * G0) pb text where
  first := by
    intro p r g cap w F h
    have h1 := dsp_first pb oc p r g cap w (G0 * F) h
    have h2 : Sat w (DocSt pb oc (D 0) p * (G0 * F)) := by
      rw [h0]
      refine docSt_iff.2 ⟨⟨r, ⟨none, 0, 0⟩, -1, [], ⟨0, ⟨none, 0, 0⟩, 0, .nilFunc⟩⟩, rfl, trivial, ?_⟩
      have e : cbOwn [] * (TxsAt 0 (cbTxs []) * (Leaf.own .none ⟨0, ⟨none, 0, 0⟩, 0, .nilFunc⟩ * (G0 * F))) = G0 * F := by
        show emp * (emp * (emp * (G0 * F))) = _
        rw [emp_star, emp_star, emp_star]
      exact h1.cast (congrArg (_ * ·) e.symm)
    exact h2.cast (star_assoc _ _ _).symm
  next := by
    intro p done l rest w F hl hsat
    have hk : (B.lines text)[done.length]? = some l := by rw [hl]; simp
    obtain ⟨hn', hst⟩ := hs _ _ hk
    obtain ⟨x, e1, e2, h⟩ := docSt_iff.1 (hsat.cast (star_assoc _ _ _))
    obtain ⟨hh, hf, h1⟩ := dsp_iff.1 h
    refine ⟨(x.dv (D done.length)).ps pb hh, _, hn _, h1.cast (by
      show _ = row p 173 ((x.dv (D done.length)).ps pb hh).cells * ((arr 197 4 (.slice (some ⟨hh.g, 0, none⟩) (x.dv (D done.length)).obs.length hh.cap) (x.dv (D done.length)).obs.length (obCells (x.dv (D done.length)).obs) * (obOwn (x.dv (D done.length)).obs * (arr 139 1 hh.tx.v hh.tx.len (x.dv (D done.length)).ptrs * (row pb 105 oc * (cbOwn x.l * (TxsAt 0 (cbTxs x.l) * ((D done.length).leaf.own x.lx * G0))))))) * F)
      ac_rfl), fun w' hw' => ?_⟩
    have h5 : Sat w' (DocSt pb oc { D done.length with n := (D done.length).n + 1 } p * (G0 * F)) := by
      refine docSt_iff.2 ⟨x, e1, e2, dsp_iff.2 ⟨hh, hf, hw'.cast ?_⟩⟩
      rw [← hn done.length]
      show row p 173 ((x.dv { D done.length with n := (D done.length).n + 1 }).ps pb hh).cells * ((arr 197 4 (.slice (some ⟨hh.g, 0, none⟩) (x.dv (D done.length)).obs.length hh.cap) (x.dv (D done.length)).obs.length (obCells (x.dv (D done.length)).obs) * (obOwn (x.dv (D done.length)).obs * (arr 139 1 hh.tx.v hh.tx.len (x.dv (D done.length)).ptrs * (row pb 105 oc * (cbOwn x.l * (TxsAt 0 (cbTxs x.l) * ((D done.length).leaf.own x.lx * G0))))))) * F) =
        row p 173 ((x.dv { D done.length with n := (D done.length).n + 1 }).ps pb hh).cells * (arr 197 4 (.slice (some ⟨hh.g, 0, none⟩) (x.dv (D done.length)).obs.length hh.cap) (x.dv (D done.length)).obs.length (obCells (x.dv (D done.length)).obs) * (obOwn (x.dv (D done.length)).obs * (arr 139 1 hh.tx.v hh.tx.len (x.dv (D done.length)).ptrs * (row pb 105 oc * (cbOwn x.l * (TxsAt 0 (cbTxs x.l) * ((D done.length).leaf.own x.lx * (G0 * F))))))))
      ac_rfl
    refine (hst pb p w' (G0 * F) h5).mono ?_
    rintro e w2 ⟨rfl, h6⟩
    refine ⟨rfl, ?_⟩
    show Sat w2 (DocSt pb oc (D (done ++ [l]).length) p * G0 * F)
    rw [List.length_append]
    exact h6.cast (star_assoc _ _ _).symm

theorem doc_ends (pb : Nat) (o : Opt) (G0 : HP) (text : List UInt8) (D : Nat → DS) (bs : List Blk) (hcl : Shuts o.pcells (D (B.lines text).length) bs) (hgood : ∀ b ∈ bs, b.Good o) :
    EndsP o.pcells pb (fun p done => DocSt pb o.pcells (D done.length) p * G0) (fun p tx i => DocT pb o.pcells bs p tx i * G0) text where
  close := by
    intro p w F hs
    have hroot : ∀ n w, Sat w (DocSt pb o.pcells ⟨n, bs, .none⟩ p * (G0 * F)) → Calls Tryz.prog 107 #[.pointer (some ⟨p, 0, none⟩)] w fun e w' => ∃ v, e = .returned v ∧
        Sat w' ((Sl.ex fun tx : SV => Sl.pur (tx.len ≤ 1000000000) * Dcl0 pb o.pcells (DocC bs 0) p tx) * (G0 * F)) := by
      intro n w h
      obtain ⟨x, e1, _, h⟩ := docSt_iff.1 h
      have h3 : Sat w (DocC bs 0 (x.l.map CB.v) ((cbTxs x.l).map TX.ptr) * (Dsp pb o.pcells (x.dv ⟨n, bs, .none⟩) p * (G0 * F))) := by
        refine Sat.ex_mk x.l ?_
        rw [star_assoc, pur_star ⟨e1, rfl, rfl⟩]
        refine h.cast ?_
        show _ * (_ * (_ * (emp * _))) = _
        rw [emp_star]
        ac_rfl
      refine (closeRoot_e pb p o.pcells _ x.r x.inn (x.l.map CB.v) (DocC bs 0) (G0 * F) w rfl h3.swap).mono ?_
      rintro e w' ⟨⟨u, rfl⟩, tx, htx, h5⟩
      refine ⟨u, rfl, ?_⟩
      refine Sat.ex_mk tx ?_
      rw [star_assoc, pur_star htx]
      exact h5
    have hlen : ∀ ds w, Sat w (DocSt pb o.pcells ds p * (G0 * F)) → ∃ a c, w.cell? ⟨p, 4, none⟩ = some (.slice a (match ds.leaf with | .none => 1 | _ => 2) c) := by
      intro ds w h
      obtain ⟨x, e1, _, h⟩ := docSt_iff.1 h
      obtain ⟨_, ⟨a, c, h4⟩, _⟩ := dsp_depth h
      refine ⟨a, c, h4.trans ?_⟩
      show some (Value.slice a (ds.leaf.obs x.lx).length.succ c) = _
      rw [leaf_obs]
      cases ds.leaf <;> rfl
    have hfin : ∀ w', Sat w' ((Sl.ex fun tx : SV => Sl.pur (tx.len ≤ 1000000000) * Dcl0 pb o.pcells (DocC bs 0) p tx) * (G0 * F)) → ∃ tx : SV, tx.len ≤ 1000000000 ∧ Sat w' (DocT pb o.pcells bs p tx 0 * G0 * F) := by
      intro w' h
      obtain ⟨tx, h⟩ := h.ex
      obtain ⟨htx, h⟩ := (h.cast (star_assoc _ _ _)).pur
      obtain ⟨y, ⟨hy, _⟩, h⟩ := dcl0_iff.1 h
      have h7 : Sat w' (DocT pb o.pcells bs p tx 0 * (G0 * F)) := dcl_iff.2 ⟨y, hy, h⟩
      exact ⟨tx, htx, h7.cast (star_assoc _ _ _).symm⟩
    have hlen0 : ∀ w, Sat w ((Sl.ex fun tx : SV => Sl.pur (tx.len ≤ 1000000000) * Dcl0 pb o.pcells (DocC bs 0) p tx) * (G0 * F)) → ∃ a c, w.cell? ⟨p, 4, none⟩ = some (.slice a 0 c) := by
      intro w h
      obtain ⟨tx, h⟩ := h.ex
      obtain ⟨_, h⟩ := (h.cast (star_assoc _ _ _)).pur
      obtain ⟨y, ⟨_, hy⟩, h⟩ := dcl0_iff.1 h
      have := (PSt.facts h).2.2.2.2.1
      rw [hy] at this
      exact ⟨_, _, this⟩
    have hs' : Sat w (DocSt pb o.pcells (D (B.lines text).length) p * (G0 * F)) := Sat.cast (show Sat w (DocSt pb o.pcells (D (B.lines text).length) p * G0 * F) from hs) (star_assoc _ _ _)
    generalize D (B.lines text).length = ds at hcl hs'
    rcases hcl with ⟨hl, rfl⟩ | ⟨hl, hcl⟩
    · obtain ⟨n, bs, leaf⟩ := ds
      obtain rfl : leaf = .none := hl
      refine (trimStack_w p 0 1 (by decide) (by decide) (fun k => if k = 1 then DocSt pb o.pcells ⟨n, bs, .none⟩ p else Sl.ex fun tx : SV => Sl.pur (tx.len ≤ 1000000000) * Dcl0 pb o.pcells (DocC bs 0) p tx) (G0 * F) ?_ ?_ w hs').mono ?_
      · intro k w _ h1 h
        have : k = 0 ∨ k = 1 := by omega
        rcases this with rfl | rfl
        · exact hlen0 w h
        · exact hlen _ w h
      · intro k w _ h1 h
        obtain rfl : k = 0 := by omega
        exact hroot n w h
      · rintro e w' ⟨rfl, h⟩
        exact ⟨rfl, hfin w' h⟩
    · have hl2 : (match ds.leaf with | .none => 1 | _ => 2) = 2 := by
        cases h : ds.leaf with
        | none => exact absurd h hl
        | para => rfl
        | html => rfl
      refine (trimStack_w p 0 2 (by decide) (by decide) (fun k => if k = 2 then DocSt pb o.pcells ds p else if k = 1 then DocSt pb o.pcells ⟨ds.n, bs, .none⟩ p else Sl.ex fun tx : SV => Sl.pur (tx.len ≤ 1000000000) * Dcl0 pb o.pcells (DocC bs 0) p tx) (G0 * F) ?_ ?_ w hs').mono ?_
      · intro k w _ h1 h
        have : k = 0 ∨ k = 1 ∨ k = 2 := by omega
        rcases this with rfl | rfl | rfl
        · exact hlen0 w h
        · exact hlen _ w h
        · have := hlen _ w h
          rwa [hl2] at this
      · intro k w _ h1 h
        have : k = 0 ∨ k = 1 := by omega
        rcases this with rfl | rfl
        · exact hroot ds.n w h
        · exact hcl pb p w (G0 * F) h
      · rintro e w' ⟨rfl, h⟩
        exact ⟨rfl, hfin w' h⟩
  state := by
    intro p tx i w F h
    obtain ⟨y, l, hf, e1, e2, e3, h1⟩ := docT_iff.1 (h.cast (star_assoc _ _ _))
    refine ⟨y.x, row y.d 117 [.int .i64 0, .int .i64 0, y.inn.v, .map y.x.links] * (arr 97 1 y.inn.v y.inn.len y.items * (arr 139 1 tx.v tx.len y.ptrs * (cbOwn l * (TxsAt i (cbTxs l) * G0)))), hf.2.2.1, h1.cast ?_⟩
    ac_rfl
  text := by
    intro p tx i w F h hi
    obtain ⟨y, l, hf, e1, e2, e3, h1⟩ := docT_iff.1 (h.cast (star_assoc _ _ _))
    obtain ⟨g1, g2, g3, g4, g5, g6, g7, g8⟩ := hf
    have hil : i < (cbTxs l).length := by rw [g6, e3, List.length_map] at hi; exact hi
    obtain ⟨t, ht⟩ : ∃ t, (cbTxs l)[i]? = some t := ⟨(cbTxs l)[i], by simp [hil]⟩
    have hin := cbTxs_good (l := l) (by rw [e1]; exact hgood) t (List.mem_of_getElem? ht)
    obtain ⟨GT, ht1, ht2⟩ := txsAt_at i _ _ ht
    rw [ht1] at h1
    have hp : y.ptrs[i]? = some (.pointer (some ⟨t.tb, 0, none⟩)) := by rw [e3, List.getElem?_map, ht]; rfl
    have h2 := h1.cast (show _ = arr 139 1 tx.v tx.len y.ptrs * (row t.tb 144 [.int .i64 t.st, .int .i64 t.en, .slice none 0 0, .string (B.bs t.raw)] * (row p 173 y.x.cells * (row pb 105 o.pcells * (row y.d 117 [.int .i64 0, .int .i64 0, y.inn.v, .map y.x.links] * (arr 97 1 y.inn.v y.inn.len y.items * (cbOwn l * (GT * (G0 * F)))))))) from by
      show row p 173 y.x.cells * (row y.d 117 [.int .i64 0, .int .i64 0, y.inn.v, .map y.x.links] * (arr 97 1 y.inn.v y.inn.len y.items * (arr 139 1 tx.v tx.len y.ptrs * (row pb 105 o.pcells * (cbOwn l * ((row t.tb 144 [.int .i64 t.st, .int .i64 t.en, .slice none 0 0, .string (B.bs t.raw)] * GT) * (G0 * F))))))) = _
      ac_rfl)
    rcases h2.arr_cases with ⟨_, h0, _, _⟩ | ⟨a, cap, junk, hv, q1, q2, q3, q4, hr⟩
    · rw [h0] at hi; cases hi
    have ha : tx.a = some ⟨a, 0, none⟩ := by unfold SV.v at hv; injection hv
    have ca : w.cell? ⟨a, i, none⟩ = some (.pointer (some ⟨t.tb, 0, none⟩)) := by
      refine hr.cell i ?_
      rw [List.getElem?_append_left (List.getElem?_eq_some_iff.1 hp).1]
      exact hp
    refine ⟨a, t.tb, B.bs t.raw, ha, ca, h2.swap.cell 3 rfl, ?_⟩
    have h3 := h2.cast (show _ = row p 173 y.x.cells * (row pb 105 o.pcells * (row t.tb 144 [.int .i64 t.st, .int .i64 t.en, .slice none 0 0, .string (B.bs t.raw)] * (arr 139 1 tx.v tx.len y.ptrs * (row y.d 117 [.int .i64 0, .int .i64 0, y.inn.v, .map y.x.links] * (arr 97 1 y.inn.v y.inn.len y.items * (cbOwn l * (GT * (G0 * F)))))))) from by ac_rfl)
    refine (hin p pb y.x _ w g2 g8 h3).mono ?_
    rintro e w' ⟨x, L, rfl, hk, h4⟩
    have h5 := h4.cast (show _ = row t.tb 144 [.int .i64 t.st, .int .i64 t.en, .slice none 0 0, .string (B.bs t.raw)] * (InlsAt L t.toks * (row p 173 x.cells * (row pb 105 o.pcells * (arr 139 1 tx.v tx.len y.ptrs * (row y.d 117 [.int .i64 0, .int .i64 0, y.inn.v, .map y.x.links] * (arr 97 1 y.inn.v y.inn.len y.items * (cbOwn l * (GT * (G0 * F))))))))) from by
      generalize InlsAt L t.toks = Y
      ac_rfl)
    refine ⟨L, rfl, ⟨_, h5.cell 2 rfl⟩, h5.frozen 2, ?_⟩
    have h6 := h5.set 2 L.v
    obtain ⟨k1, k2, k3, k4, k5, k6, k7, k8, k9⟩ := hk
    have h7 : Sat (w'.setCell ⟨t.tb, 2, none⟩ L.v) (DocT pb o.pcells bs p tx (i + 1) * (G0 * F)) := by
      refine docT_iff.2 ⟨⟨x, y.d, y.inn, y.items, y.ptrs⟩, l, ⟨by rw [k2]; exact g1, by rw [k1]; exact g2, by rw [k8]; exact g3, g4, g5, g6, g7, by rw [k9]; exact g8⟩, e1, e2, e3, ?_⟩
      show Sat (w'.setCell ⟨t.tb, 2, none⟩ L.v) (row p 173 x.cells * (row y.d 117 [.int .i64 0, .int .i64 0, y.inn.v, .map x.links] * (arr 97 1 y.inn.v y.inn.len y.items * (arr 139 1 tx.v tx.len y.ptrs * (row pb 105 o.pcells * (cbOwn l * (TxsAt (i + 1) (cbTxs l) * (G0 * F))))))))
      rw [ht2, k3]
      have h8 : Sat (w'.setCell ⟨t.tb, 2, none⟩ L.v) (TX.read t * _) := Sat.ex_mk L (h6.cast (star_assoc _ _ _).symm)
      refine h8.cast ?_
      generalize TX.read t = Y
      ac_rfl
    exact h7.cast (star_assoc _ _ _).symm

end Go.Proofs.YtbfmmikllelfeaaGreatDoor

/- A flat document, printed. -/
namespace Go.Proofs.YtbfmmikllelfeaaGreatDoor
open Go.RowKit Sl

set_option maxRecDepth 100000 in
set_option maxHeartbeats 1000000 in
theorem htmlPrint_w (d b : Nat) (st en : Value) (sv : SV) (ls : List (List UInt8)) (F : HP) (W w : World) (l : List UInt8) (h1 : ls.length ≤ 1000000000) (h2 : ∀ s ∈ ls, s.length ≤ 1000000000)
    (hs : Sat W (row d 153 [st, en, sv.v] * (arr 9 1 sv.v sv.len (strVals ls) * F))) (hb : Below W.heap.size W w) (hB : IsBuf W.heap.size b l w) (hl : l.length + (ls.flatMap fun s => s ++ [10]).length ≤ 1000000000000) :
    Calls Tryz.prog 331 #[.pointer (some ⟨d, 0, none⟩), .pointer (some ⟨b, 0, none⟩)] w fun e w' => e = .returned (.tuple #[]) ∧ IsBuf W.heap.size b (l ++ ls.flatMap fun s => s ++ [10]) w' ∧ Below W.heap.size W w' := by
  have hd : w.cell? ⟨d, 2, none⟩ = some sv.v := (hb.cell (p := ⟨d, 2, none⟩) hs.row_lt).trans (hs.cell 2 rfl)
  have hal := hs.swap.arr_length
  have hi : sv.len = ls.length := by unfold strVals at hal; rw [List.length_map, Nat.mul_one] at hal; exact hal.symm
  have hc : ∀ w' k s, Below W.heap.size W w' → ls[k]? = some s → ∃ g, sv.a = some ⟨g, 0, none⟩ ∧ w'.cell? ⟨g, k, none⟩ = some (.string (B.bs s)) := by
    intro w' k s hb' hk
    have hk2 : (strVals ls)[k]? = some (.string (B.bs s)) := by unfold strVals; rw [List.getElem?_map, hk]; rfl
    rcases hs.swap.arr_cases with ⟨_, h, hx, _⟩ | ⟨g, cap, junk, hv, _, _, _, _, hr⟩
    · rw [hx] at hk2; cases hk2
    · refine ⟨g, ?_, ?_⟩
      · unfold SV.v at hv
        injection hv with h1 h2 h3
      · refine (hb'.cell (p := ⟨g, k, none⟩) hr.row_lt).trans (hr.cell k ?_)
        rw [List.getElem?_append_left (List.getElem?_eq_some_iff.1 hk2).1]; exact hk2
  have HC := Lib.hid hc
  clear hc hs
  unfold SV.v at hd
  rw [hi] at hd
  have hout : ∀ k s, ls[k]? = some s → ((ls.take (k + 1)).flatMap fun s => s ++ [10]) = ((ls.take k).flatMap fun s => s ++ [10]) ++ s ++ [10] ∧ ((ls.take (k + 1)).flatMap fun s => s ++ [10]).length ≤ (ls.flatMap fun s => s ++ [10]).length ∧ s.length ≤ 1000000000 := by
    intro k s hk
    obtain ⟨hlt, rfl⟩ := List.getElem?_eq_some_iff.1 hk
    refine ⟨?_, ?_, h2 _ (List.getElem_mem _)⟩
    · rw [List.take_succ_eq_append_getElem hlt, List.flatMap_append]
      simp
    · have := congrArg (fun l => (l.flatMap fun s => s ++ [(10 : UInt8)]).length) (List.take_append_drop (k + 1) ls)
      simp only [List.flatMap_append, List.length_append] at this
      omega
  have HO := Lib.hid hout
  have hall : ls.take ls.length = ls := List.take_length
  have HALL := Lib.hid hall
  have hlt0 : ∀ k, k < ls.length → ∃ v, ls[k]? = some v := fun k hk => ⟨ls[k], by simp [hk]⟩
  obtain ⟨n, hn⟩ : ∃ n, n = ls.length := ⟨_, rfl⟩
  clear hout h2 hal hall
  rw [← hn] at hd hlt0 h1 HALL
  have HLT := Lib.hid hlt0
  clear hlt0 hi hn
  generalize htot : (ls.flatMap fun s => s ++ [10]) = tot at *
  go_enter Tryz.func331, Tryz.ntmps331
  go_wp2
  go_loopw [11] (fun i wr => ∃ k : Nat, k ≤ n ∧ i = .int .i64 k ∧ IsBuf W.heap.size b (l ++ ((ls.take k).flatMap fun s => s ++ [10])) wr ∧ Below W.heap.size W wr) (fun i _ => n - (intOf i).toNat)
  case atStart => exact ⟨0, Nat.zero_le _, rfl, by simpa using hB, hb⟩
  case round =>
    obtain ⟨k, hk, rfl, hB, hb⟩ := hrel
    by_cases hlt : k < n
    · obtain ⟨s, hv⟩ := HLT.out k hlt
      obtain ⟨o1, o2, o3⟩ := HO.out k s hv
      obtain ⟨g, hg, ck⟩ := HC.out wr k s hb hv
      have O1 := Lib.hid o1
      have hsz : l.length + ((ls.take k).flatMap fun s => s ++ [10]).length + s.length + 1 ≤ 1000000000000 := by
        rw [o1] at o2
        simp only [List.length_append, List.length_cons, List.length_nil] at o2
        omega
      rw [hg]
      clear hv o1 o2 hd
      generalize ((ls.take k).flatMap fun s => s ++ [10]) = pre at *
      have HW1 := Lib.hid (bufWrite_w W b (l ++ pre) (B.bs s) wr hb hB (by rw [B.bs_size, List.length_append]; omega))
      go_wp2_with fail
      refine HW1.out.mono ?_
      rintro e w2 ⟨rfl, hB2, hb2⟩
      rw [B.bs_data] at hB2
      have HW2 := Lib.hid (bufWrite_w W b (l ++ pre ++ s) ⟨#[10]⟩ w2 hb2 hB2 (by show (l ++ pre ++ s).length + 1 ≤ _; rw [List.length_append, List.length_append]; omega))
      go_wp2_with fail
      refine HW2.out.mono ?_
      rintro e w3 ⟨rfl, hB3, hb3⟩
      go_wp2
      go_roundw
      case rel => exact ⟨k + 1, by omega, by go_num, by rw [O1.out, ← List.append_assoc, ← List.append_assoc]; exact hB3, hb3⟩
      case measure => simp [intOf]; omega
    · obtain rfl : k = n := by omega
      go_wp2
      go_end0
      refine ⟨rfl, ?_, hb⟩
      rw [HALL.out, htot] at hB
      exact hB

theorem prt_html {A : List UInt8 → Prop} {d : Nat} {st en : Value} {sv : SV} {ls : List (List UInt8)} {G : HP} (h1 : ls.length ≤ 1000000000) (h2 : ∀ s ∈ ls, s.length ≤ 1000000000) :
    Prt A (row d 153 [st, en, sv.v] * (arr 9 1 sv.v sv.len (strVals ls) * G)) (.iface 151 (.pointer (some ⟨d, 0, none⟩))) (ls.flatMap fun s => s ++ [10]) :=
  ⟨_, ⟨d, 0, none⟩, 331, rfl, fun w => meth_HTMLBlock_PrintHTML ⟨d, 0, none⟩ w, fun w => ahead_HTMLBlock_PrintHTML ⟨d, 0, none⟩ w, enters_of Tryz.func331 (by kernel_rfl) rfl,
    fun W F w b l hW _ hb hB hl => htmlPrint_w d b st en sv ls (G * F) W w l h1 h2 (hW.cast (by ac_rfl)) hb hB hl⟩

theorem Prt.cast {A : List UInt8 → Prop} {T T' : HP} {v : Value} {o : List UInt8} (h : Prt A T v o) (e : T = T') : Prt A T' v o := e ▸ h

/-- A block of a closed document is printed. -/
theorem prt_cb {A : List UInt8 → Prop} {o : Opt} {l : List CB} {k : Nat} {c : CB} (hk : l[k]? = some c) (hg : c.b.Good o) : Prt A (cbOwn l * TxsAt (cbTxs l).length (cbTxs l)) c.v c.b.out := by
  obtain ⟨G, hG⟩ := cb_split hk
  obtain ⟨b, d, tb, sv⟩ := c
  cases b with
  | para st en raw toks =>
    have ht : (⟨tb, st, en, raw, toks⟩ : TX) ∈ cbTxs l := List.mem_flatMap.2 ⟨_, List.mem_of_getElem? hk, List.mem_singleton.2 rfl⟩
    obtain ⟨i, hi⟩ := List.getElem?_of_mem ht
    obtain ⟨G2, hG2⟩ := txsAt_one i _ _ hi
    refine (prt_para (A := A) (d := d) (st := .int .i64 st) (en := .int .i64 en) (t := ⟨tb, st, en, raw, toks⟩) (G := G * G2) hg.2.1 hg.2.2).cast ?_
    rw [hG, hG2]
    show row d 147 [.int .i64 st, .int .i64 en, TX.ptr ⟨tb, st, en, raw, toks⟩] * (TX.read ⟨tb, st, en, raw, toks⟩ * (G * G2)) = row d 147 [.int .i64 st, .int .i64 en, .pointer (some ⟨tb, 0, none⟩)] * G * (TX.read ⟨tb, st, en, raw, toks⟩ * G2)
    generalize TX.read ⟨tb, st, en, raw, toks⟩ = Y
    rw [show TX.ptr ⟨tb, st, en, raw, toks⟩ = .pointer (some ⟨tb, 0, none⟩) from rfl]
    ac_rfl
  | html st en ls =>
    refine (prt_html (A := A) (d := d) (st := .int .i64 st) (en := .int .i64 en) (sv := sv) (ls := ls) (G := G * TxsAt (cbTxs l).length (cbTxs l)) hg.1 hg.2).cast ?_
    rw [hG]
    show _ = row d 153 [.int .i64 st, .int .i64 en, sv.v] * arr 9 1 sv.v sv.len (strVals ls) * G * _
    ac_rfl

theorem doc_prints (o : Opt) (G0 : HP) (text : List UInt8) (D : Nat → DS) (bs : List Blk) (hsz : text.length ≤ 1000000000) (hnul : (0 : UInt8) ∉ text) (h0 : D 0 = ⟨0, [], .none⟩) (hn : ∀ k, (D k).n = k)
    (hs : ∀ k l, (B.lines text)[k]? = some l → Steps o.pcells (D k) l (D (k + 1))) (hcl : Shuts o.pcells (D (B.lines text).length) bs) (hgood : ∀ b ∈ bs, b.Good o) (hl : (bs.flatMap Blk.out).length ≤ 1000000000000) :
    PrintsP o.pcells G0 (B.bs text) (B.bs (bs.flatMap Blk.out)) where
  size := hsz
  nul := by rw [B.bs_data]; exact B.no_nul hnul
  run := by
    intro pb
    rw [B.bs_data]
    refine ⟨_, _, doc_lines pb o.pcells G0 text D h0 hn hs, doc_ends pb o G0 text D bs hcl hgood, ?_⟩
    intro p tx root w G hsat hr
    obtain ⟨y, l, hf, e1, e2, e3, h2⟩ := docT_iff.1 (hsat.cast (star_assoc _ _ _))
    obtain ⟨g1, g2, g3, g4, g5, g6, g7, g8⟩ := hf
    have htl : tx.len = (cbTxs l).length := by rw [g6, e3, List.length_map]
    have hr' := h2.cell 1 (v := .pointer y.x.root) rfl
    rw [hr, g1] at hr'
    have hr2 : root = some ⟨y.d, 0, none⟩ := by injection hr' with e; injection e
    subst hr2
    have h3 := h2.cast (show _ = row y.d 117 [.int .i64 0, .int .i64 0, y.inn.v, .map y.x.links] * (arr 97 1 y.inn.v y.inn.len y.items * ((cbOwn l * TxsAt (cbTxs l).length (cbTxs l)) * ((G0 * G) * (row p 173 y.x.cells * (arr 139 1 tx.v tx.len y.ptrs * row pb 105 o.pcells))))) from by
      rw [htl]
      ac_rfl)
    have hfl : bs.flatMap Blk.out = (l.map fun c => c.b.out).flatten := by
      rw [← e1, List.flatMap_def, List.map_map]
      rfl
    rw [hfl] at hl ⊢
    refine (toHTML_w (fun _ => True) y.d (.int .i64 0) (.int .i64 0) (.map y.x.links) y.inn y.items (l.map fun c => c.b.out) _ _ w g4 g5 h3 (by rw [e2]; simp) ?_ (fun _ _ => trivial) hl).mono ?_
    · intro i v o' hv ho
      rw [e2, List.getElem?_map] at hv
      rw [List.getElem?_map] at ho
      obtain ⟨c, hc, rfl⟩ := Option.map_eq_some_iff.1 hv
      rw [hc] at ho
      obtain rfl : c.b.out = o' := by simpa using ho
      exact prt_cb hc (hgood _ (by rw [← e1]; exact List.mem_map_of_mem (List.mem_of_getElem? hc)))
    · rintro e w' ⟨rfl, h5⟩
      exact ⟨rfl, h5.left⟩

end Go.Proofs.YtbfmmikllelfeaaGreatDoor
