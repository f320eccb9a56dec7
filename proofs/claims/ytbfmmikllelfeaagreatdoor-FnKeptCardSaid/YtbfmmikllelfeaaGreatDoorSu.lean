/- Lines of a flat document: what each does to the state. -/
import Derived.Test.YtbfmmikllelfeaaGreatDoorGa
import Derived.Test.YtbfmmikllelfeaaGreatDoorHc
import Derived.Test.YtbfmmikllelfeaaGreatDoorQ1
import Derived.Test.YtbfmmikllelfeaaGreatDoorHh
namespace Go.Proofs.YtbfmmikllelfeaaGreatDoor
open Go.RowKit Sl

set_option maxRecDepth 100000 in
set_option maxHeartbeats 1000000 in
theorem newHTML_does (p : Nat) (x : Ln) (S S' : HP)
    (hstart : ∀ b w F, Sat w (row b 181 x.cells * (S * F)) → Calls Tryz.prog 204 #[.pointer (some ⟨p, 0, none⟩), .pointer (some ⟨b, 0, none⟩)] w fun e' w' => e' = .returned (.bool true) ∧ Sat w' (S' * (row b 181 x.cells * F))) :
    Does p S S' 5 x Ln.zero := by
  intro w F hs
  have h1 : Sat (w.alloc (.cells x.cells.toArray 181)) (row w.heap.size 181 x.cells * (S * F)) := hs.new _ _ rfl
  have h2 := (h1.new (d := w.heap.size + 1) Ln.zero.cells 181 (by simp))
  have h3 := (h2.new (d := w.heap.size + 2) x.cells 181 (by simp))
  have h4 := h3.cast (show _ = row (w.heap.size + 2) 181 x.cells * (S * (row (w.heap.size + 1) 181 Ln.zero.cells * (row w.heap.size 181 x.cells * F))) from by ac_rfl)
  have HS := Lib.hid (hstart _ _ _ h4)
  clear h1 h2 h3 h4 hs hstart
  show Calls _ 147 _ _ _
  unfold Ln.agg
  go_enter Tryz.func147, Tryz.ntmps147
  go_wp2_with fail
  refine HS.out.mono ?_
  rintro e w2 ⟨rfl, s2⟩
  have s3 := s2.cast (show _ = row (w.heap.size + 1) 181 Ln.zero.cells * (row (w.heap.size + 2) 181 x.cells * (row w.heap.size 181 x.cells * (S' * F))) from by ac_rfl)
  obtain ⟨b0, b1, b2, b3, b4, bf⟩ := line_cells s3
  have HS2 := Lib.hid s3
  clear s2 s3 HS
  go_wp2
  refine bodyPost_ret (v := .tuple #[Ln.zero.agg, .bool true]) (by simp [results, Tryz.results147, go_sem, Ln.agg, Ln.zero, *]) rfl ⟨rfl, ?_⟩
  exact (((((HS2.out.set 0 _).set 1 _).set 2 _).set 3 _).set 4 _).drop1.drop1.drop1

/-- What stands beside the parser's state. -/
def DX.rest (x : DX) (k : Leaf) : HP := cbOwn x.l * (TxsAt 0 (cbTxs x.l) * k.own x.lx)

theorem docSt_mk {w : World} {pb p : Nat} {oc : List Value} {ds : DS} {F : HP} (x : DX) (h1 : x.l.map CB.b = ds.bs) (h2 : ds.leaf.fits x.lx) (h : Sat w (Dsp pb oc (x.dv ds) p * (x.rest ds.leaf * F))) : Sat w (DocSt pb oc ds p * F) :=
  docSt_iff.2 ⟨x, h1, h2, h.cast (by unfold DX.rest; ac_rfl)⟩

theorem docSt_get {w : World} {pb p : Nat} {oc : List Value} {ds : DS} {F : HP} (h : Sat w (DocSt pb oc ds p * F)) : ∃ x : DX, x.l.map CB.b = ds.bs ∧ ds.leaf.fits x.lx ∧ Sat w (Dsp pb oc (x.dv ds) p * (x.rest ds.leaf * F)) := by
  obtain ⟨x, h1, h2, h3⟩ := docSt_iff.1 h
  exact ⟨x, h1, h2, h3.cast (by unfold DX.rest; ac_rfl)⟩

theorem steps_of {oc : List Value} {ds : DS} {l : List UInt8 × UInt8} {ds' : DS} (hl : l.1.length ≤ 1000000000) (hn : ds'.n = ds.n + 1)
    (H : ∀ pb p (x : DX), x.dep = 0 → x.l.map CB.b = ds.bs → ds.leaf.fits x.lx → ∃ (v3 : DV) (R3 : HP) (l3 : Ln), l3.OK ∧ (0 ≤ v3.dep ∧ v3.dep ≤ 1000000000) ∧ Extd pb oc p (x.dv { ds with n := ds.n + 1 }) (x.rest ds.leaf) (LineOf l) v3 R3 l3 ∧
      ((l3.blank = true ∧ Trims pb oc p v3 R3 (DocSt pb oc ds' p)) ∨ (l3.blank = false ∧ ∃ k, Added p k (Dsp pb oc v3 p * R3) l3 (DocSt pb oc ds' p)))) : Steps oc ds l ds' := by
  refine ⟨hn, fun pb p w F hs => ?_⟩
  obtain ⟨x, h1, h2, h3⟩ := docSt_get hs
  obtain ⟨v3, R3, l3, q1, q2, q3, q4⟩ := H pb p ⟨x.r, x.inn, 0, x.l, x.lx⟩ rfl h1 h2
  exact addLine_d pb p oc (LineOf l) l3 (x.dv { ds with n := ds.n + 1 }) v3 _ R3 (DocSt pb oc ds' p) F w (lineOf_ok _ _ (by omega)) q1 q3 q2 q4 h3

theorem trims_shut {pb p : Nat} {oc : List Value} {ds : DS} {bs : List Blk} (x : DX) (h0 : x.dep = 0) (h1 : x.l.map CB.b = ds.bs) (h2 : ds.leaf.fits x.lx) (hk : ds.leaf ≠ .none) (hsh : Shuts oc ds bs) : Trims pb oc p (x.dv ds) (x.rest ds.leaf) (DocSt pb oc ⟨ds.n, bs, .none⟩ p) := by
  rcases hsh with ⟨h, _⟩ | ⟨_, hsh⟩
  · exact absurd h hk
  have hobs : (x.dv ds).obs.length = 2 := by
    show (ds.leaf.obs x.lx).length.succ = 2
    rw [leaf_obs]
    cases h : ds.leaf with
    | none => exact absurd h hk
    | para => rfl
    | html => rfl
  refine trims_one 0 (by show x.dep = _; rw [h0]; rfl) hobs (by decide) (fun w F hs => hsh pb p w F (docSt_mk x h1 h2 hs)) (fun w F hs => ?_)
  obtain ⟨y, _, _, h⟩ := docSt_get hs
  obtain ⟨_, ⟨a, c, h4⟩, _⟩ := dsp_depth h
  exact ⟨a, c, h4⟩

theorem trims_stay {pb p : Nat} {oc : List Value} {ds : DS} (x : DX) (hd : x.dep + 1 = (x.dv ds).obs.length) (h1 : x.l.map CB.b = ds.bs) (h2 : ds.leaf.fits x.lx) : Trims pb oc p (x.dv ds) (x.rest ds.leaf) (DocSt pb oc ds p) := by
  intro w F hs
  refine (trims_none (R := x.rest ds.leaf) (v := x.dv ds) hd w F hs).mono ?_
  rintro e w' ⟨rfl, h⟩
  exact ⟨rfl, docSt_mk x h1 h2 (h.cast (star_assoc _ _ _))⟩

theorem step_blank_none (oc : List Value) (n : Int) (bs : List Blk) (l : List UInt8 × UInt8) (hl : l.1.length ≤ 1000000000) (hb : (LineOf l).blank = true) : Steps oc ⟨n, bs, .none⟩ l ⟨n + 1, bs, .none⟩ := by
  refine steps_of hl rfl fun pb p x h0 h1 h2 => ⟨x.dv ⟨n + 1, bs, .none⟩, x.rest .none, LineOf l, lineOf_ok _ _ (by omega), ?_, .done ?_, .inl ⟨hb, trims_stay x ?_ h1 h2⟩⟩
  · show 0 ≤ x.dep ∧ x.dep ≤ _
    rw [h0]; decide
  · show x.dep + 1 = _
    rw [h0]; rfl
  · rw [h0]; rfl

set_option maxRecDepth 100000 in
set_option maxHeartbeats 400000 in
theorem paraExtend_w (q p : Value) (l : Ln) (F : HP) (w : World) (hs : Sat w F) :
    Calls Tryz.prog 393 #[q, p, l.agg] w fun e w' => e = .returned (.tuple #[l.agg, .bool false]) ∧ Sat w' F := by
  have H1 := Lib.hid hs
  clear hs
  unfold Ln.agg
  go_enter Tryz.func393, Tryz.ntmps393
  go_wp2
  refine bodyPost_ret (v := .tuple #[l.agg, .bool false]) (by simp [results, Tryz.results393, go_sem, Ln.agg]) rfl ⟨rfl, ?_⟩
  have h1 := (H1.out.new (d := w.heap.size) [.int .i64 l.spaces, .int .i64 l.i, .int .i64 l.tab, .string l.text, .int .u8 l.nl.toNat] 181 rfl).new (d := w.heap.size + 1) [.int .i64 l.spaces, .int .i64 l.i, .int .i64 l.tab, .string l.text, .int .u8 l.nl.toNat] 181 (by simp)
  exact h1.drop1.drop1

theorem asks_para {pb p : Nat} {oc : List Value} {n : Int} {bs : List Blk} {st en : Int} {ls : List (List UInt8)} (x : DX) (h0 : x.dep = 0) (R : HP) (l : Ln) :
    Asks pb oc p (x.dv ⟨n, bs, .para st en ls⟩) 0 ⟨.iface 258 (.pointer (some ⟨x.lx.q, 0, none⟩)), ⟨none, 0, 0⟩, [], st, en⟩ R R l l false where
  dep := by show x.dep = _; rw [h0]; rfl
  obs := rfl
  run := ⟨_, _, 393, rfl, fun w => meth_paraBuilder_extend ⟨x.lx.q, 0, none⟩ w, fun w => ahead_paraBuilder_extend ⟨x.lx.q, 0, none⟩ w, enters_of Tryz.func393 (by kernel_rfl) rfl, fun w F hs => paraExtend_w _ _ l _ w hs⟩

theorem step_para_blank (oc : List Value) (n : Int) (bs bs' : List Blk) (st en : Int) (ls : List (List UInt8)) (l : List UInt8 × UInt8) (hl : l.1.length ≤ 1000000000) (hb : (LineOf l).blank = true) (hsh : Shuts oc ⟨n + 1, bs, .para st en ls⟩ bs') :
    Steps oc ⟨n, bs, .para st en ls⟩ l ⟨n + 1, bs', .none⟩ := by
  refine steps_of hl rfl fun pb p x h0 h1 h2 => ⟨x.dv ⟨n + 1, bs, .para st en ls⟩, x.rest (.para st en ls), LineOf l, lineOf_ok _ _ (by omega), ?_, .stop 0 _ (asks_para x h0 _ _), .inl ⟨hb, trims_shut x h0 h1 h2 (by intro e; cases e) hsh⟩⟩
  show 0 ≤ x.dep ∧ x.dep ≤ _
  rw [h0]; decide

/-- A block of HTML goes on, or ends. -/
theorem asks_html {pb p : Nat} {oc : List Value} {n : Int} {bs : List Blk} {st en : Int} {k : HK} {ls : List (List UInt8)} (x : DX) (h0 : x.dep = 0) (hfit : k.fits x.lx) (l : Ln) (b : Bool) (hl : l.OK) (hb : k.isBlank = true → l.blank = false) (hn : ls.length < 1000000000) (hst : k.ends l.str b) (hsz : l.str.length ≤ 1000000000) :
    Asks pb oc p (x.dv ⟨n, bs, .html st en k ls⟩) 0 ⟨.iface 356 (.pointer (some ⟨x.lx.q, 0, none⟩)), ⟨none, 0, 0⟩, [], st, en⟩ (x.rest (.html st en k ls)) (Sl.ex fun sv : SV => (⟨x.r, x.inn, x.dep, x.l, ⟨x.lx.q, sv, x.lx.cb, x.lx.fv⟩⟩ : DX).rest (.html st en k (ls ++ [l.str]))) l Ln.zero (!b) where
  dep := by show x.dep = _; rw [h0]; rfl
  obs := rfl
  run := by
    refine ⟨_, _, 415, rfl, fun w => meth_htmlBuilder_extend ⟨x.lx.q, 0, none⟩ w, fun w => ahead_htmlBuilder_extend ⟨x.lx.q, 0, none⟩ w, enters_of Tryz.func415 (by kernel_rfl) rfl, fun w F hs => ?_⟩
    have h1 := hs.cast (show _ = row x.lx.q 358 [.bool k.isBlank, x.lx.sv.v, x.lx.fv] * (arr 9 1 x.lx.sv.v x.lx.sv.len (strVals ls) * (k.own x.lx * (Dsp pb oc (x.dv ⟨n, bs, .html st en k ls⟩) p * (cbOwn x.l * (TxsAt 0 (cbTxs x.l) * F))))) from by
      show Dsp pb oc _ p * (cbOwn x.l * (TxsAt 0 (cbTxs x.l) * (row x.lx.q 358 [.bool k.isBlank, x.lx.sv.v, x.lx.fv] * (arr 9 1 x.lx.sv.v x.lx.sv.len (strVals ls) * k.own x.lx))) * F) = _
      ac_rfl)
    refine (htmlExtend_v _ k x.lx ls l b _ w hl hb hfit hn hst hsz h1).mono ?_
    rintro e w' ⟨rfl, sv, s⟩
    refine ⟨rfl, ?_⟩
    have h2 : Sat w' ((Sl.ex fun sv : SV => (⟨x.r, x.inn, x.dep, x.l, ⟨x.lx.q, sv, x.lx.cb, x.lx.fv⟩⟩ : DX).rest (.html st en k (ls ++ [l.str]))) * (Dsp pb oc (x.dv ⟨n, bs, .html st en k ls⟩) p * F)) := by
      refine Sat.ex_mk sv ?_
      refine s.cast ?_
      have hk : k.own ⟨x.lx.q, sv, x.lx.cb, x.lx.fv⟩ = k.own x.lx := by cases k <;> rfl
      show _ = (cbOwn x.l * (TxsAt 0 (cbTxs x.l) * (row x.lx.q 358 [.bool k.isBlank, sv.v, x.lx.fv] * (arr 9 1 sv.v sv.len (strVals (ls ++ [l.str])) * k.own ⟨x.lx.q, sv, x.lx.cb, x.lx.fv⟩)))) * _
      rw [hk]
      ac_rfl
    exact h2.swap

end Go.Proofs.YtbfmmikllelfeaaGreatDoor

/- Lines of a flat document: blocks of HTML; a paragraph begins. -/
namespace Go.Proofs.YtbfmmikllelfeaaGreatDoor
open Go.RowKit Sl

theorem lineOf_str (l : List UInt8 × UInt8) : (LineOf l).str = l.1 := by
  unfold Ln.str
  rw [show (LineOf l).rest = l.1 from lineOf_rest l.1 l.2]
  rfl

theorem fits_sv {k : HK} {x : LX} (h : k.fits x) (sv : SV) : k.fits ⟨x.q, sv, x.cb, x.fv⟩ := by
  cases k <;> exact h

theorem step_html_cont (oc : List Value) (n : Int) (bs : List Blk) (st en : Int) (k : HK) (ls : List (List UInt8)) (l : List UInt8 × UInt8) (hl : l.1.length ≤ 1000000000) (hn : ls.length < 1000000000) (hb : k.isBlank = true → (LineOf l).blank = false) (hst : k.ends l.1 false) :
    Steps oc ⟨n, bs, .html st en k ls⟩ l ⟨n + 1, bs, .html st (if (LineOf l).blank then en else n + 1) k (ls ++ [l.1])⟩ := by
  refine steps_of hl rfl fun pb p x h0 h1 h2 => ?_
  have hA := asks_html (pb := pb) (p := p) (oc := oc) (n := n + 1) (bs := bs) (st := st) (en := en) (ls := ls) x h0 h2 (LineOf l) false (lineOf_ok _ _ (by omega)) hb hn (by rw [lineOf_str]; exact hst) (by rw [lineOf_str]; exact hl)
  rw [lineOf_str] at hA
  have fin : ∀ en', ∀ v3 : DV, v3 = (⟨x.r, x.inn, 1, x.l, x.lx⟩ : DX).dv ⟨n + 1, bs, .html st en' k (ls ++ [l.1])⟩ → Trims pb oc p v3 (Sl.ex fun sv : SV => (⟨x.r, x.inn, x.dep, x.l, ⟨x.lx.q, sv, x.lx.cb, x.lx.fv⟩⟩ : DX).rest (.html st en k (ls ++ [l.1]))) (DocSt pb oc ⟨n + 1, bs, .html st en' k (ls ++ [l.1])⟩ p) := by
    rintro en' _ rfl w F hs
    obtain ⟨sv, h⟩ := hs.swap.ex
    exact trims_stay (ds := ⟨n + 1, bs, .html st en' k (ls ++ [l.1])⟩) ⟨x.r, x.inn, 1, x.l, ⟨x.lx.q, sv, x.lx.cb, x.lx.fv⟩⟩ rfl h1 (fits_sv h2 sv) w F h.swap
  cases hbl : (LineOf l).blank
  · refine ⟨_, _, Ln.zero, zero_ok', ?_, .next 0 _ hA zero_ok' hbl (.done ?_), .inl ⟨rfl, fin (n + 1) _ ?_⟩⟩
    · show (0 : Int) ≤ ((0 : Nat) : Int) + 1 ∧ ((0 : Nat) : Int) + 1 ≤ 1000000000
      decide
    · rfl
    · rfl
  · refine ⟨_, _, Ln.zero, zero_ok', ?_, .pass 0 _ hA zero_ok' hbl (.done ?_), .inl ⟨rfl, fin en _ ?_⟩⟩
    · show (0 : Int) ≤ ((0 : Nat) : Int) + 1 ∧ ((0 : Nat) : Int) + 1 ≤ 1000000000
      decide
    · rfl
    · rfl

theorem step_html_close (oc : List Value) (n : Int) (bs : List Blk) (st en : Int) (k : HK) (ls : List (List UInt8)) (l : List UInt8 × UInt8) (hl : l.1.length ≤ 1000000000) (hn : ls.length < 1000000000) (hbs : bs.length < 1000000) (hb : (LineOf l).blank = false) (hst : k.ends l.1 true) :
    Steps oc ⟨n, bs, .html st en k ls⟩ l ⟨n + 1, bs ++ [.html st (n + 1) (ls ++ [l.1])], .none⟩ := by
  refine steps_of hl rfl fun pb p x h0 h1 h2 => ?_
  have hA := asks_html (pb := pb) (p := p) (oc := oc) (n := n + 1) (bs := bs) (st := st) (en := en) (ls := ls) x h0 h2 (LineOf l) true (lineOf_ok _ _ (by omega)) (fun _ => hb) hn (by rw [lineOf_str]; exact hst) (by rw [lineOf_str]; exact hl)
  rw [lineOf_str] at hA
  refine ⟨_, _, Ln.zero, zero_ok', ?_, .took 0 _ hA hb, .inl ⟨rfl, ?_⟩⟩
  · show 0 ≤ x.dep ∧ x.dep ≤ _
    rw [h0]; decide
  · intro w F hs
    obtain ⟨sv, h⟩ := hs.swap.ex
    exact trims_shut (ds := ⟨n + 1, bs, .html st (n + 1) k (ls ++ [l.1])⟩) ⟨x.r, x.inn, x.dep, x.l, ⟨x.lx.q, sv, x.lx.cb, x.lx.fv⟩⟩ h0 h1 (fits_sv h2 sv) (by intro e; cases e) (html_close oc (n + 1) bs st (n + 1) k (ls ++ [l.1]) hbs) w F h.swap

theorem step_html_end (oc : List Value) (n : Int) (bs : List Blk) (st en : Int) (ls : List (List UInt8)) (l : List UInt8 × UInt8) (hl : l.1.length ≤ 1000000000) (hbs : bs.length < 1000000) (hb : (LineOf l).blank = true) :
    Steps oc ⟨n, bs, .html st en .blank ls⟩ l ⟨n + 1, bs ++ [.html st en ls], .none⟩ := by
  refine steps_of hl rfl fun pb p x h0 h1 h2 => ⟨x.dv ⟨n + 1, bs, .html st en .blank ls⟩, x.rest (.html st en .blank ls), LineOf l, lineOf_ok _ _ (by omega), ?_, .stop 0 ⟨.iface 356 (.pointer (some ⟨x.lx.q, 0, none⟩)), ⟨none, 0, 0⟩, [], st, en⟩ ⟨?_, rfl, ?_⟩, .inl ⟨hb, trims_shut x h0 h1 h2 (by intro e; cases e) (html_close oc (n + 1) bs st en .blank ls hbs)⟩⟩
  · show 0 ≤ x.dep ∧ x.dep ≤ _
    rw [h0]; decide
  · show x.dep = _
    rw [h0]; rfl
  · refine ⟨_, _, 415, rfl, fun w => meth_htmlBuilder_extend ⟨x.lx.q, 0, none⟩ w, fun w => ahead_htmlBuilder_extend ⟨x.lx.q, 0, none⟩ w, enters_of Tryz.func415 (by kernel_rfl) rfl, fun w F hs => ?_⟩
    have h3 := hs.cast (show _ = row x.lx.q 358 [.bool true, x.lx.sv.v, x.lx.fv] * (arr 9 1 x.lx.sv.v x.lx.sv.len (strVals ls) * (Dsp pb oc (x.dv ⟨n + 1, bs, .html st en .blank ls⟩) p * (cbOwn x.l * (TxsAt 0 (cbTxs x.l) * F)))) from by
      show Dsp pb oc _ p * (cbOwn x.l * (TxsAt 0 (cbTxs x.l) * (row x.lx.q 358 [.bool true, x.lx.sv.v, x.lx.fv] * (arr 9 1 x.lx.sv.v x.lx.sv.len (strVals ls) * emp))) * F) = _
      rw [star_emp]
      ac_rfl)
    refine (htmlExtend_blank _ x.lx (LineOf l) _ w (lineOf_ok _ _ (by omega)) hb h3).mono ?_
    rintro e w' ⟨rfl, s⟩
    refine ⟨rfl, s.cast ?_⟩
    show _ = Dsp pb oc _ p * (cbOwn x.l * (TxsAt 0 (cbTxs x.l) * (row x.lx.q 358 [.bool true, x.lx.sv.v, x.lx.fv] * (arr 9 1 x.lx.sv.v x.lx.sv.len (strVals ls) * emp))) * F)
    rw [star_emp]
    ac_rfl

/-- A paragraph begins. -/
theorem step_para_new (oc : List Value) (n : Int) (bs : List Blk) (c : UInt8) (t : List UInt8) (nl : UInt8) (hoc : oc[5]? = some (.bool false)) (hl : (c :: t).length ≤ 1000000000) (hh : Heads (LineOf (c :: t, nl)) c) (hm : NoMarkB c) (hi : NoItemL (LineOf (c :: t, nl))) :
    Steps oc ⟨n, bs, .none⟩ (c :: t, nl) ⟨n + 1, bs, .para (n + 1) (n + 1) [c :: t]⟩ := by
  have hok : (LineOf (c :: t, nl)).OK := lineOf_ok _ _ (by show (c :: t).length ≤ _; omega)
  refine steps_of hl rfl fun pb p x h0 h1 h2 => ⟨x.dv ⟨n + 1, bs, .none⟩, x.rest .none, LineOf (c :: t, nl), hok, ?_, .done ?_, .inr ⟨hh.blank, 0, .para ?_ ?_⟩⟩
  · show 0 ≤ x.dep ∧ x.dep ≤ _
    rw [h0]; decide
  · show x.dep + 1 = _
    rw [h0]; rfl
  · exact notD_all (pre := []) (o := rootOB x.r x.inn (x.l.map CB.v)) rfl (by show x.dep = _; rw [h0]; rfl) rfl hok (typeAssert_root' x.r) hh hm (hi pb p oc _ [] _ _ _ _ rfl (by show x.dep = _; rw [h0]; rfl) rfl (typeAssert_root_list x.r))
  · intro w F hs
    refine (newPara_d pb p oc (x.dv ⟨n + 1, bs, .none⟩) [] (rootOB x.r x.inn (x.l.map CB.v)) _ _ (LineOf (c :: t, nl)) (x.rest .none * F) w hok hoc rfl (by show x.dep = _; rw [h0]; rfl) rfl (by show 1 < _; decide) (typeAssert_root' x.r) (hs.cast (star_assoc _ _ _))).mono ?_
    rintro e w' ⟨rfl, q, g, cap, s⟩
    refine ⟨⟨_, rfl⟩, docSt_mk ⟨x.r, x.inn, x.dep, x.l, ⟨q, ⟨some ⟨g, 0, none⟩, 1, cap⟩, 0, .nilFunc⟩⟩ h1 trivial ?_⟩
    rw [hh.trimL, show (LineOf (c :: t, nl)).rest = c :: t from lineOf_rest _ _] at s
    refine s.cast ?_
    show Dsp pb oc ((⟨x.r, x.inn, x.dep, x.l, ⟨q, ⟨some ⟨g, 0, none⟩, 1, cap⟩, 0, .nilFunc⟩⟩ : DX).dv ⟨n + 1, bs, .para (n + 1) (n + 1) [c :: t]⟩) p * (row q 262 [.slice (some ⟨g, 0, none⟩) 1 cap, .pointer none] * (arr 9 1 (.slice (some ⟨g, 0, none⟩) 1 cap) 1 [.string (B.bs (c :: t))] * (cbOwn x.l * (TxsAt 0 (cbTxs x.l) * emp) * F))) =
      Dsp pb oc ((⟨x.r, x.inn, x.dep, x.l, ⟨q, ⟨some ⟨g, 0, none⟩, 1, cap⟩, 0, .nilFunc⟩⟩ : DX).dv ⟨n + 1, bs, .para (n + 1) (n + 1) [c :: t]⟩) p * (cbOwn x.l * (TxsAt 0 (cbTxs x.l) * (row q 262 [.slice (some ⟨g, 0, none⟩) 1 cap, .pointer none] * arr 9 1 (.slice (some ⟨g, 0, none⟩) 1 cap) 1 [.string (B.bs (c :: t))])) * F)
    rw [star_emp]
    ac_rfl

end Go.Proofs.YtbfmmikllelfeaaGreatDoor
