/- What every row's proof here needs: a law that answers true and turns nothing that was there; a world that holds the listed tables. -/
import Derived.Test.YtbfmmikllelfeaaGreatDoorCards
import Derived.Test.YtbfmmikllelfeaaGreatDoorTie
import Derived.WalkKit
import Derived.ProofKit
import Derived.OpenShut
import Derived.ReadAgain
import Derived.Below
import Derived.Deep.Modes
import Derived.Deep.DeepHandedRow
import Derived.Deep.DeepLaidRun
namespace Go.Proofs.YtbfmmikllelfeaaGreatDoor
open Go.ChangeShapes Go.WideShapes Go.ChangeAt Go.RowKit

theorem own : ownKnob Tryz.prog.godebug = none := by kernel_rfl
theorem kids : Kids Tryz.prog (· < Tryz.prog.types.size) := kids_rows (by kernel_rfl) (by kernel_rfl)
theorem full : ∀ t e, t < Tryz.prog.types.size → Tryz.prog.underlying t = some (.slice e) → 0 < Tryz.prog.cellsOf e := slices_full_of Tryz.prog (by kernel_rfl)
theorem bool_is : Tryz.prog.underlying 4 = some .bool := by kernel_rfl

section
variable {H : Type} {enc : TypeId × Value → H} {P : Program}

theorem trodAll_carry {base : Nat} {sp : Nat → Bool} {hd : Bool} {w w' : World} : ∀ {ts : List TypeId} {vs : List Value} {ds : List (DataW H)} {ps : List MemPlace},
    DataW.TrodAll enc P w base sp hd ts vs ds ps → (∀ p ∈ ps, w.sameAt w' p) → DataW.TrodAll enc P w' base sp hd ts vs ds ps
  | [], [], [], _, h, _ => h
  | _ :: _, _ :: _, _ :: _, _, ⟨p, q, ⟨n, h1⟩, h2, e⟩, hs =>
    ⟨p, q, ⟨n, DataW.trod_carry n _ _ _ h1 (fun x hx => hs x (by rw [e]; exact List.mem_append_left _ hx))⟩, trodAll_carry h2 (fun x hx => hs x (by rw [e]; exact List.mem_append_right _ hx)), e⟩

set_option maxRecDepth 100000 in
theorem ok_true {W' : World} {f : Func} (hr : f.resultTypes = #[4]) : ∀ (j : Nat) (t : TypeId) (r : Value), f.resultTypes[j]? = some t → ((Value.bool true).resultList f.resultTypes.size)[j]? = some r → Value.okWide Tryz.prog W' .any 0 t r := by
  intro j t r h1 h2
  rw [hr] at h1 h2
  cases j with
  | succ j => simp at h1
  | zero =>
    simp at h1
    subst h1
    have e : (Value.bool true).resultList (#[4] : Array TypeId).size = [.bool true] := rfl
    rw [e] at h2
    simp at h2
    subst h2
    exact okWide_bool_mk bool_is _

set_option maxRecDepth 100000 in
/-- A law that answers true and leaves what was there as it was answers as the row says. -/
theorem post_true {f : Func} {s : ChangeSpec} {apart fresh handsOn again : Bool} {W W' : World} {args : Array Value} {ds gs : List (DataW H)} {before : List MemPlace}
    (hvars : s.vars = []) (hr : f.resultTypes = #[4]) (hp : ∀ t ∈ f.params.toList, t < Tryz.prog.types.size)
    (hfn : ∀ p, DataW.TrodAll enc Tryz.prog W 0 (fun _ => true) true f.params.toList args.toList ds p → s.fn H ds = { results := [.lit (.bool true)], args := ds })
    (hW : DataW.Whole enc Tryz.prog f.params.toList s.vars apart W args.toList ds gs before) (hb : Below W.heap.size W W') :
    s.post enc Tryz.prog f apart fresh handsOn again W args (.bool true) W' := by
  have hlt := hW.lt
  have hW0 := hW
  obtain ⟨p, q, hA, hV, rfl, hz, hn⟩ := hW
  have hf := hfn p hA
  have hV' : DataW.TrodVars enc Tryz.prog W (fun _ => true) [] gs q := hvars ▸ hV
  obtain ⟨rfl, rfl⟩ := trodVars_none hV'
  have hf' : s.fn H (ds ++ []) = { results := [.lit (.bool true)], args := ds } := by rw [List.append_nil]; exact hf
  have hlt' : ∀ x ∈ p, x.block < W.heap.size := fun x hx => hlt x (by simpa using hx)
  have same : ∀ x ∈ p, W.sameAt W' x := fun x hx => hb.same (hlt' x hx)
  have hA' : DataW.TrodAll enc Tryz.prog W' 0 (fun _ => true) true f.params.toList args.toList ds p := trodAll_carry hA same
  have hargs : ∀ sp : Nat → Bool, (∀ x ∈ p, sp x.block = true) → DataW.TrodAll enc Tryz.prog W' 0 sp true f.params.toList args.toList ds p := fun sp hsp => hA'.respare kids full hp hsp
  have hres : ∀ (b : Nat) (sp : Nat → Bool) (hd : Bool), DataW.TrodAll enc Tryz.prog W' b sp hd f.resultTypes.toList ((Value.bool true).resultList f.resultTypes.size) [.lit (.bool true)] [] := by
    intro b sp hd
    rw [hr]
    exact trodAll_cons_mk (shut_bool bool_is _) trodAll_mk0
  have hvs : ∀ sp : Nat → Bool, DataW.TrodVars enc Tryz.prog W' sp s.vars [] [] := by
    intro sp
    rw [hvars]
    rfl
  have hold : ∀ x ∈ p, (fun b => decide (b < W.heap.size)) x.block = true := fun x hx => by simpa using hlt' x hx
  refine ⟨ds, [], p ++ [], [], p, [], hW0, ?_, ?_, ?_, hb.frame _, fun _ => ⟨ok_true hr, [.lit (.bool true)] ++ ds, [], ([] ++ p) ++ [], ⟨[] ++ p, [], ?_, hvs _, rfl, ?_, ?_⟩, ?_⟩⟩
  · rw [hf']; exact hres _ _ _
  · rw [hf']; exact hargs _ hold
  · rw [hf']; exact hvs _
  · exact trodAll_append (hargs (fun _ => true) (fun _ _ => rfl)) (hres _ _ _)
  · intro b off hx
    have h1 : MemPlace.cell b off ∈ p := by simpa using hx
    rw [hb.frozen (p := ⟨b, off, none⟩) (hlt' _ h1)]
    exact hz b off (by simpa using h1)
  · intro ha
    simpa using hn ha
  · intro x hx _
    simpa using hx
end

theorem and_mk {a b : Bool} (h : a = true) (k : b = true) : (a && b) = true := by rw [h, k]; rfl
/-- The closed facts of a row, one by one: in one run of the kernel they are too great. -/
theorem facts_of {P : Program} {f : FuncId} {fn : Func} {s : ChangeSpec} {c : OpenClaim} (h0 : c.wf (OpenSpec.ofChange s) = true) (h1 : laidOutB P = true) (h2 : mapsRowed P = true) (h3 : fn.params.all (P.readableRec ·) = true) (h4 : namedTie P c.named s.vars = true) (h5 : (c.stops == []) = true) (h6 : (P.stops == []) = true) (h7 : (c.knobs == []) = true) (h8 : (P.stopKnobs == []) = true) (h9 : (c.inPlace == P.inPlace f) = true) (h10 : (c.unfollowed == P.unfollowed f) = true) (h11 : (c.recurses == P.recurses f) = true) (h12 : (c.named == P.varsNamed f) = true) (h13 : (c.maps == (fn.params.toList ++ s.plain.varTypes P).any (P.mapsRec ·)) = true) (h14 : (c.ifaces == (fn.params.toList ++ s.plain.varTypes P).any (P.ifacesRec ·)) = true) (h15 : (c.mapsOut == P.mapsAmong fn.resultTypes.toList) = true) (h16 : (c.loops == (fn.params.toList ++ s.plain.varTypes P).any (P.loopsFrom ·)) = true) (h17 : (c.wideKeys == (fn.params.toList ++ s.plain.varTypes P ++ fn.resultTypes.toList).any (P.wideKeysFrom ·)) = true) (h18 : s.vars.all (P.varReadable ·) = true) (h19 : fn.resultTypes.all (fun t => P.readableRec t && decide (t < P.types.size)) = true) (h20 : (c.ifacesOut == fn.resultTypes.toList.any (P.ifacesRec ·)) = true) (h21 : (c.loopsOut == fn.resultTypes.toList.any (P.loopsFrom ·)) = true) (h22 : (c.plainKeys == P.plainKeys) = true) (h23 : c.shortTexts.isNone = true) (h24 : P.stopsHeard = true) (h25 : P.mayEnter = true) (h26 : (c.lifted == P.liftsFinal) = true) (h27 : (P.make == some c.make) = true) (h28 : (c.kinds == (if c.domain.isEmpty then [] else fn.params.toList.map fun t => match P.underlying t with | some (.int k) => some k | _ => none)) = true) (h29 : (c.pinned == c.pinnedBy) = true) (h30 : (c.veiled == (fn.params.toList ++ s.plain.varTypes P ++ fn.resultTypes.toList).any (P.veiledRec ·)) = true) (h31 : c.veiledFits P fn.params.toList (fn.params.toList ++ s.plain.varTypes P ++ fn.resultTypes.toList) = true) : joinedFacts P f fn s c = true :=
  (and_mk (and_mk (and_mk (and_mk (and_mk (and_mk (and_mk (and_mk (and_mk (and_mk (and_mk (and_mk (and_mk (and_mk (and_mk (and_mk (and_mk (and_mk (and_mk (and_mk (and_mk (and_mk (and_mk (and_mk (and_mk (and_mk (and_mk (and_mk (and_mk (and_mk (and_mk h0 h1) h2) h3) h4) h5) h6) h7) h8) h9) h10) h11) h12) h13) h14) h15) h16) h17) h18) h19) h20) h21) h22) h23) h24) h25) h26) h27) h28) h29) h30) h31)
theorem fact1 : laidOutB Tryz.prog = true := by kernel_rfl
theorem fact2 : mapsRowed Tryz.prog = true := by kernel_rfl
theorem fact6 : (Tryz.prog.stops == []) = true := by kernel_rfl
theorem fact8 : (Tryz.prog.stopKnobs == []) = true := by kernel_rfl
theorem fact22 : Tryz.prog.plainKeys = Rows.fnBalancedRow.plainKeys := by kernel_rfl
theorem fact24 : Tryz.prog.stopsHeard = true := by kernel_rfl
theorem fact25 : Tryz.prog.mayEnter = true := by kernel_rfl
theorem fact26 : Tryz.prog.liftsFinal = Rows.fnBalancedRow.lifted := by kernel_rfl
theorem fact27 : Tryz.prog.make = some Rows.fnBalancedRow.make := by kernel_rfl

/-! A world that holds what the rows list. -/
mutual
def flat : DataW Unit → List Value
  | .lit l => [l.value]
  | .agg l => flatAll l
  | _ => []
def flatAll : List (DataW Unit) → List Value
  | [] => []
  | d :: l => flat d ++ flatAll l
end

def laidIn (g : Nat) (l : List Value) (h : Array Obj) : Array Obj := h.modify g fun
  | .cells _ t frozen => .cells l.toArray t frozen
  | o => o
noncomputable def low : Nat := (World.holding Tryz.prog default ⟨#[], #[], []⟩).heap.size
def textOf (d : DataW Unit) : List Value := match d with | .iface _ (.ptr d) => flat d | _ => []
noncomputable def laidWorld (os : Os) : World :=
  let w0 := World.holding Tryz.prog os ⟨#[.cells (textOf Rows.laid_strconv_ErrSyntax).toArray 382, .cells (textOf Rows.laid_strconv_ErrRange).toArray 382], #[], []⟩
  { w0 with heap := laidIn 1 (flat Rows.laid_pub_paratext_pub_rscmarkdown_htmlEntities) (laidIn 2 (flat Rows.laid_unicode_utf8_first) (laidIn 3 (flat Rows.laid_unicode_utf8_acceptRanges)
      (laidIn 4 [.iface 380 (.pointer (some ⟨low, 0, none⟩))] (laidIn 5 [.iface 380 (.pointer (some ⟨low + 1, 0, none⟩))]
      (laidIn 6 (flat Rows.laid_internal_strconv_uint64pow10) (laidIn 7 (flat Rows.laid_math_bits_deBruijn32tab) (laidIn 8 (flat Rows.laid_math_bits_deBruijn64tab) w0.heap))))))) }

end Go.Proofs.YtbfmmikllelfeaaGreatDoor
