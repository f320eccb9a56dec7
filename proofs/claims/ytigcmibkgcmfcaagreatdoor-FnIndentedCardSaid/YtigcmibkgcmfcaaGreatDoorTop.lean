/- Walks: the thin package's doors: options, the parser, Parse, HTML. -/
import Derived.Test.YtigcmibkgcmfcaaGreatDoorPa
namespace Go.Proofs.YtigcmibkgcmfcaaGreatDoor
open Go.RowKit Sl

/-- Options, as the program holds them. -/
structure Opt where
  del : Bool
  tasks : Bool
  auto : Bool
  autoHTTP : Bool
  tables : Bool
  dots : Bool
  dashes : Bool
  quotes : Bool
  headID : Bool
  emoji : Bool

def Opt.cells (o : Opt) : List Value := [.bool o.del, .bool o.tasks, .bool o.auto, .bool o.autoHTTP, .bool o.tables, .bool o.dots, .bool o.dashes, .bool o.quotes, .bool o.headID, .bool o.emoji]
def Opt.agg (o : Opt) : Value := .agg #[.bool o.del, .bool o.tasks, .bool o.auto, .bool o.autoHTTP, .bool o.tables, .bool o.dots, .bool o.dashes, .bool o.quotes, .bool o.headID, .bool o.emoji]
/-- The cells of the package's parser. -/
def Opt.pcells (o : Opt) : List Value := [.bool o.headID, .bool o.del, .bool o.tasks, .bool o.auto, .bool o.autoHTTP, .bool o.tables, .bool o.emoji, .bool o.dots, .bool o.dashes, .bool o.quotes]
def plainO : Opt := ⟨false, false, false, false, false, false, false, false, false, false⟩

set_option maxRecDepth 100000 in
set_option maxHeartbeats 400000 in
theorem plain_w (w : World) : Calls Tryz.prog 11 #[] w fun e w' => e = .returned plainO.agg ∧ Below w.heap.size w w' := by
  go_enter Tryz.func11, Tryz.ntmps11
  go_wp2
  refine bodyPost_ret (v := plainO.agg) (by simp [results, Tryz.results11, go_sem, plainO, Opt.agg]) rfl ⟨rfl, ?_⟩
  exact (Below.refl _ _).alloc (Nat.le_refl _) _

set_option maxRecDepth 100000 in
set_option maxHeartbeats 400000 in
theorem parser_w (o : Opt) (w : World) (F : HP) (hs : Sat w F) : Calls Tryz.prog 27 #[o.agg] w fun e w' => ∃ b, e = .returned (.pointer (some ⟨b, 0, none⟩)) ∧ Sat w' (row b 74 o.pcells * F) := by
  unfold Opt.agg
  go_enter Tryz.func27, Tryz.ntmps27
  go_wp2
  go_ret
  have h := ((hs.new o.cells 26 rfl).new o.pcells 74 (d := w.heap.size + 1) (by simp)).drop2
  exact ⟨_, rfl, h⟩

set_option maxRecDepth 100000 in
set_option maxHeartbeats 400000 in
theorem Parse_w (pb : Nat) (text : ByteArray) (W : World) (F : HP) (oc : List Value) (hoc : oc[2]? = some (.bool false)) (hsz : text.size ≤ 1000000000) (hnul : B.findSub [0] text.data.toList = none)
    (hW : Sat W (row pb 74 oc * F)) (K : Nat → List (List UInt8 × UInt8) → HP) (hK : Lines K pb text.data.toList) (T : Nat → SV → Nat → HP) (hT : Ends K T text.data.toList) :
    Calls Tryz.prog 28 #[.pointer (some ⟨pb, 0, none⟩), .string text] W fun e w' => ∃ p tx root, e = .returned (.pointer root) ∧ w'.cell? ⟨p, 1, none⟩ = some (.pointer root) ∧ Sat w' (T p tx tx.len * (row pb 74 oc * F)) := by
  have h := parse_w pb text W F oc hoc hsz hnul hW K hK T hT
  have H := Lib.hid h
  clear h
  go_enter Tryz.func28, Tryz.ntmps28
  go_wp2_with fail
  refine H.out.mono ?_
  rintro e w' ⟨p, tx, root, corner, rfl, hr, hs⟩
  have HS := Lib.hid hs
  clear hs
  go_wp2
  go_ret
  exact ⟨p, tx, root, rfl, hr, HS.out⟩

/-- A text of which it is known what parse makes of it, and what is printed of that. -/
structure Prints (text : ByteArray) (out : ByteArray) : Prop where
  size : text.size ≤ 1000000000
  nul : B.findSub [0] text.data.toList = none
  run : ∀ pb : Nat, ∃ (K : Nat → List (List UInt8 × UInt8) → HP) (T : Nat → SV → Nat → HP), Lines K pb text.data.toList ∧ Ends K T text.data.toList ∧
    ∀ p tx root w G, Sat w (T p tx tx.len * G) → w.cell? ⟨p, 1, none⟩ = some (.pointer root) → Calls Tryz.prog 26 #[.iface 44 (.pointer root)] w fun e w' => e = .returned (.string out) ∧ Sat w' G

set_option maxRecDepth 100000 in
set_option maxHeartbeats 400000 in
theorem HTML_w (o : Opt) (ho : o.tasks = false) (text out : ByteArray) (h : Prints text out) (W : World) (F : HP) (hW : Sat W F) :
    Calls Tryz.prog 10 #[o.agg, .string text] W fun e w' => e = .returned (.string out) ∧ Sat w' F := by
  have HO := Lib.hid (show (o.pcells)[2]? = some (.bool false) from by simp [Opt.pcells, ho])
  have ha : o.agg = .agg #[.bool o.del, .bool o.tasks, .bool o.auto, .bool o.autoHTTP, .bool o.tables, .bool o.dots, .bool o.dashes, .bool o.quotes, .bool o.headID, .bool o.emoji] := rfl
  rw [ha]
  clear ha ho
  have hW1 := (hW.new o.cells 26 rfl).drop1
  go_enter Tryz.func10, Tryz.ntmps10
  go_wp2_with fail
  refine (parser_w o _ F hW1).mono ?_
  rintro e w1 ⟨pb, rfl, h1⟩
  obtain ⟨K, T, hK, hT, hP⟩ := h.run pb
  have HP' := Lib.hid hP
  clear hP
  go_wp2_with fail
  refine (Parse_w pb text w1 F o.pcells HO.out h.size h.nul h1 K hK T hT).mono ?_
  rintro e w2 ⟨p, tx, root, rfl, hr, h2⟩
  go_wp2_with fail
  refine (HP'.out p tx root w2 _ h2 hr).mono ?_
  rintro e w3 ⟨rfl, h3⟩
  go_wp2
  go_ret
  exact ⟨rfl, h3.right⟩

theorem HTML_b (o : Opt) (ho : o.tasks = false) (text out : ByteArray) (h : Prints text out) (W : World) :
    Calls Tryz.prog 10 #[o.agg, .string text] W fun e w' => e = .returned (.string out) ∧ Below W.heap.size W w' :=
  (HTML_w o ho text out h W (Sl.emp * Sl.old W) (by rw [emp_star]; exact Sat.old W)).mono fun _ _ ⟨he, hs⟩ => ⟨he, hs.below⟩

end Go.Proofs.YtigcmibkgcmfcaaGreatDoor
