/- Walks: the thin package's doors: options, the parser, Parse, HTML. -/
import Derived.Test.YtegnaedkalobgaaGreatDoorPa
namespace Go.Proofs.YtegnaedkalobgaaGreatDoor
open Go.RowKit Sl

/-- Options, as the program holds them. -/
structure Opt where
  del : Bool
  tasks : Bool
  auto : Bool
  autoHTTP : Bool
  tables : Bool
  dots : Bool
  dashes : Bool
  quotes : Bool
  headID : Bool
  emoji : Bool

def Opt.cells (o : Opt) : List Value := [.bool o.del, .bool o.tasks, .bool o.auto, .bool o.autoHTTP, .bool o.tables, .bool o.dots, .bool o.dashes, .bool o.quotes, .bool o.headID, .bool o.emoji]
def Opt.agg (o : Opt) : Value := .agg #[.bool o.del, .bool o.tasks, .bool o.auto, .bool o.autoHTTP, .bool o.tables, .bool o.dots, .bool o.dashes, .bool o.quotes, .bool o.headID, .bool o.emoji]
/-- The cells of the package's parser. -/
def Opt.pcells (o : Opt) : List Value := [.bool o.headID, .bool o.del, .bool o.tasks, .bool o.auto, .bool o.autoHTTP, .bool o.tables, .bool o.emoji, .bool o.dots, .bool o.dashes, .bool o.quotes]
def plainO : Opt := ⟨false, false, false, false, false, false, false, false, false, false⟩

set_option maxRecDepth 100000 in
set_option maxHeartbeats 400000 in
theorem plain_w (w : World) : Calls Tryz.prog 6 #[] w fun e w' => e = .returned plainO.agg ∧ Below w.heap.size w w' := by
  go_enter Tryz.func6, Tryz.ntmps6
  go_wp2
  refine bodyPost_ret (v := plainO.agg) (by simp [results, Tryz.results6, go_sem, plainO, Opt.agg]) rfl ⟨rfl, ?_⟩
  exact (Below.refl _ _).alloc (Nat.le_refl _) _

set_option maxRecDepth 100000 in
set_option maxHeartbeats 400000 in
theorem parser_w (o : Opt) (w : World) (F : HP) (hs : Sat w F) : Calls Tryz.prog 10 #[o.agg] w fun e w' => ∃ b, e = .returned (.pointer (some ⟨b, 0, none⟩)) ∧ Sat w' (row b 101 o.pcells * F) := by
  unfold Opt.agg
  go_enter Tryz.func10, Tryz.ntmps10
  go_wp2
  go_ret
  have h := ((hs.new o.cells 30 rfl).new o.pcells 101 (d := w.heap.size + 1) (by simp)).drop2
  exact ⟨_, rfl, h⟩

set_option maxRecDepth 100000 in
set_option maxHeartbeats 400000 in
theorem Parse_w (pb : Nat) (text : ByteArray) (W : World) (F : HP) (oc : List Value) (hoc : oc[2]? = some (.bool false)) (hsz : text.size ≤ 1000000000) (hnul : B.findSub [0] text.data.toList = none)
    (hW : Sat W (row pb 101 oc * F)) (K : Nat → List (List UInt8 × UInt8) → HP) (hK : Lines K pb text.data.toList) (T : Nat → SV → Nat → HP) (hT : Ends K T text.data.toList) :
    Calls Tryz.prog 11 #[.pointer (some ⟨pb, 0, none⟩), .string text] W fun e w' => ∃ p tx root, e = .returned (.pointer root) ∧ w'.cell? ⟨p, 1, none⟩ = some (.pointer root) ∧ Sat w' (T p tx tx.len * (row pb 101 oc * F)) := by
  have h := parse_w pb text W F oc hoc hsz hnul hW K hK T hT
  have H := Lib.hid h
  clear h
  go_enter Tryz.func11, Tryz.ntmps11
  go_wp2_with fail
  refine H.out.mono ?_
  rintro e w' ⟨p, tx, root, corner, rfl, hr, hs⟩
  have HS := Lib.hid hs
  clear hs
  go_wp2
  go_ret
  exact ⟨p, tx, root, rfl, hr, HS.out⟩

/-- A text of which it is known what parse makes of it, and what is printed of that. -/
structure Prints (text : ByteArray) (out : ByteArray) : Prop where
  size : text.size ≤ 1000000000
  nul : B.findSub [0] text.data.toList = none
  run : ∀ pb : Nat, ∃ (K : Nat → List (List UInt8 × UInt8) → HP) (T : Nat → SV → Nat → HP), Lines K pb text.data.toList ∧ Ends K T text.data.toList ∧
    ∀ p tx root w G, Sat w (T p tx tx.len * G) → w.cell? ⟨p, 1, none⟩ = some (.pointer root) → Calls Tryz.prog 12 #[.iface 37 (.pointer root)] w fun e w' => e = .returned (.string out) ∧ Sat w' G

set_option maxRecDepth 100000 in
set_option maxHeartbeats 400000 in
theorem HTML_w (o : Opt) (ho : o.tasks = false) (text out : ByteArray) (h : Prints text out) (W : World) (F : HP) (hW : Sat W F) :
    Calls Tryz.prog 7 #[o.agg, .string text] W fun e w' => e = .returned (.string out) ∧ Sat w' F := by
  have HO := Lib.hid (show (o.pcells)[2]? = some (.bool false) from by simp [Opt.pcells, ho])
  have ha : o.agg = .agg #[.bool o.del, .bool o.tasks, .bool o.auto, .bool o.autoHTTP, .bool o.tables, .bool o.dots, .bool o.dashes, .bool o.quotes, .bool o.headID, .bool o.emoji] := rfl
  rw [ha]
  clear ha ho
  have hW1 := (hW.new o.cells 30 rfl).drop1
  go_enter Tryz.func7, Tryz.ntmps7
  go_wp2_with fail
  refine (parser_w o _ F hW1).mono ?_
  rintro e w1 ⟨pb, rfl, h1⟩
  obtain ⟨K, T, hK, hT, hP⟩ := h.run pb
  have HP' := Lib.hid hP
  clear hP
  go_wp2_with fail
  refine (Parse_w pb text w1 F o.pcells HO.out h.size h.nul h1 K hK T hT).mono ?_
  rintro e w2 ⟨p, tx, root, rfl, hr, h2⟩
  go_wp2_with fail
  refine (HP'.out p tx root w2 _ h2 hr).mono ?_
  rintro e w3 ⟨rfl, h3⟩
  go_wp2
  go_ret
  exact ⟨rfl, h3.right⟩

theorem HTML_b (o : Opt) (ho : o.tasks = false) (text out : ByteArray) (h : Prints text out) (W : World) :
    Calls Tryz.prog 7 #[o.agg, .string text] W fun e w' => e = .returned (.string out) ∧ Below W.heap.size W w' :=
  (HTML_w o ho text out h W (Sl.emp * Sl.old W) (by rw [emp_star]; exact Sat.old W)).mono fun _ _ ⟨he, hs⟩ => ⟨he, hs.below⟩

/-- A text of which it is known what parse makes of it, and what node that is. -/
structure Parses (text : ByteArray) (node : Array Value) : Prop where
  size : text.size ≤ 1000000000
  nul : B.findSub [0] text.data.toList = none
  run : ∀ pb : Nat, ∃ (K : Nat → List (List UInt8 × UInt8) → HP) (T : Nat → SV → Nat → HP), Lines K pb text.data.toList ∧ Ends K T text.data.toList ∧
    ∀ p tx root w G, Sat w (T p tx tx.len * G) → w.cell? ⟨p, 1, none⟩ = some (.pointer root) → Calls Tryz.prog 9 #[.iface 37 (.pointer root)] w fun e w' => e = .returned (.agg node) ∧ Sat w' G

/-- The cells of a node that is zero. -/
def nodeZero : List Value := [.int .i64 0, .string ⟨#[]⟩, .string ⟨#[]⟩, .int .i64 0, .string ⟨#[]⟩, .bool false, .slice none 0 0, .slice none 0 0, .int .i64 0, .int .i64 0, .string ⟨#[]⟩, .int .i64 0, .bool false, .bool false, .bool false, .slice none 0 0]

set_option maxRecDepth 100000 in
set_option maxHeartbeats 1000000 in
theorem implParse_w (o : Opt) (ho : o.tasks = false) (text : ByteArray) (c0 c3 c8 c9 c11 : Int) (c1 c2 c4 c10 : ByteArray) (c5 c12 c13 c14 : Bool) (c6 c7 c15 : SV)
    (h : Parses text #[.int .i64 c0, .string c1, .string c2, .int .i64 c3, .string c4, .bool c5, c6.v, c7.v, .int .i64 c8, .int .i64 c9, .string c10, .int .i64 c11, .bool c12, .bool c13, .bool c14, c15.v]) (W : World) (F : HP) (hW : Sat W F) :
    Calls Tryz.prog 5 #[o.agg, .string text] W fun e w' => e = .returned (.agg #[.int .i64 c0, .string c1, .string c2, .int .i64 c3, .string c4, .bool c5, c6.v, c7.v, .int .i64 c8, .int .i64 c9, .string c10, .int .i64 c11, .bool c12, .bool c13, .bool c14, c15.v]) ∧ Sat w' F := by
  have HO := Lib.hid (show (o.pcells)[2]? = some (.bool false) from by simp [Opt.pcells, ho])
  have ha : o.agg = .agg #[.bool o.del, .bool o.tasks, .bool o.auto, .bool o.autoHTTP, .bool o.tables, .bool o.dots, .bool o.dashes, .bool o.quotes, .bool o.headID, .bool o.emoji] := rfl
  rw [ha]
  clear ha ho
  have hW1 := ((hW.new o.cells 30 rfl).drop1).new nodeZero 27 (d := W.heap.size + 1) (by simp)
  go_enter Tryz.func5, Tryz.ntmps5
  go_wp2_with fail
  refine (parser_w o _ _ hW1).mono ?_
  rintro e w1 ⟨pb, rfl, h1⟩
  obtain ⟨K, T, hK, hT, hP⟩ := h.run pb
  have HP' := Lib.hid hP
  clear hP
  go_wp2_with fail
  refine (Parse_w pb text w1 _ o.pcells HO.out h.size h.nul h1 K hK T hT).mono ?_
  rintro e w2 ⟨p, tx, root, rfl, hr, h2⟩
  go_wp2_with fail
  refine (HP'.out p tx root w2 _ h2 hr).mono ?_
  rintro e w3 ⟨rfl, h3⟩
  have h4 := h3.right
  have n4 : ∀ i v, nodeZero[i]? = some v → w3.cell? ⟨W.heap.size + 1, i, none⟩ = some v := fun i v hi => h4.cell i hi
  have z0 := n4 0 _ rfl
  have z1 := n4 1 _ rfl
  have z2 := n4 2 _ rfl
  have z3 := n4 3 _ rfl
  have z4 := n4 4 _ rfl
  have z5 := n4 5 _ rfl
  have z6 := n4 6 _ rfl
  have z7 := n4 7 _ rfl
  have z8 := n4 8 _ rfl
  have z9 := n4 9 _ rfl
  have z10 := n4 10 _ rfl
  have z11 := n4 11 _ rfl
  have z12 := n4 12 _ rfl
  have z13 := n4 13 _ rfl
  have z14 := n4 14 _ rfl
  have z15 := n4 15 _ rfl
  have nf : ∀ i, w3.frozen? ⟨W.heap.size + 1, i, none⟩ = false := fun i => h4.frozen i
  clear n4
  unfold SV.v
  go_wp2
  refine bodyPost_ret (v := .agg #[.int .i64 c0, .string c1, .string c2, .int .i64 c3, .string c4, .bool c5, c6.v, c7.v, .int .i64 c8, .int .i64 c9, .string c10, .int .i64 c11, .bool c12, .bool c13, .bool c14, c15.v]) (by simp [results, Tryz.results5, go_sem, SV.v, *]) rfl ⟨rfl, ?_⟩
  exact ((((((((((((((((h4.set 0 _).set 1 _).set 2 _).set 3 _).set 4 _).set 5 _).set 6 _).set 7 _).set 8 _).set 9 _).set 10 _).set 11 _).set 12 _).set 13 _).set 14 _).set 15 _).right

theorem implParse_b (o : Opt) (ho : o.tasks = false) (text : ByteArray) (c0 c3 c8 c9 c11 : Int) (c1 c2 c4 c10 : ByteArray) (c5 c12 c13 c14 : Bool) (c6 c7 c15 : SV)
    (h : Parses text #[.int .i64 c0, .string c1, .string c2, .int .i64 c3, .string c4, .bool c5, c6.v, c7.v, .int .i64 c8, .int .i64 c9, .string c10, .int .i64 c11, .bool c12, .bool c13, .bool c14, c15.v]) (W : World) :
    Calls Tryz.prog 5 #[o.agg, .string text] W fun e w' => e = .returned (.agg #[.int .i64 c0, .string c1, .string c2, .int .i64 c3, .string c4, .bool c5, c6.v, c7.v, .int .i64 c8, .int .i64 c9, .string c10, .int .i64 c11, .bool c12, .bool c13, .bool c14, c15.v]) ∧ Below W.heap.size W w' :=
  (implParse_w o ho text c0 c3 c8 c9 c11 c1 c2 c4 c10 c5 c12 c13 c14 c6 c7 c15 h W (Sl.emp * Sl.old W) (by rw [emp_star]; exact Sat.old W)).mono fun _ _ ⟨he, hs⟩ => ⟨he, hs.below⟩

/-- The node of an empty document. -/
def docNode : Array Value := #[.int .i64 1, .string ⟨#[]⟩, .string ⟨#[]⟩, .int .i64 0, .string ⟨#[]⟩, .bool false, .slice none 0 0, .slice none 0 0, .int .i64 0, .int .i64 0, .string ⟨#[]⟩, .int .i64 0, .bool false, .bool false, .bool false, .slice none 0 0]

theorem implParse_doc (o : Opt) (ho : o.tasks = false) (text : ByteArray) (h : Parses text docNode) (W : World) :
    Calls Tryz.prog 5 #[o.agg, .string text] W fun e w' => e = .returned (.agg #[.int .i64 1, .string ⟨#[]⟩, .string ⟨#[]⟩, .int .i64 0, .string ⟨#[]⟩, .bool false, .slice none 0 0, .slice none 0 0, .int .i64 0, .int .i64 0, .string ⟨#[]⟩, .int .i64 0, .bool false, .bool false, .bool false, .slice none 0 0]) ∧ Below W.heap.size W w' :=
  implParse_b o ho text 1 0 0 0 0 ⟨#[]⟩ ⟨#[]⟩ ⟨#[]⟩ ⟨#[]⟩ false false false false ⟨none, 0, 0⟩ ⟨none, 0, 0⟩ ⟨none, 0, 0⟩ h W

/-- A row of bytes that begins with these. -/
def Bytes (w : World) (g : Nat) (l : List UInt8) : Prop := ∀ j (hj : j < l.length), w.cell? ⟨g, j, none⟩ = some (.int .u8 l[j].toNat)

theorem conv_bytes {w : World} {g n c : Nat} {l : List UInt8} (hn : l.length = n) (h : Bytes w g l) : (convert 22 9 (.slice (some ⟨g, 0, none⟩) n c)).run Tryz.prog w = .ok (.string (B.bs l)) w := by
  subst hn
  refine run_convert_bytes_back w 22 9 5 ⟨g, 0, none⟩ c l Tryz.underlying22 Tryz.underlying5 Tryz.underlying9 fun j hj => ?_
  have hadd : (⟨g, 0, none⟩ : Addr).add j = ⟨g, j, none⟩ := by unfold Addr.add; split <;> simp_all
  rw [hadd]
  exact h j hj

theorem Bytes.alloc {w : World} {g : Nat} {l : List UInt8} (hg : g < w.heap.size) (h : Bytes w g l) (o : Obj) : Bytes (w.alloc o) g l := fun j hj => by
  rw [World.cell?_alloc_lt _ _ _ hg]; exact h j hj
theorem Bytes.drew {w : World} {g : Nat} {l : List UInt8} (h : Bytes w g l) : Bytes w.drew g l := h
theorem Bytes.ext {w w' : World} {g : Nat} {l : List UInt8} (hg : g < w.heap.size) (h : Bytes w g l) (hb : Below w.heap.size w w') : Bytes w' g l := fun j hj => (hb.cell (p := ⟨g, j, none⟩) hg).trans (h j hj)

theorem Sl.Sat.bytes {w : World} {g n c : Nat} {l : List UInt8} {F : HP} (h : Sat w (arr 5 1 (.slice (some ⟨g, 0, none⟩) n c) n (l.map fun c => .int .u8 c.toNat) * F)) : Bytes w g l ∧ g < w.heap.size := by
  obtain ⟨junk, _, _, _, _, hr⟩ := h.arr_row
  refine ⟨fun j hj => hr.cell j ?_, hr.row_lt⟩
  rw [List.getElem?_append_left (by simpa using hj)]
  simp [hj]

end Go.Proofs.YtegnaedkalobgaaGreatDoor
