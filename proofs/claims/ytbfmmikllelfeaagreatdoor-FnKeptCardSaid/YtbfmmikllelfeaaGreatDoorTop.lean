/- Walks: the thin package's doors: options, the parser, Parse, HTML. -/
import Derived.Test.YtbfmmikllelfeaaGreatDoorP1
namespace Go.Proofs.YtbfmmikllelfeaaGreatDoor
open Go.RowKit Sl

/-- Options, as the program holds them. -/
structure Opt where
  del : Bool
  tasks : Bool
  auto : Bool
  autoHTTP : Bool
  tables : Bool
  dots : Bool
  dashes : Bool
  quotes : Bool
  headID : Bool
  emoji : Bool

def Opt.cells (o : Opt) : List Value := [.bool o.del, .bool o.tasks, .bool o.auto, .bool o.autoHTTP, .bool o.tables, .bool o.dots, .bool o.dashes, .bool o.quotes, .bool o.headID, .bool o.emoji]
def Opt.agg (o : Opt) : Value := .agg #[.bool o.del, .bool o.tasks, .bool o.auto, .bool o.autoHTTP, .bool o.tables, .bool o.dots, .bool o.dashes, .bool o.quotes, .bool o.headID, .bool o.emoji]
/-- The cells of the package's parser. -/
def Opt.pcells (o : Opt) : List Value := [.bool o.headID, .bool o.del, .bool o.tasks, .bool o.auto, .bool o.autoHTTP, .bool o.tables, .bool o.emoji, .bool o.dots, .bool o.dashes, .bool o.quotes]
def plainO : Opt := ⟨false, false, false, false, false, false, false, false, false, false⟩

set_option maxRecDepth 100000 in
set_option maxHeartbeats 400000 in
theorem plain_w (w : World) : Calls Tryz.prog 19 #[] w fun e w' => e = .returned plainO.agg ∧ Below w.heap.size w w' := by
  go_enter Tryz.func19, Tryz.ntmps19
  go_wp2
  refine bodyPost_ret (v := plainO.agg) (by simp [results, Tryz.results19, go_sem, plainO, Opt.agg]) rfl ⟨rfl, ?_⟩
  exact (Below.refl _ _).alloc (Nat.le_refl _) _

set_option maxRecDepth 100000 in
set_option maxHeartbeats 400000 in
theorem parser_w (o : Opt) (w : World) (F : HP) (hs : Sat w F) : Calls Tryz.prog 45 #[o.agg] w fun e w' => ∃ b, e = .returned (.pointer (some ⟨b, 0, none⟩)) ∧ Sat w' (row b 105 o.pcells * F) := by
  unfold Opt.agg
  go_enter Tryz.func45, Tryz.ntmps45
  go_wp2
  go_ret
  have h := ((hs.new o.cells 27 rfl).new o.pcells 105 (d := w.heap.size + 1) (by simp)).drop2
  exact ⟨_, rfl, h⟩

set_option maxRecDepth 100000 in
set_option maxHeartbeats 400000 in
theorem Parse_w (pb : Nat) (text : ByteArray) (W : World) (F : HP) (oc : List Value) (hoc : oc[2]? = some (.bool false)) (hsz : text.size ≤ 1000000000) (hnul : B.findSub [0] text.data.toList = none)
    (hW : Sat W (row pb 105 oc * F)) (K : Nat → List (List UInt8 × UInt8) → HP) (hK : Lines K pb text.data.toList) (T : Nat → SV → Nat → HP) (hT : Ends K T text.data.toList) :
    Calls Tryz.prog 46 #[.pointer (some ⟨pb, 0, none⟩), .string text] W fun e w' => ∃ p tx root, e = .returned (.pointer root) ∧ w'.cell? ⟨p, 1, none⟩ = some (.pointer root) ∧ Sat w' (T p tx tx.len * (row pb 105 oc * F)) := by
  have h := parse_w pb text W F oc hoc hsz hnul hW K hK T hT
  have H := Lib.hid h
  clear h
  go_enter Tryz.func46, Tryz.ntmps46
  go_wp2_with fail
  refine H.out.mono ?_
  rintro e w' ⟨p, tx, root, corner, rfl, hr, hs⟩
  have HS := Lib.hid hs
  clear hs
  go_wp2
  go_ret
  exact ⟨p, tx, root, rfl, hr, HS.out⟩

/-- A text of which it is known what parse makes of it, and what is printed of that. -/
structure Prints (text : ByteArray) (out : ByteArray) : Prop where
  size : text.size ≤ 1000000000
  nul : B.findSub [0] text.data.toList = none
  run : ∀ pb : Nat, ∃ (K : Nat → List (List UInt8 × UInt8) → HP) (T : Nat → SV → Nat → HP), Lines K pb text.data.toList ∧ Ends K T text.data.toList ∧
    ∀ p tx root w G, Sat w (T p tx tx.len * G) → w.cell? ⟨p, 1, none⟩ = some (.pointer root) → Calls Tryz.prog 44 #[.iface 80 (.pointer root)] w fun e w' => e = .returned (.string out) ∧ Sat w' G

set_option maxRecDepth 100000 in
set_option maxHeartbeats 400000 in
theorem HTML_w (o : Opt) (ho : o.tasks = false) (text out : ByteArray) (h : Prints text out) (W : World) (F : HP) (hW : Sat W F) :
    Calls Tryz.prog 13 #[o.agg, .string text] W fun e w' => e = .returned (.string out) ∧ Sat w' F := by
  have HO := Lib.hid (show (o.pcells)[2]? = some (.bool false) from by simp [Opt.pcells, ho])
  have ha : o.agg = .agg #[.bool o.del, .bool o.tasks, .bool o.auto, .bool o.autoHTTP, .bool o.tables, .bool o.dots, .bool o.dashes, .bool o.quotes, .bool o.headID, .bool o.emoji] := rfl
  rw [ha]
  clear ha ho
  have hW1 := (hW.new o.cells 27 rfl).drop1
  go_enter Tryz.func13, Tryz.ntmps13
  go_wp2_with fail
  refine (parser_w o _ F hW1).mono ?_
  rintro e w1 ⟨pb, rfl, h1⟩
  obtain ⟨K, T, hK, hT, hP⟩ := h.run pb
  have HP' := Lib.hid hP
  clear hP
  go_wp2_with fail
  refine (Parse_w pb text w1 F o.pcells HO.out h.size h.nul h1 K hK T hT).mono ?_
  rintro e w2 ⟨p, tx, root, rfl, hr, h2⟩
  go_wp2_with fail
  refine (HP'.out p tx root w2 _ h2 hr).mono ?_
  rintro e w3 ⟨rfl, h3⟩
  go_wp2
  go_ret
  exact ⟨rfl, h3.right⟩

theorem HTML_b (o : Opt) (ho : o.tasks = false) (text out : ByteArray) (h : Prints text out) (W : World) :
    Calls Tryz.prog 13 #[o.agg, .string text] W fun e w' => e = .returned (.string out) ∧ Below W.heap.size W w' :=
  (HTML_w o ho text out h W (Sl.emp * Sl.old W) (by rw [emp_star]; exact Sat.old W)).mono fun _ _ ⟨he, hs⟩ => ⟨he, hs.below⟩

end Go.Proofs.YtbfmmikllelfeaaGreatDoor

/- Parse, where what the parser reads of the world goes along: LinesG, parseG_w; the doors above. -/
namespace Go.Proofs.YtbfmmikllelfeaaGreatDoor
open Go.RowKit Sl

/-- As Lines; G0 is owned from the beginning on. -/
structure LinesG (G0 : HP) (K : Nat → List (List UInt8 × UInt8) → HP) (pb : Nat) (text : List UInt8) : Prop where
  first : ∀ p r g cap w F, Sat w (row p 173 (PSt.first pb g cap bt0).cells * (arr 197 4 (.slice (some ⟨g, 0, none⟩) 1 cap) 1 [.iface 176 (.pointer (some ⟨r, 0, none⟩)), .slice none 0 0, .int .i64 0, .int .i64 0] * (G0 * F))) → Sat w (K p [] * F)
  next : ∀ p done l rest w F, B.lines text = done ++ l :: rest → Sat w (K p done * F) → ∃ x G, x.lineno = (done.length : Int) ∧ Sat w (row p 173 (PSt.cells x) * (G * F)) ∧
    ∀ w', Sat w' (row p 173 { x with lineno := (done.length : Int) + 1 }.cells * (G * F)) → Calls Tryz.prog 90 #[.pointer (some ⟨p, 0, none⟩), (LineOf l).agg] w' fun e w'' => e = .returned (.tuple #[]) ∧ Sat w'' (K p (done ++ [l]) * F)

set_option maxRecDepth 100000 in
set_option maxHeartbeats 2000000 in
theorem parseG_w (pb : Nat) (text : ByteArray) (W : World) (G0 F : HP) (oc : List Value) (hoc : oc[2]? = some (.bool false)) (hsz : text.size ≤ 1000000000) (hnul : B.findSub [0] text.data.toList = none)
    (hW : Sat W (row pb 105 oc * (G0 * F))) (K : Nat → List (List UInt8 × UInt8) → HP) (hK : LinesG G0 K pb text.data.toList) (T : Nat → SV → Nat → HP) (hT : Ends K T text.data.toList) :
    Calls Tryz.prog 68 #[.pointer (some ⟨pb, 0, none⟩), .string text] W fun e w' => ∃ p tx root corner, e = .returned (.tuple #[.pointer root, .bool corner]) ∧ w'.cell? ⟨p, 1, none⟩ = some (.pointer root) ∧ Sat w' (T p tx tx.len * (row pb 105 oc * F)) := by
  have hlp := hW.row_lt
  have hf : (B.findSub (⟨#[0]⟩ : ByteArray).data.toList text.data.toList).isSome = false := by rw [show (⟨#[0]⟩ : ByteArray).data.toList = [0] from rfl, hnul]; rfl
  go_enter Tryz.func68, Tryz.ntmps68
  go_wp2_with fail
  refine (zzContains_w text _ _ (by omega) (by decide)).mono ?_
  rintro e w1 ⟨rfl, rfl⟩
  rw [hf]
  go_wp2_with fail
  have h0 : (Tryz.zeroCells173.setIfInBounds 0 (.pointer (some ⟨pb, 0, none⟩))).setIfInBounds 5 (.int .i64 (-1)) =
      (PSt.cells { parser := some ⟨pb, 0, none⟩, root := none, links := none, lineno := 0, stack := ⟨none, 0, 0⟩, depth := -1, corner := false, s := ⟨#[]⟩, emitted := 0, list := ⟨none, 0, 0⟩, lists := ⟨none, 0, 0⟩, texts := ⟨none, 0, 0⟩, bt := bt0 }).toArray := by
    apply Array.toList_inj.1
    rw [Array.toList_setIfInBounds, Array.toList_setIfInBounds, zeroCells_PSt]
    rfl
  rw [h0]
  have h1 := ((hW.new (PSt.cells { parser := some ⟨pb, 0, none⟩, root := none, links := none, lineno := 0, stack := ⟨none, 0, 0⟩, depth := -1, corner := false, s := ⟨#[]⟩, emitted := 0, list := ⟨none, 0, 0⟩, lists := ⟨none, 0, 0⟩, texts := ⟨none, 0, 0⟩, bt := bt0 }) 173 rfl).new [] 178 (d := W.heap.size + 1) (by simp)).drop1
  have h2 := h1.cast (show _ = row W.heap.size 173 _ * (arr 197 4 (.slice none 0 0) 0 [] * (row pb 105 oc * (G0 * F))) from by rw [arr_nil, emp_star])
  clear h1 h0
  refine (addBlock_w _ 0 _ _ _ _ _ _ (by decide) rfl rfl h2).mono ?_
  rintro e w1 ⟨rfl, g, cap, h3⟩
  have h4 := hK.first _ _ _ _ _ (row pb 105 oc * F) (h3.cast (by ac_rfl))
  clear h2 h3
  generalize W.heap.size = p at *
  go_wp2_with fail
  go_loopw [1] (fun t wr => ∃ done rest, B.lines text.data.toList = done ++ B.lines rest ∧ rest.length ≤ text.size ∧ t = .string (B.bs rest) ∧ Sat wr (K p done * (row pb 105 oc * F))) (fun t _ => strLen t)
  case atStart => exact ⟨[], text.data.toList, rfl, by rw [B.size_data]; omega, rfl, h4⟩
  case round =>
    obtain ⟨done, rest, hl, hrl, rfl, hs⟩ := hrel
    by_cases hne : rest = []
    · subst hne
      rw [B.lines_nil, List.append_nil] at hl
      rw [← hl] at hs
      have hcl := hT.close p wr _ hs
      have HCL := Lib.hid hcl
      have HL := Lib.hid hl
      have he : (B.bs []).toList.isEmpty = true := by rw [Lib.toList_data]; rfl
      clear hl hcl hs h4
      go_wp2_with fail
      refine HCL.out.mono ?_
      rintro e w2 ⟨rfl, tx, htx, h5⟩
      obtain ⟨x, G, hx, h6⟩ := hT.state _ _ _ _ _ h5
      have e11 := (PSt.facts h6).2.2.2.2.2.2.2.2.2.2.2.1
      rw [hx] at e11
      clear h6 hx
      go_wp2
      have htab : tx.len = 0 ∨ ∃ a, tx.a = some ⟨a, 0, none⟩ := by
        by_cases h0 : tx.len = 0
        · exact .inl h0
        · obtain ⟨a, tb, raw, ha, _⟩ := hT.text _ _ _ _ _ h5 (by omega)
          exact .inr ⟨a, ha⟩
      obtain ⟨ta, tn, tc⟩ := tx
      simp only at htab htx
      rcases htab with rfl | ⟨a, rfl⟩
      · go_loopw [83] (fun t wx => t = .int .i64 0 ∧ Sat wx (T p ⟨ta, 0, tc⟩ 0 * (row pb 105 oc * F))) (fun t _ => 1000000000 - (intOf t).toNat)
        case atStart => exact ⟨rfl, h5⟩
        case round =>
          obtain ⟨rfl, h6⟩ := hrel
          have c2 : wr.cell? ⟨pb, 2, none⟩ = some (.bool false) := h6.swap.cell 2 hoc
          obtain ⟨y, G2, hy, h8⟩ := hT.state _ _ _ _ _ h6
          obtain ⟨f0, f1, f2, f3, f4, f5, f6, f7, f8, f9, f10, f11, fz, hlp⟩ := PSt.facts h8
          clear f0 f2 f3 f4 f5 f7 f8 f9 f10 f11 fz hy h8
          go_wp2
          go_quiet (fail)
          go_wp2
          go_ret2
          exact ⟨p, _, y.root, y.corner, rfl, f1, h6.drewN _⟩
      · go_loopw [83] (fun t wx => ∃ k : Nat, k ≤ tn ∧ t = .int .i64 k ∧ Sat wx (T p ⟨some ⟨a, 0, none⟩, tn, tc⟩ k * (row pb 105 oc * F))) (fun t _ => tn - (intOf t).toNat)
        case atStart => exact ⟨0, Nat.zero_le _, rfl, h5⟩
        case round =>
          obtain ⟨k, hk, rfl, h6⟩ := hrel
          by_cases hlt : k < tn
          · obtain ⟨a', tb, raw, ha, ca, cr, hin⟩ := hT.text _ _ _ _ _ h6 hlt
            simp only [Option.some.injEq, Addr.mk.injEq, and_self, and_true] at ha
            subst ha
            have HIN := Lib.hid hin
            clear hin
            go_wp2_with fail
            refine HIN.out.mono ?_
            rintro e w3 ⟨v, rfl, ⟨u, hu⟩, hfz, h7⟩
            unfold SV.v at h7 ⊢
            go_wp2
            go_roundw
            case rel => first | exact ⟨k + 1, by omega, by go_num, h7⟩ | ((repeat apply Exists.intro); exact ⟨⟨k + 1, by omega, by go_num, h7⟩, rfl⟩)
            case measure => simp [intOf]; omega
          · obtain rfl : k = tn := by omega
            have c2 : wr.cell? ⟨pb, 2, none⟩ = some (.bool false) := h6.swap.cell 2 hoc
            obtain ⟨y, G2, hy, h8⟩ := hT.state _ _ _ _ _ h6
            obtain ⟨f0, f1, f2, f3, f4, f5, f6, f7, f8, f9, f10, f11, fz, hlp⟩ := PSt.facts h8
            clear f0 f2 f3 f4 f5 f7 f8 f9 f10 f11 fz hy h8
            go_wp2
            go_quiet (fail)
            go_wp2
            go_ret2
            exact ⟨p, _, y.root, y.corner, rfl, f1, h6.drewN _⟩
    · have he : (B.bs rest).toList.isEmpty = false := by
        rw [Lib.toList_data, B.bs_data]
        cases rest with
        | nil => exact absurd rfl hne
        | cons => rfl
      have hz : (B.bs rest).size ≤ 1000000000000 := by rw [B.bs_size]; omega
      have bi := B.idx_lt rest 10
      have bj := B.idx_lt rest 13
      have zi := zzIndex_nl rest wr hz
      have zj := zzIndex_cr rest wr hz
      have nl : B.nextLine rest = B.nextLine rest := rfl
      conv at nl => rhs; unfold B.nextLine
      generalize B.idx rest [10] = ii at *
      generalize B.idx rest [13] = jj at *
      have NL := Lib.hid nl
      have ZI := Lib.hid zi
      have ZJ := Lib.hid zj
      clear nl zi zj
      have bi2 : ii < ((B.bs rest).size : Int) := bi.2
      have bj2 : jj < ((B.bs rest).size : Int) := bj.2
      have bi1 := bi.1
      have bj1 := bj.1
      clear bi bj
      go_wp2_with fail
      refine ZI.out.mono ?_
      rintro e w1 ⟨rfl, rfl⟩
      go_wp2_with fail
      refine ZJ.out.mono ?_
      rintro e w1 ⟨rfl, rfl⟩
      go_upto_block 2 with fail
      go_cut [1, 7, 10] (fun t1 t7 t10 wx => t1 = .string (B.bs (B.nextLine rest).2) ∧ t7 = .string (B.bs (B.nextLine rest).1.1) ∧ t10 = .int .u8 ((B.nextLine rest).1.2).toNat ∧ ∃ n, wx = wr.drewN n)
      case first =>
        by_cases hA : 0 ≤ jj ∧ (ii < 0 ∨ jj < ii)
        · obtain ⟨j, rfl⟩ := Int.eq_ofNat_of_zero_le hA.1
          have e1 : B.bs (List.take j rest) = (B.bs rest).extract 0 j := by rw [B.extract_zero, B.bs_data]
          have e2 : ∀ k, B.bs (List.drop k rest) = (B.bs rest).extract k (B.bs rest).size := fun k => by rw [B.extract_end, B.bs_data]
          have E1 := Lib.hid e1
          have E2 := Lib.hid e2
          clear e1 e2
          go_wp2
          all_goals
            go_meet
            have n1 := NL.out
            rw [if_pos hA] at n1
            simp only [Int.toNat_natCast] at n1
            first
              | (have h : (ii == (j : Int) + 1) = true := by assumption
                 rw [if_pos (by simpa using h)] at n1
                 rw [n1]
                 exact ⟨by rw [E2.out], by rw [E1.out], rfl, 0, rfl⟩)
              | (have h : (ii == (j : Int) + 1) = false := by assumption
                 rw [if_neg (by simpa using h)] at n1
                 rw [n1]
                 exact ⟨by rw [E2.out], by rw [E1.out], rfl, 0, rfl⟩)
        · have n1 := NL.out
          rw [if_neg hA] at n1
          have N1 := Lib.hid n1
          clear n1
          by_cases hB : 0 ≤ ii
          · obtain ⟨i, rfl⟩ := Int.eq_ofNat_of_zero_le hB
            have e1 : B.bs (List.take i rest) = (B.bs rest).extract 0 i := by rw [B.extract_zero, B.bs_data]
            have e2 : B.bs (List.drop (i + 1) rest) = (B.bs rest).extract (i + 1) (B.bs rest).size := by rw [B.extract_end, B.bs_data]
            have E1 := Lib.hid e1
            have E2 := Lib.hid e2
            clear e1 e2
            by_cases hj0 : 0 ≤ jj
            all_goals
              go_wp2
              go_quiet (fail)
              go_wp2
              go_meet
              have n1 := N1.out
              rw [if_pos hB] at n1
              simp only [Int.toNat_natCast] at n1
              rw [n1]
              exact ⟨by rw [E2.out], by rw [E1.out], rfl, _, rfl⟩
          · have hj0 : ¬ 0 ≤ jj := by omega
            go_wp2
            go_meet
            have n1 := N1.out
            rw [if_neg (by omega)] at n1
            rw [n1]
            exact ⟨rfl, rfl, rfl, 0, rfl⟩
      case rest =>
        obtain ⟨rfl, rfl, rfl, n, rfl⟩ := hcut
        have hl2 := B.lines_cons hne
        have hlen := B.nextLine_lt hne
        rw [hl2] at hl
        obtain ⟨x, G, hx, hsx, hadd⟩ := hK.next p done _ _ _ _ hl hs
        obtain ⟨f0, f1, f2, f3, f4, f5, f6, f7, f8, f9, f10, f11, fz, hlp⟩ := PSt.facts hsx
        rw [hx] at f3
        have HADD := Lib.hid hadd
        have HL := Lib.hid hl
        have HX := Lib.hid hx
        have hdl : done.length ≤ 1000000000 := by
          have h1 := B.lines_length text.data.toList
          have h2 := congrArg List.length hl
          rw [List.length_append] at h2
          rw [← B.size_data] at h1
          omega
        clear f0 f1 f2 f4 f5 f6 f7 f8 f9 f10 f11 hadd hl hl2 ZI ZJ NL hx
        go_wp2_with fail
        refine (HADD.out _ ?_).mono ?_
        · exact (hsx.set 3 _).drewN n
        rintro e w2 ⟨rfl, h5⟩
        go_wp2
        go_roundw
        case rel => exact ⟨done ++ [(B.nextLine rest).1], (B.nextLine rest).2, by rw [HL.out, List.append_assoc]; rfl, by omega, rfl, h5⟩
        case measure => simp [strLen, B.bs_size]; omega


set_option maxRecDepth 100000 in
set_option maxHeartbeats 400000 in
theorem ParseG_w (pb : Nat) (text : ByteArray) (W : World) (G0 F : HP) (oc : List Value) (hoc : oc[2]? = some (.bool false)) (hsz : text.size ≤ 1000000000) (hnul : B.findSub [0] text.data.toList = none)
    (hW : Sat W (row pb 105 oc * (G0 * F))) (K : Nat → List (List UInt8 × UInt8) → HP) (hK : LinesG G0 K pb text.data.toList) (T : Nat → SV → Nat → HP) (hT : Ends K T text.data.toList) :
    Calls Tryz.prog 46 #[.pointer (some ⟨pb, 0, none⟩), .string text] W fun e w' => ∃ p tx root, e = .returned (.pointer root) ∧ w'.cell? ⟨p, 1, none⟩ = some (.pointer root) ∧ Sat w' (T p tx tx.len * (row pb 105 oc * F)) := by
  have h := parseG_w pb text W G0 F oc hoc hsz hnul hW K hK T hT
  have H := Lib.hid h
  clear h
  go_enter Tryz.func46, Tryz.ntmps46
  go_wp2_with fail
  refine H.out.mono ?_
  rintro e w' ⟨p, tx, root, corner, rfl, hr, hs⟩
  have HS := Lib.hid hs
  clear hs
  go_wp2
  go_ret
  exact ⟨p, tx, root, rfl, hr, HS.out⟩


/-- A text of which it is known what parse makes of it, and what is printed of that. -/
structure PrintsG (G0 : HP) (text : ByteArray) (out : ByteArray) : Prop where
  size : text.size ≤ 1000000000
  nul : B.findSub [0] text.data.toList = none
  run : ∀ pb : Nat, ∃ (K : Nat → List (List UInt8 × UInt8) → HP) (T : Nat → SV → Nat → HP), LinesG G0 K pb text.data.toList ∧ Ends K T text.data.toList ∧
    ∀ p tx root w G, Sat w (T p tx tx.len * G) → w.cell? ⟨p, 1, none⟩ = some (.pointer root) → Calls Tryz.prog 44 #[.iface 80 (.pointer root)] w fun e w' => e = .returned (.string out) ∧ Sat w' (G0 * G)

set_option maxRecDepth 100000 in
set_option maxHeartbeats 400000 in
theorem HTMLG_w (o : Opt) (ho : o.tasks = false) (text out : ByteArray) (G0 : HP) (h : PrintsG G0 text out) (W : World) (F : HP) (hW : Sat W (G0 * F)) :
    Calls Tryz.prog 13 #[o.agg, .string text] W fun e w' => e = .returned (.string out) ∧ Sat w' (G0 * F) := by
  have HO := Lib.hid (show (o.pcells)[2]? = some (.bool false) from by simp [Opt.pcells, ho])
  have ha : o.agg = .agg #[.bool o.del, .bool o.tasks, .bool o.auto, .bool o.autoHTTP, .bool o.tables, .bool o.dots, .bool o.dashes, .bool o.quotes, .bool o.headID, .bool o.emoji] := rfl
  rw [ha]
  clear ha ho
  have hW1 := (hW.new o.cells 27 rfl).drop1
  go_enter Tryz.func13, Tryz.ntmps13
  go_wp2_with fail
  refine (parser_w o _ _ hW1).mono ?_
  rintro e w1 ⟨pb, rfl, h1⟩
  obtain ⟨K, T, hK, hT, hP⟩ := h.run pb
  have HP' := Lib.hid hP
  clear hP
  go_wp2_with fail
  refine (ParseG_w pb text w1 G0 F o.pcells HO.out h.size h.nul h1 K hK T hT).mono ?_
  rintro e w2 ⟨p, tx, root, rfl, hr, h2⟩
  go_wp2_with fail
  refine (HP'.out p tx root w2 _ h2 hr).mono ?_
  rintro e w3 ⟨rfl, h3⟩
  go_wp2
  go_ret
  exact ⟨rfl, h3.drop2⟩


/-- The same, where the whole old world goes along. -/
theorem HTMLG_b (o : Opt) (ho : o.tasks = false) (text out : ByteArray) (W W0 : World) (hb : Below W0.heap.size W0 W) (h : PrintsG (Sl.old W0) text out) :
    Calls Tryz.prog 13 #[o.agg, .string text] W fun e w' => e = .returned (.string out) ∧ Below W0.heap.size W0 w' := by
  have hW : Sat W (Sl.old W0 * Sl.emp) := by
    rw [star_emp]
    exact (Sat.old W0).ext hb
  refine (HTMLG_w o ho text out (Sl.old W0) h W Sl.emp hW).mono ?_
  rintro e w' ⟨rfl, hs⟩
  exact ⟨rfl, Sat.below (P := Sl.emp) (hs.cast (star_comm _ _))⟩

end Go.Proofs.YtbfmmikllelfeaaGreatDoor

/- Parse, where the parser's options can be read at every line and text: LinesP, EndsP, parseP_w; the doors above. -/
namespace Go.Proofs.YtbfmmikllelfeaaGreatDoor
open Go.RowKit Sl

/-- As LinesG; the parser's options are owned too. -/
structure LinesP (oc : List Value) (G0 : HP) (K : Nat → List (List UInt8 × UInt8) → HP) (pb : Nat) (text : List UInt8) : Prop where
  first : ∀ p r g cap w F, Sat w (row p 173 (PSt.first pb g cap bt0).cells * (arr 197 4 (.slice (some ⟨g, 0, none⟩) 1 cap) 1 [.iface 176 (.pointer (some ⟨r, 0, none⟩)), .slice none 0 0, .int .i64 0, .int .i64 0] * (row pb 105 oc * (G0 * F)))) → Sat w (K p [] * F)
  next : ∀ p done l rest w F, B.lines text = done ++ l :: rest → Sat w (K p done * F) → ∃ x G, x.lineno = (done.length : Int) ∧ Sat w (row p 173 (PSt.cells x) * (G * F)) ∧
    ∀ w', Sat w' (row p 173 { x with lineno := (done.length : Int) + 1 }.cells * (G * F)) → Calls Tryz.prog 90 #[.pointer (some ⟨p, 0, none⟩), (LineOf l).agg] w' fun e w'' => e = .returned (.tuple #[]) ∧ Sat w'' (K p (done ++ [l]) * F)

/-- As Ends; the parser's options can be read. -/
structure EndsP (oc : List Value) (pb : Nat) (K : Nat → List (List UInt8 × UInt8) → HP) (T : Nat → SV → Nat → HP) (text : List UInt8) : Prop where
  close : ∀ p w F, Sat w (K p (B.lines text) * F) → Calls Tryz.prog 91 #[.pointer (some ⟨p, 0, none⟩), .int .i64 0] w fun e w' => e = .returned (.tuple #[]) ∧ ∃ tx : SV, tx.len ≤ 1000000000 ∧ Sat w' (T p tx 0 * F)
  state : ∀ p tx i w F, Sat w (T p tx i * F) → ∃ x G, x.texts = tx ∧ Sat w (row p 173 (PSt.cells x) * (row pb 105 oc * (G * F)))
  text : ∀ p tx i w F, Sat w (T p tx i * F) → i < tx.len → ∃ a tb raw, tx.a = some ⟨a, 0, none⟩ ∧ w.cell? ⟨a, i, none⟩ = some (.pointer (some ⟨tb, 0, none⟩)) ∧ w.cell? ⟨tb, 3, none⟩ = some (.string raw) ∧
    Calls Tryz.prog 92 #[.pointer (some ⟨p, 0, none⟩), .string raw] w fun e w' => ∃ v : SV, e = .returned v.v ∧ (∃ u, w'.cell? ⟨tb, 2, none⟩ = some u) ∧ w'.frozen? ⟨tb, 2, none⟩ = false ∧ Sat (w'.setCell ⟨tb, 2, none⟩ v.v) (T p tx (i + 1) * F)

set_option maxRecDepth 100000 in
set_option maxHeartbeats 2000000 in
theorem parseP_w (pb : Nat) (text : ByteArray) (W : World) (G0 F : HP) (oc : List Value) (hoc : oc[2]? = some (.bool false)) (hsz : text.size ≤ 1000000000) (hnul : B.findSub [0] text.data.toList = none)
    (hW : Sat W (row pb 105 oc * (G0 * F))) (K : Nat → List (List UInt8 × UInt8) → HP) (hK : LinesP oc G0 K pb text.data.toList) (T : Nat → SV → Nat → HP) (hT : EndsP oc pb K T text.data.toList) :
    Calls Tryz.prog 68 #[.pointer (some ⟨pb, 0, none⟩), .string text] W fun e w' => ∃ p tx root corner, e = .returned (.tuple #[.pointer root, .bool corner]) ∧ w'.cell? ⟨p, 1, none⟩ = some (.pointer root) ∧ Sat w' (T p tx tx.len * F) := by
  have hlp := hW.row_lt
  have hf : (B.findSub (⟨#[0]⟩ : ByteArray).data.toList text.data.toList).isSome = false := by rw [show (⟨#[0]⟩ : ByteArray).data.toList = [0] from rfl, hnul]; rfl
  go_enter Tryz.func68, Tryz.ntmps68
  go_wp2_with fail
  refine (zzContains_w text _ _ (by omega) (by decide)).mono ?_
  rintro e w1 ⟨rfl, rfl⟩
  rw [hf]
  go_wp2_with fail
  have h0 : (Tryz.zeroCells173.setIfInBounds 0 (.pointer (some ⟨pb, 0, none⟩))).setIfInBounds 5 (.int .i64 (-1)) =
      (PSt.cells { parser := some ⟨pb, 0, none⟩, root := none, links := none, lineno := 0, stack := ⟨none, 0, 0⟩, depth := -1, corner := false, s := ⟨#[]⟩, emitted := 0, list := ⟨none, 0, 0⟩, lists := ⟨none, 0, 0⟩, texts := ⟨none, 0, 0⟩, bt := bt0 }).toArray := by
    apply Array.toList_inj.1
    rw [Array.toList_setIfInBounds, Array.toList_setIfInBounds, zeroCells_PSt]
    rfl
  rw [h0]
  have h1 := ((hW.new (PSt.cells { parser := some ⟨pb, 0, none⟩, root := none, links := none, lineno := 0, stack := ⟨none, 0, 0⟩, depth := -1, corner := false, s := ⟨#[]⟩, emitted := 0, list := ⟨none, 0, 0⟩, lists := ⟨none, 0, 0⟩, texts := ⟨none, 0, 0⟩, bt := bt0 }) 173 rfl).new [] 178 (d := W.heap.size + 1) (by simp)).drop1
  have h2 := h1.cast (show _ = row W.heap.size 173 _ * (arr 197 4 (.slice none 0 0) 0 [] * (row pb 105 oc * (G0 * F))) from by rw [arr_nil, emp_star])
  clear h1 h0
  refine (addBlock_w _ 0 _ _ _ _ _ _ (by decide) rfl rfl h2).mono ?_
  rintro e w1 ⟨rfl, g, cap, h3⟩
  have h4 := hK.first _ _ _ _ _ F (h3.cast (by ac_rfl))
  clear h2 h3
  generalize W.heap.size = p at *
  go_wp2_with fail
  go_loopw [1] (fun t wr => ∃ done rest, B.lines text.data.toList = done ++ B.lines rest ∧ rest.length ≤ text.size ∧ t = .string (B.bs rest) ∧ Sat wr (K p done * F)) (fun t _ => strLen t)
  case atStart => exact ⟨[], text.data.toList, rfl, by rw [B.size_data]; omega, rfl, h4⟩
  case round =>
    obtain ⟨done, rest, hl, hrl, rfl, hs⟩ := hrel
    by_cases hne : rest = []
    · subst hne
      rw [B.lines_nil, List.append_nil] at hl
      rw [← hl] at hs
      have hcl := hT.close p wr _ hs
      have HCL := Lib.hid hcl
      have HL := Lib.hid hl
      have he : (B.bs []).toList.isEmpty = true := by rw [Lib.toList_data]; rfl
      clear hl hcl hs h4
      go_wp2_with fail
      refine HCL.out.mono ?_
      rintro e w2 ⟨rfl, tx, htx, h5⟩
      obtain ⟨x, G, hx, h6⟩ := hT.state _ _ _ _ _ h5
      have e11 := (PSt.facts h6).2.2.2.2.2.2.2.2.2.2.2.1
      rw [hx] at e11
      clear h6 hx
      go_wp2
      have htab : tx.len = 0 ∨ ∃ a, tx.a = some ⟨a, 0, none⟩ := by
        by_cases h0 : tx.len = 0
        · exact .inl h0
        · obtain ⟨a, tb, raw, ha, _⟩ := hT.text _ _ _ _ _ h5 (by omega)
          exact .inr ⟨a, ha⟩
      obtain ⟨ta, tn, tc⟩ := tx
      simp only at htab htx
      rcases htab with rfl | ⟨a, rfl⟩
      · go_loopw [83] (fun t wx => t = .int .i64 0 ∧ Sat wx (T p ⟨ta, 0, tc⟩ 0 * F)) (fun t _ => 1000000000 - (intOf t).toNat)
        case atStart => exact ⟨rfl, h5⟩
        case round =>
          obtain ⟨rfl, h6⟩ := hrel
          obtain ⟨y, G2, hy, h8⟩ := hT.state _ _ _ _ _ h6
          have c2 : wr.cell? ⟨pb, 2, none⟩ = some (.bool false) := h8.swap.cell 2 hoc
          obtain ⟨f0, f1, f2, f3, f4, f5, f6, f7, f8, f9, f10, f11, fz, hlp⟩ := PSt.facts h8
          clear f0 f2 f3 f4 f5 f7 f8 f9 f10 f11 fz hy h8
          go_wp2
          go_quiet (fail)
          go_wp2
          go_ret2
          exact ⟨p, _, y.root, y.corner, rfl, f1, h6.drewN _⟩
      · go_loopw [83] (fun t wx => ∃ k : Nat, k ≤ tn ∧ t = .int .i64 k ∧ Sat wx (T p ⟨some ⟨a, 0, none⟩, tn, tc⟩ k * F)) (fun t _ => tn - (intOf t).toNat)
        case atStart => exact ⟨0, Nat.zero_le _, rfl, h5⟩
        case round =>
          obtain ⟨k, hk, rfl, h6⟩ := hrel
          by_cases hlt : k < tn
          · obtain ⟨a', tb, raw, ha, ca, cr, hin⟩ := hT.text _ _ _ _ _ h6 hlt
            simp only [Option.some.injEq, Addr.mk.injEq, and_self, and_true] at ha
            subst ha
            have HIN := Lib.hid hin
            clear hin
            go_wp2_with fail
            refine HIN.out.mono ?_
            rintro e w3 ⟨v, rfl, ⟨u, hu⟩, hfz, h7⟩
            unfold SV.v at h7 ⊢
            go_wp2
            go_roundw
            case rel => first | exact ⟨k + 1, by omega, by go_num, h7⟩ | ((repeat apply Exists.intro); exact ⟨⟨k + 1, by omega, by go_num, h7⟩, rfl⟩)
            case measure => simp [intOf]; omega
          · obtain rfl : k = tn := by omega
            obtain ⟨y, G2, hy, h8⟩ := hT.state _ _ _ _ _ h6
            have c2 : wr.cell? ⟨pb, 2, none⟩ = some (.bool false) := h8.swap.cell 2 hoc
            obtain ⟨f0, f1, f2, f3, f4, f5, f6, f7, f8, f9, f10, f11, fz, hlp⟩ := PSt.facts h8
            clear f0 f2 f3 f4 f5 f7 f8 f9 f10 f11 fz hy h8
            go_wp2
            go_quiet (fail)
            go_wp2
            go_ret2
            exact ⟨p, _, y.root, y.corner, rfl, f1, h6.drewN _⟩
    · have he : (B.bs rest).toList.isEmpty = false := by
        rw [Lib.toList_data, B.bs_data]
        cases rest with
        | nil => exact absurd rfl hne
        | cons => rfl
      have hz : (B.bs rest).size ≤ 1000000000000 := by rw [B.bs_size]; omega
      have bi := B.idx_lt rest 10
      have bj := B.idx_lt rest 13
      have zi := zzIndex_nl rest wr hz
      have zj := zzIndex_cr rest wr hz
      have nl : B.nextLine rest = B.nextLine rest := rfl
      conv at nl => rhs; unfold B.nextLine
      generalize B.idx rest [10] = ii at *
      generalize B.idx rest [13] = jj at *
      have NL := Lib.hid nl
      have ZI := Lib.hid zi
      have ZJ := Lib.hid zj
      clear nl zi zj
      have bi2 : ii < ((B.bs rest).size : Int) := bi.2
      have bj2 : jj < ((B.bs rest).size : Int) := bj.2
      have bi1 := bi.1
      have bj1 := bj.1
      clear bi bj
      go_wp2_with fail
      refine ZI.out.mono ?_
      rintro e w1 ⟨rfl, rfl⟩
      go_wp2_with fail
      refine ZJ.out.mono ?_
      rintro e w1 ⟨rfl, rfl⟩
      go_upto_block 2 with fail
      go_cut [1, 7, 10] (fun t1 t7 t10 wx => t1 = .string (B.bs (B.nextLine rest).2) ∧ t7 = .string (B.bs (B.nextLine rest).1.1) ∧ t10 = .int .u8 ((B.nextLine rest).1.2).toNat ∧ ∃ n, wx = wr.drewN n)
      case first =>
        by_cases hA : 0 ≤ jj ∧ (ii < 0 ∨ jj < ii)
        · obtain ⟨j, rfl⟩ := Int.eq_ofNat_of_zero_le hA.1
          have e1 : B.bs (List.take j rest) = (B.bs rest).extract 0 j := by rw [B.extract_zero, B.bs_data]
          have e2 : ∀ k, B.bs (List.drop k rest) = (B.bs rest).extract k (B.bs rest).size := fun k => by rw [B.extract_end, B.bs_data]
          have E1 := Lib.hid e1
          have E2 := Lib.hid e2
          clear e1 e2
          go_wp2
          all_goals
            go_meet
            have n1 := NL.out
            rw [if_pos hA] at n1
            simp only [Int.toNat_natCast] at n1
            first
              | (have h : (ii == (j : Int) + 1) = true := by assumption
                 rw [if_pos (by simpa using h)] at n1
                 rw [n1]
                 exact ⟨by rw [E2.out], by rw [E1.out], rfl, 0, rfl⟩)
              | (have h : (ii == (j : Int) + 1) = false := by assumption
                 rw [if_neg (by simpa using h)] at n1
                 rw [n1]
                 exact ⟨by rw [E2.out], by rw [E1.out], rfl, 0, rfl⟩)
        · have n1 := NL.out
          rw [if_neg hA] at n1
          have N1 := Lib.hid n1
          clear n1
          by_cases hB : 0 ≤ ii
          · obtain ⟨i, rfl⟩ := Int.eq_ofNat_of_zero_le hB
            have e1 : B.bs (List.take i rest) = (B.bs rest).extract 0 i := by rw [B.extract_zero, B.bs_data]
            have e2 : B.bs (List.drop (i + 1) rest) = (B.bs rest).extract (i + 1) (B.bs rest).size := by rw [B.extract_end, B.bs_data]
            have E1 := Lib.hid e1
            have E2 := Lib.hid e2
            clear e1 e2
            by_cases hj0 : 0 ≤ jj
            all_goals
              go_wp2
              go_quiet (fail)
              go_wp2
              go_meet
              have n1 := N1.out
              rw [if_pos hB] at n1
              simp only [Int.toNat_natCast] at n1
              rw [n1]
              exact ⟨by rw [E2.out], by rw [E1.out], rfl, _, rfl⟩
          · have hj0 : ¬ 0 ≤ jj := by omega
            go_wp2
            go_meet
            have n1 := N1.out
            rw [if_neg (by omega)] at n1
            rw [n1]
            exact ⟨rfl, rfl, rfl, 0, rfl⟩
      case rest =>
        obtain ⟨rfl, rfl, rfl, n, rfl⟩ := hcut
        have hl2 := B.lines_cons hne
        have hlen := B.nextLine_lt hne
        rw [hl2] at hl
        obtain ⟨x, G, hx, hsx, hadd⟩ := hK.next p done _ _ _ _ hl hs
        obtain ⟨f0, f1, f2, f3, f4, f5, f6, f7, f8, f9, f10, f11, fz, hlp⟩ := PSt.facts hsx
        rw [hx] at f3
        have HADD := Lib.hid hadd
        have HL := Lib.hid hl
        have HX := Lib.hid hx
        have hdl : done.length ≤ 1000000000 := by
          have h1 := B.lines_length text.data.toList
          have h2 := congrArg List.length hl
          rw [List.length_append] at h2
          rw [← B.size_data] at h1
          omega
        clear f0 f1 f2 f4 f5 f6 f7 f8 f9 f10 f11 hadd hl hl2 ZI ZJ NL hx
        go_wp2_with fail
        refine (HADD.out _ ?_).mono ?_
        · exact (hsx.set 3 _).drewN n
        rintro e w2 ⟨rfl, h5⟩
        go_wp2
        go_roundw
        case rel => exact ⟨done ++ [(B.nextLine rest).1], (B.nextLine rest).2, by rw [HL.out, List.append_assoc]; rfl, by omega, rfl, h5⟩
        case measure => simp [strLen, B.bs_size]; omega


set_option maxRecDepth 100000 in
set_option maxHeartbeats 400000 in
theorem ParseP_w (pb : Nat) (text : ByteArray) (W : World) (G0 F : HP) (oc : List Value) (hoc : oc[2]? = some (.bool false)) (hsz : text.size ≤ 1000000000) (hnul : B.findSub [0] text.data.toList = none)
    (hW : Sat W (row pb 105 oc * (G0 * F))) (K : Nat → List (List UInt8 × UInt8) → HP) (hK : LinesP oc G0 K pb text.data.toList) (T : Nat → SV → Nat → HP) (hT : EndsP oc pb K T text.data.toList) :
    Calls Tryz.prog 46 #[.pointer (some ⟨pb, 0, none⟩), .string text] W fun e w' => ∃ p tx root, e = .returned (.pointer root) ∧ w'.cell? ⟨p, 1, none⟩ = some (.pointer root) ∧ Sat w' (T p tx tx.len * F) := by
  have h := parseP_w pb text W G0 F oc hoc hsz hnul hW K hK T hT
  have H := Lib.hid h
  clear h
  go_enter Tryz.func46, Tryz.ntmps46
  go_wp2_with fail
  refine H.out.mono ?_
  rintro e w' ⟨p, tx, root, corner, rfl, hr, hs⟩
  have HS := Lib.hid hs
  clear hs
  go_wp2
  go_ret
  exact ⟨p, tx, root, rfl, hr, HS.out⟩


/-- A text of which it is known what parse makes of it, and what is printed of that. -/
structure PrintsP (oc : List Value) (G0 : HP) (text : ByteArray) (out : ByteArray) : Prop where
  size : text.size ≤ 1000000000
  nul : B.findSub [0] text.data.toList = none
  run : ∀ pb : Nat, ∃ (K : Nat → List (List UInt8 × UInt8) → HP) (T : Nat → SV → Nat → HP), LinesP oc G0 K pb text.data.toList ∧ EndsP oc pb K T text.data.toList ∧
    ∀ p tx root w G, Sat w (T p tx tx.len * G) → w.cell? ⟨p, 1, none⟩ = some (.pointer root) → Calls Tryz.prog 44 #[.iface 80 (.pointer root)] w fun e w' => e = .returned (.string out) ∧ Sat w' (G0 * G)

set_option maxRecDepth 100000 in
set_option maxHeartbeats 400000 in
theorem HTMLP_w (o : Opt) (ho : o.tasks = false) (text out : ByteArray) (G0 : HP) (h : PrintsP o.pcells G0 text out) (W : World) (F : HP) (hW : Sat W (G0 * F)) :
    Calls Tryz.prog 13 #[o.agg, .string text] W fun e w' => e = .returned (.string out) ∧ Sat w' (G0 * F) := by
  have HO := Lib.hid (show (o.pcells)[2]? = some (.bool false) from by simp [Opt.pcells, ho])
  have ha : o.agg = .agg #[.bool o.del, .bool o.tasks, .bool o.auto, .bool o.autoHTTP, .bool o.tables, .bool o.dots, .bool o.dashes, .bool o.quotes, .bool o.headID, .bool o.emoji] := rfl
  rw [ha]
  clear ha ho
  have hW1 := (hW.new o.cells 27 rfl).drop1
  go_enter Tryz.func13, Tryz.ntmps13
  go_wp2_with fail
  refine (parser_w o _ _ hW1).mono ?_
  rintro e w1 ⟨pb, rfl, h1⟩
  obtain ⟨K, T, hK, hT, hP⟩ := h.run pb
  have HP' := Lib.hid hP
  clear hP
  go_wp2_with fail
  refine (ParseP_w pb text w1 G0 F o.pcells HO.out h.size h.nul h1 K hK T hT).mono ?_
  rintro e w2 ⟨p, tx, root, rfl, hr, h2⟩
  go_wp2_with fail
  refine (HP'.out p tx root w2 _ h2 hr).mono ?_
  rintro e w3 ⟨rfl, h3⟩
  go_wp2
  go_ret
  exact ⟨rfl, h3⟩


/-- The same, where the whole old world goes along. -/
theorem HTMLP_b (o : Opt) (ho : o.tasks = false) (text out : ByteArray) (W W0 : World) (hb : Below W0.heap.size W0 W) (h : PrintsP o.pcells (Sl.old W0) text out) :
    Calls Tryz.prog 13 #[o.agg, .string text] W fun e w' => e = .returned (.string out) ∧ Below W0.heap.size W0 w' := by
  have hW : Sat W (Sl.old W0 * Sl.emp) := by
    rw [star_emp]
    exact (Sat.old W0).ext hb
  refine (HTMLP_w o ho text out (Sl.old W0) h W Sl.emp hW).mono ?_
  rintro e w' ⟨rfl, hs⟩
  exact ⟨rfl, Sat.below (P := Sl.emp) (hs.cast (star_comm _ _))⟩

end Go.Proofs.YtbfmmikllelfeaaGreatDoor
