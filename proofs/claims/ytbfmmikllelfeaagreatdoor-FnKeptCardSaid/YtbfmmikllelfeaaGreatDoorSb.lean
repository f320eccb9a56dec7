/- strings.Builder. -/
import Derived.Test.YtbfmmikllelfeaaGreatDoorP1
import Derived.Test.YtbfmmikllelfeaaGreatDoorB
import Derived.Test.YtbfmmikllelfeaaGreatDoorEs
import Derived.Test.YtbfmmikllelfeaaGreatDoorN3
import Derived.Test.YtbfmmikllelfeaaGreatDoorSl
import Derived.Test.YtbfmmikllelfeaaGreatDoorI0
import Derived.Deep.Draws
import Derived.Lib.Builder
import Derived.Lib.UnsafeStr
import Derived.Laws.Externs
import Derived.Laws.IdiomStrings
namespace Go.Proofs.YtbfmmikllelfeaaGreatDoor
open Go.RowKit Sl

theorem size_Builder : (Tryz.prog.info? 71).map (·.size) = some 2 := by kernel_rfl
theorem lies_Builder : liesAt Tryz.prog Tryz.prog.depth 71 (2 / Tryz.prog.cellsOf 71) 0 71 1 = true := by kernel_rfl

/-- A builder in block b that holds cs. -/
def Bldr (b : Nat) (cs : List UInt8) : HP := Sl.ex fun x : Option Addr × SV => Sl.pur ((x.1 = none ∨ x.1 = some ⟨b, 0, none⟩) ∧ x.2.len = cs.length ∧ (cs = [] → x.2 = ⟨none, 0, 0⟩)) * (row b 71 [.pointer x.1, x.2.v] * arr 5 1 x.2.v x.2.len (cs.map fun c => .int .u8 c.toNat))

set_option maxRecDepth 100000 in
set_option maxHeartbeats 1000000 in
theorem copyCheck_w (b : Nat) (p : Option Addr) (v : Value) (w : World) (F : HP) (hp : p = none ∨ p = some ⟨b, 0, none⟩) (hs : Sat w (row b 71 [.pointer p, v] * F)) :
    Calls Tryz.prog 65 #[.pointer (some ⟨b, 0, none⟩)] w fun e w' => e = .returned (.tuple #[]) ∧ Sat w' (row b 71 [.pointer (some ⟨b, 0, none⟩), v] * F) := by
  have c0 : w.cell? ⟨b, 0, none⟩ = some (.pointer p) := hs.cell 0 rfl
  have cf := fun i => hs.frozen i
  have cl := hs.row_lt
  have hsh : w.shape? b = some (71, 2) := by simp [World.shape?, hs.row_heap]
  obtain ⟨j, hj, hjs⟩ := Option.map_eq_some_iff.1 size_Builder
  rcases hp with rfl | rfl
  · go_enter Tryz.func65, Tryz.ntmps65
    go_wp2_with fail
    rw [Lib.run_to_unsafe w ⟨b, 0, none⟩ Tryz.underlying69 Tryz.underlying164 hj (by rw [hjs]; decide) hsh (Nat.zero_lt_succ 1)]
    simp only [Result.andThen]
    rw [Oper.upon_value]
    go_wp2_with fail
    rw [run_callFunc_extern Tryz.func84 (by kernel_rfl) (by kernel_rfl) (by kernel_rfl) (e := Extern.AbiNoEscape.same) (by kernel_rfl)]
    rw [Lib.run_noEscape]
    simp only [Result.andThen]
    rw [Oper.upon_value]
    go_wp2_with fail
    rw [Lib.run_from_unsafe w ⟨b, 0, none⟩ Tryz.underlying164 Tryz.underlying69 hj hsh lies_Builder]
    simp only [Result.andThen]
    rw [Oper.upon_value]
    go_wp2
    go_end0
    exact ⟨rfl, hs.set 0 _⟩
  · go_enter Tryz.func65, Tryz.ntmps65
    go_wp2_with fail
    rw [Lib.run_neq_ptr_same w _ Tryz.underlying69 hj]
    simp only [Result.andThen]
    rw [Oper.upon_value]
    go_wp2
    go_end0
    exact ⟨rfl, hs⟩

theorem bldr_iff {w : World} {b : Nat} {cs : List UInt8} {F : HP} : Sat w (Bldr b cs * F) ↔ ∃ (p : Option Addr) (v : SV), (p = none ∨ p = some ⟨b, 0, none⟩) ∧ v.len = cs.length ∧ (cs = [] → v = ⟨none, 0, 0⟩) ∧ Sat w (row b 71 [.pointer p, v.v] * (arr 5 1 v.v v.len (cs.map fun c => .int .u8 c.toNat) * F)) := by
  constructor
  · intro h
    obtain ⟨x, h⟩ := h.ex
    obtain ⟨⟨h1, h2, h4⟩, h3⟩ := (h.cast (star_assoc _ _ _)).pur
    exact ⟨x.1, x.2, h1, h2, h4, h3.cast (star_assoc _ _ _)⟩
  · rintro ⟨p, v, h1, h2, h4, h3⟩
    refine Sat.ex_mk (p, v) ?_
    rw [star_assoc, pur_star ⟨h1, h2, h4⟩]
    exact h3.cast (star_assoc _ _ _).symm

theorem bldr_new {w : World} {F : HP} (h : Sat w F) : Sat (w.alloc (.cells #[.pointer none, .slice none 0 0] 71)) (Bldr w.heap.size [] * F) := by
  refine bldr_iff.2 ⟨none, ⟨none, 0, 0⟩, .inl rfl, rfl, fun _ => rfl, ?_⟩
  have h1 := h.new (d := w.heap.size) [.pointer none, .slice none 0 0] 71 rfl
  refine h1.cast ?_
  rw [show arr 5 1 (⟨none, 0, 0⟩ : SV).v (⟨none, 0, 0⟩ : SV).len (([] : List UInt8).map fun c => .int .u8 c.toNat) = emp from arr_nil _ _, emp_star]
  rfl

theorem info_byte : (Tryz.prog.info? 5).map (fun i => (i.zero, i.size, i.bytes)) = some (some (.int .u8 0), 1, 1) := by kernel_rfl

set_option maxRecDepth 100000 in
set_option maxHeartbeats 1000000 in
theorem bldByte_w (b : Nat) (cs : List UInt8) (c : UInt8) (w : World) (F : HP) (hl : cs.length ≤ 1000000000000) (hs : Sat w (Bldr b cs * F)) :
    Calls Tryz.prog 103 #[.pointer (some ⟨b, 0, none⟩), .int .u8 c.toNat] w fun e w' => e = .returned .nilIface ∧ Sat w' (Bldr b (cs ++ [c]) * F) := by
  obtain ⟨p, v, hp, hv, _, h⟩ := bldr_iff.1 hs
  obtain ⟨i0, hi, hz0, hz1, hz2⟩ := info_parts info_byte
  have hcc := copyCheck_w b p v.v w _ hp h
  have HCC := Lib.hid hcc
  have HV := Lib.hid hv
  clear hcc h hs hp
  have hvl : v.len ≤ 1000000000000 := by omega
  clear hv
  go_enter Tryz.func103, Tryz.ntmps103
  go_wp2_with fail
  refine HCC.out.mono ?_
  rintro e w1 ⟨rfl, s1⟩
  have c1 : w1.cell? ⟨b, 1, none⟩ = some (.slice v.a v.len v.cap) := s1.cell 1 rfl
  have hsB := (s1.new (d := w1.heap.size) [.int .u8 c.toNat] 5 rfl).cast (show _ = arr 5 1 v.v v.len (cs.map fun c => .int .u8 c.toNat) * (row w1.heap.size 5 [.int .u8 c.toNat] * (row b 71 [.pointer (some ⟨b, 0, none⟩), v.v] * F)) from by ac_rfl)
  have HB := Lib.hid hsB
  clear hsB s1
  go_wp2_with (at_builtin; refine wpList_append_sl rfl (.tmp 11) (.tmp 13) 44 rfl 5 i0 (.int .u8 0) 1 1 Tryz.underlying44 hi hz0 hz1 hz2 rfl v.v v.len _ (by rfl) HB.out ⟨w1.heap.size, 0, none⟩ 1 1 [.int .u8 c.toNat] (by rfl) rfl ?c1 ?c2 ?c3 ?c4 (by decide) ?_)
  case c1 => exact cells_new _ [_] _
  case c2 => intro u hu; simp at hu; subst hu; rfl
  case c3 => unfold maxLen; omega
  case c4 => omega
  intro g2 cap2 w2 hs1 hz9
  have s2 := hs1.third
  have c2 : w2.cell? ⟨b, 1, none⟩ = some (.slice v.a v.len v.cap) := s2.cell 1 rfl
  have cz := fun i => s2.frozen i
  have S2 := Lib.hid s2
  clear s2 hs1
  go_wp2
  go_ret
  refine ⟨rfl, bldr_iff.2 ⟨some ⟨b, 0, none⟩, ⟨some ⟨g2, 0, none⟩, v.len + 1, cap2⟩, .inr rfl, by simp [HV.out], fun e => by simp at e, ?_⟩⟩
  have s3 := S2.out.set 1 (.slice (some ⟨g2, 0, none⟩) (v.len + 1) cap2)
  have s4 := (s3.cast (show _ = row w1.heap.size 5 [.int .u8 c.toNat] * (row b 71 [.pointer (some ⟨b, 0, none⟩), .slice (some ⟨g2, 0, none⟩) (v.len + 1) cap2] * (arr 5 1 (.slice (some ⟨g2, 0, none⟩) (v.len + 1) cap2) (v.len + 1) (cs.map (fun c => .int .u8 c.toNat) ++ [.int .u8 c.toNat]) * F)) from by
    rw [show [Value.pointer (some ⟨b, 0, none⟩), v.v].set 1 (.slice (some ⟨g2, 0, none⟩) (v.len + 1) cap2) = [.pointer (some ⟨b, 0, none⟩), .slice (some ⟨g2, 0, none⟩) (v.len + 1) cap2] from rfl]; ac_rfl)).drop1
  rw [List.map_append]
  exact s4

theorem strCells_map (s : List UInt8) : Lib.strCells (B.bs s) = s.map fun c => Value.int .u8 c.toNat := by
  simp [Lib.strCells, B.bs]

set_option maxRecDepth 100000 in
set_option maxHeartbeats 1000000 in
theorem bldStr_w (b : Nat) (cs s : List UInt8) (w : World) (F : HP) (h0 : s ≠ []) (hl : cs.length + s.length ≤ 1000000000000) (hs : Sat w (Bldr b cs * F)) :
    Calls Tryz.prog 41 #[.pointer (some ⟨b, 0, none⟩), .string (B.bs s)] w fun e w' => e = .returned (.tuple #[.int .i64 (s.length : Int), .nilIface]) ∧ Sat w' (Bldr b (cs ++ s) * F) := by
  obtain ⟨p, v, hp, hv, _, h⟩ := bldr_iff.1 hs
  obtain ⟨i0, hi, hz0, hz1, hz2⟩ := info_parts info_byte
  have hcc := copyCheck_w b p v.v w _ hp h
  have HCC := Lib.hid hcc
  have HV := Lib.hid hv
  have hsl : 0 < s.length := List.length_pos_iff.2 h0
  have hz : (B.bs s).size = s.length := rfl
  clear hcc h hs hp
  have hvl : v.len + s.length ≤ 1000000000000 := by omega
  clear hv
  go_enter Tryz.func41, Tryz.ntmps41
  go_wp2_with fail
  refine HCC.out.mono ?_
  rintro e w1 ⟨rfl, s1⟩
  have c1 : w1.cell? ⟨b, 1, none⟩ = some (.slice v.a v.len v.cap) := s1.cell 1 rfl
  have HB := Lib.hid s1.swap
  clear s1
  go_wp2_with (at_builtin; refine wpList_append_str rfl (.tmp 12) (.tmp 13) 44 9 rfl 5 i0 Tryz.underlying44 Tryz.underlying9 hi hz0 hz1 hz2 v.v v.len _ (by rfl) HB.out (B.bs s) (by rfl) hsl (by rw [hz]; omega) ?_)
  intro g2 cap2 w2 hs1
  have s2 := hs1.swap
  have c2 : w2.cell? ⟨b, 1, none⟩ = some (.slice v.a v.len v.cap) := s2.cell 1 rfl
  have cz := fun i => s2.frozen i
  have S2 := Lib.hid s2
  clear s2 hs1
  go_wp2
  go_ret2
  refine ⟨by first | rfl | simp [hz], bldr_iff.2 ⟨some ⟨b, 0, none⟩, ⟨some ⟨g2, 0, none⟩, v.len + s.length, cap2⟩, .inr rfl, by simp [HV.out], fun e => absurd (List.append_eq_nil_iff.1 e).2 h0, ?_⟩⟩
  have s3 := S2.out.set 1 (.slice (some ⟨g2, 0, none⟩) (v.len + s.length) cap2)
  rw [strCells_map] at s3
  rw [List.map_append]
  exact s3

theorem Sl.Sat.freeze_drop {w : World} {g n : Nat} {t : TypeId} {l : List Value} {F : HP} (h : Sat w (row g t l * F)) : Sat (w.freeze ⟨g, 0, none⟩ n) F := by
  have hg := h.row_heap
  obtain ⟨_, ⟨a, c, hd, rfl, rfl, hq⟩, hs⟩ := h
  have he : env (w.freeze ⟨g, 0, none⟩ n) = env w := by unfold World.freeze; split <;> rfl
  refine ⟨c, by rw [he]; exact hq, fun k x hx => ?_⟩
  have hne : k ≠ g := by
    intro e
    subst e
    rcases hd k with h1 | h1
    · simp at h1
    · rw [h1] at hx; cases hx
  have h1 := hs k x (by simp [join, hne, hx])
  unfold World.freeze
  split
  · exact h1
  · rw [← h1]
    simp [Array.getElem?_modify, Ne.symm hne]

set_option maxRecDepth 100000 in
set_option maxHeartbeats 1000000 in
theorem bldString_w (b : Nat) (cs : List UInt8) (w : World) (F : HP) (hl : cs.length ≤ 1000000000000) (hs : Sat w (Bldr b cs * F)) :
    Calls Tryz.prog 43 #[.pointer (some ⟨b, 0, none⟩)] w fun e w' => e = .returned (.string (B.bs cs)) ∧ Sat w' F := by
  obtain ⟨p, v, hp, hv, h0, h⟩ := bldr_iff.1 hs
  by_cases hc : cs = []
  · obtain rfl := h0 hc
    subst hc
    have c1 : w.cell? ⟨b, 1, none⟩ = some (.slice none 0 0) := h.cell 1 rfl
    have hF : Sat w F := h.drop1.drop1
    have hSD := fun w => Lib.run_unsafeSliceData_nil (P := Tryz.prog) (w := w) #[44] 95 0 0
    have hUS := fun w => Lib.run_unsafeString_none (P := Tryz.prog) (w := w) 95 3 9 none
    clear h hs h0 hv hp
    go_enter Tryz.func43, Tryz.ntmps43
    go_wp2
    go_region
    all_goals
      go_wp2
      go_ret
      exact ⟨rfl, hF⟩
  · have hsl : cs.length ≠ 0 := by simpa using hc
    rcases h.swap.arr_cases with ⟨_, h2, _⟩ | ⟨g, cap, junk, hvv, hx, hnc, hcm, hcs, hr⟩
    · omega
    have hr2 : Sat w.drew (row g 5 (cs.map (fun c => Value.int .u8 c.toNat) ++ junk) * F) := hr.drop2
    have c1 : w.drew.cell? ⟨b, 1, none⟩ = some (.slice (some ⟨g, 0, none⟩) cs.length cap) := by
      have := h.cell 1 (v := v.v) rfl
      rw [hvv, hv] at this
      exact this
    have hSD : (Builtin.unsafeSliceData_ #[44] 95 #[.slice (some ⟨g, 0, none⟩) cs.length cap]).run Tryz.prog w.drew = .ok (.pointer (some ⟨g, 0, none⟩)) w.drew := Lib.run_unsafeSliceData_row _ _ _ _ _ _ (by omega)
    have hUS : (Builtin.unsafeString_ #[95, 3] 9 #[.pointer (some ⟨g, 0, none⟩), .int .i64 cs.length]).run Tryz.prog w.drew = .ok (.string ⟨cs.toArray⟩) (w.drew.freeze ⟨g, 0, none⟩ cs.length) := by
      refine Lib.run_unsafeString_row w.drew 95 3 9 5 Tryz.underlying95 (by kernel_rfl) g (cs.map (fun c => Value.int .u8 c.toNat) ++ junk).length (by have := hr2.row_heap; simp [World.shape?, this]) cs hc (by simp) (by omega) ?_
      intro j x hj
      have hadd : (⟨g, 0, none⟩ : Addr).add j = ⟨g, j, none⟩ := by unfold Addr.add; split <;> simp_all
      rw [hadd]
      refine hr2.cell j ?_
      rw [List.getElem?_append_left (by simpa using (List.getElem?_eq_some_iff.1 hj).1), List.getElem?_map, hj]; rfl
    have hF : Sat (w.drew.freeze ⟨g, 0, none⟩ cs.length) F := hr2.freeze_drop
    clear h hs h0 hv hp hr hr2 hvv hcs hx
    go_enter Tryz.func43, Tryz.ntmps43
    go_wp2
    go_region
    all_goals
      go_wp2
      go_ret
      exact ⟨rfl, hF⟩

end Go.Proofs.YtbfmmikllelfeaaGreatDoor

/- Rows of bytes, read as a text. -/
namespace Go.Proofs.YtbfmmikllelfeaaGreatDoor
open Go.RowKit Sl

/-- A row of bytes that begins with these. -/
def BytesR (w : World) (g : Nat) (l : List UInt8) : Prop := ∀ j (hj : j < l.length), w.cell? ⟨g, j, none⟩ = some (.int .u8 l[j].toNat)

theorem conv_bytesR {w : World} {g n c : Nat} {l : List UInt8} (hn : l.length = n) (h : BytesR w g l) : (convert 44 9 (.slice (some ⟨g, 0, none⟩) n c)).run Tryz.prog w = .ok (.string (B.bs l)) w := by
  subst hn
  refine run_convert_bytes_back w 44 9 5 ⟨g, 0, none⟩ c l Tryz.underlying44 Tryz.underlying5 Tryz.underlying9 fun j hj => ?_
  have hadd : (⟨g, 0, none⟩ : Addr).add j = ⟨g, j, none⟩ := by unfold Addr.add; split <;> simp_all
  rw [hadd]
  exact h j hj

theorem Sl.Sat.bytesR {w : World} {g n c : Nat} {l : List UInt8} {F : HP} (h : Sat w (arr 5 1 (.slice (some ⟨g, 0, none⟩) n c) n (l.map fun c => .int .u8 c.toNat) * F)) : BytesR w g l ∧ g < w.heap.size := by
  obtain ⟨junk, _, _, _, _, hr⟩ := h.arr_row
  refine ⟨fun j hj => hr.cell j ?_, hr.row_lt⟩
  rw [List.getElem?_append_left (by simpa using hj)]
  simp [hj]

end Go.Proofs.YtbfmmikllelfeaaGreatDoor

/- Small functions: punctuation. -/
namespace Go.Proofs.YtbfmmikllelfeaaGreatDoor
open Go.RowKit Sl

set_option maxRecDepth 100000 in
set_option maxHeartbeats 1000000 in
theorem isP_w (c : UInt8) (w : World) : Calls Tryz.prog 156 #[.int .u8 c.toNat] w fun e w' => e = .returned (.bool (isP c)) ∧ w = w' := by
  go_enter Tryz.func156, Tryz.ntmps156
  go_wp2
  all_goals
    go_ret
    refine ⟨ret_bool ?_, rfl⟩
    unfold isP
    rw [Bool.eq_iff_iff]
    simp only [Bool.or_eq_true, decide_eq_true_eq, true_iff, Bool.false_eq_true, false_iff, eq_self]
    omega

end Go.Proofs.YtbfmmikllelfeaaGreatDoor
