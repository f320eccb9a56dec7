/- The law FnBlank: its walk. -/
import Derived.Test.YtegnaedkalobgaaGreatDoorBh
import Derived.Test.YtegnaedkalobgaaGreatDoorBb
import Derived.Test.YtegnaedkalobgaaGreatDoorBp
import Derived.Deep.OwnRows
import Derived.Deep.DeepCutAuto
import Derived.Deep.RegionHeld2
namespace Go.Proofs.YtegnaedkalobgaaGreatDoor
open Go.RowKit Sl

theorem blank_parses {l : List UInt8} (h : AllWs l) (hl : l.length ≤ 1000) : Parses (B.bs l) docNode where
  size := by rw [B.bs_size]; omega
  nul := by rw [B.bs_data]; exact h.nul
  run := by
    intro pb
    rw [B.bs_data]
    refine ⟨RootOnly pb, Emptied pb (B.lines l).length, blank_lines pb l h.blank (fun x hx => by have := (B.lines_mem l x hx).2.2.2; omega), blank_ends pb l, ?_⟩
    intro p tx root w G hs hr
    obtain ⟨rfl, g, cap, dep, d, hd⟩ := emptied_iff.1 hs
    replace hd := hd.cast (star_assoc _ _ _)
    have hr' := hd.cell 1 (v := .pointer (some ⟨d, 0, none⟩)) rfl
    rw [hr] at hr'
    have hr2 : root = some ⟨d, 0, none⟩ := by injection hr' with e; injection e
    subst hr2
    have hd2 := hd.swap
    refine (block_doc_nil d w 0 0 (hd2.cell 0 rfl) (hd2.cell 1 rfl) (hd2.cell 2 rfl) (hd2.cell 3 rfl)).mono ?_
    rintro e w' ⟨rfl, hb⟩
    exact ⟨rfl, ((hd.ext hb).drop1).drop1⟩

theorem blank_prints {l : List UInt8} (h : AllWs l) (hl : l.length ≤ 1000) : Prints (B.bs l) ⟨#[]⟩ where
  size := by rw [B.bs_size]; omega
  nul := by rw [B.bs_data]; exact h.nul
  run := by
    intro pb
    rw [B.bs_data]
    refine ⟨RootOnly pb, Emptied pb (B.lines l).length, blank_lines pb l h.blank (fun x hx => by have := (B.lines_mem l x hx).2.2.2; omega), blank_ends pb l, ?_⟩
    intro p tx root w G hs hr
    obtain ⟨rfl, g, cap, dep, d, hd⟩ := emptied_iff.1 hs
    replace hd := hd.cast (star_assoc _ _ _)
    have hr' := hd.cell 1 (v := .pointer (some ⟨d, 0, none⟩)) rfl
    rw [hr] at hr'
    have hr2 : root = some ⟨d, 0, none⟩ := by injection hr' with e; injection e
    subst hr2
    exact toHTML_nil d w _ (hd.swap.cell 2 rfl) (hd.drop1).drop1

theorem info_u8 : (Tryz.prog.info? 5).map (fun i => (i.zero, i.size, i.bytes)) = some (some (.int .u8 0), 1, 1) := by kernel_rfl

theorem arr_made (w : World) (n : Nat) (t : TypeId) (z : Value) (P : HP) (hn : n ≤ maxLen) (h : Sat w P) : Sat (w.alloc (.cells (madeCells #[z] n) t)) (arr t 1 (.slice (some ⟨w.heap.size, 0, none⟩) 0 n) 0 [] * P) := by
  refine arr_mk (junk := (madeCells #[z] n).toList) rfl (Nat.zero_le _) hn (by simp [size_madeCells]) ?_
  have := h.alloc (.cells (madeCells #[z] n) t)
  refine this.cast ?_
  unfold row
  simp

/-- the k-th of space, tab, line feed, carriage return -/
def wsOf (z : Int) : UInt8 := if z % 4 = 0 then 32 else if z % 4 = 1 then 9 else if z % 4 = 2 then 10 else 13

def wsText (zs : List Int) : List UInt8 := zs.map wsOf
theorem wsText_ws (zs : List Int) : AllWs (wsText zs) := by
  intro c hc
  obtain ⟨z, _, rfl⟩ := List.mem_map.1 hc
  unfold wsOf
  split
  · simp
  · split
    · simp
    · split <;> simp

theorem zcells {w : World} {b : Nat} {t : TypeId} {F : HP} (h : Sat w (row b t nodeZero * F)) :
    w.cell? ⟨b, 0, none⟩ = some (.int .i64 0) ∧ w.cell? ⟨b, 1, none⟩ = some (.string ⟨#[]⟩) ∧ w.cell? ⟨b, 2, none⟩ = some (.string ⟨#[]⟩) ∧ w.cell? ⟨b, 3, none⟩ = some (.int .i64 0) ∧ w.cell? ⟨b, 4, none⟩ = some (.string ⟨#[]⟩) ∧ w.cell? ⟨b, 5, none⟩ = some (.bool false) ∧ w.cell? ⟨b, 6, none⟩ = some (.slice none 0 0) ∧ w.cell? ⟨b, 7, none⟩ = some (.slice none 0 0) ∧ w.cell? ⟨b, 8, none⟩ = some (.int .i64 0) ∧ w.cell? ⟨b, 9, none⟩ = some (.int .i64 0) ∧ w.cell? ⟨b, 10, none⟩ = some (.string ⟨#[]⟩) ∧ w.cell? ⟨b, 11, none⟩ = some (.int .i64 0) ∧ w.cell? ⟨b, 12, none⟩ = some (.bool false) ∧ w.cell? ⟨b, 13, none⟩ = some (.bool false) ∧ w.cell? ⟨b, 14, none⟩ = some (.bool false) ∧ w.cell? ⟨b, 15, none⟩ = some (.slice none 0 0) ∧ ∀ i, w.frozen? ⟨b, i, none⟩ = false :=
  ⟨h.cell 0 rfl, h.cell 1 rfl, h.cell 2 rfl, h.cell 3 rfl, h.cell 4 rfl, h.cell 5 rfl, h.cell 6 rfl, h.cell 7 rfl, h.cell 8 rfl, h.cell 9 rfl, h.cell 10 rfl, h.cell 11 rfl, h.cell 12 rfl, h.cell 13 rfl, h.cell 14 rfl, h.cell 15 rfl, fun i => h.frozen i⟩

def docCells : List Value := [.int .i64 1, .string ⟨#[]⟩, .string ⟨#[]⟩, .int .i64 0, .string ⟨#[]⟩, .bool false, .slice none 0 0, .slice none 0 0, .int .i64 0, .int .i64 0, .string ⟨#[]⟩, .int .i64 0, .bool false, .bool false, .bool false, .slice none 0 0]
theorem zset {w : World} {b : Nat} {t : TypeId} {F : HP} (h : Sat w (row b t nodeZero * F)) :
    Sat ((((((((((((((((w.setCell ⟨b, 0, none⟩ (.int .i64 1)).setCell ⟨b, 1, none⟩ (.string ⟨#[]⟩)).setCell ⟨b, 2, none⟩ (.string ⟨#[]⟩)).setCell ⟨b, 3, none⟩ (.int .i64 0)).setCell ⟨b, 4, none⟩ (.string ⟨#[]⟩)).setCell ⟨b, 5, none⟩ (.bool false)).setCell ⟨b, 6, none⟩ (.slice none 0 0)).setCell ⟨b, 7, none⟩ (.slice none 0 0)).setCell ⟨b, 8, none⟩ (.int .i64 0)).setCell ⟨b, 9, none⟩ (.int .i64 0)).setCell ⟨b, 10, none⟩ (.string ⟨#[]⟩)).setCell ⟨b, 11, none⟩ (.int .i64 0)).setCell ⟨b, 12, none⟩ (.bool false)).setCell ⟨b, 13, none⟩ (.bool false)).setCell ⟨b, 14, none⟩ (.bool false)).setCell ⟨b, 15, none⟩ (.slice none 0 0)) (row b t docCells * F) :=
  ((((((((((((((((h.set 0 _).set 1 _).set 2 _).set 3 _).set 4 _).set 5 _).set 6 _).set 7 _).set 8 _).set 9 _).set 10 _).set 11 _).set 12 _).set 13 _).set 14 _).set 15 _)
theorem znew0 {w : World} {t : TypeId} {F : HP} (h : Sat w F) :
    Sat (w.alloc (.cells #[.int .i64 0, .string ⟨#[]⟩, .string ⟨#[]⟩, .int .i64 0, .string ⟨#[]⟩, .bool false, .slice none 0 0, .slice none 0 0, .int .i64 0, .int .i64 0, .string ⟨#[]⟩, .int .i64 0, .bool false, .bool false, .bool false, .slice none 0 0] t)) (row w.heap.size t nodeZero * F) := h.new nodeZero t rfl
theorem Sat.ext0 {w w' : World} {P : HP} (h : Sat w P) (hb : Below w.heap.size w w') : Sat w' P := h.ext hb
theorem znew {w : World} {t : TypeId} {F : HP} (h : Sat w F) :
    Sat (w.alloc (.cells #[.int .i64 1, .string ⟨#[]⟩, .string ⟨#[]⟩, .int .i64 0, .string ⟨#[]⟩, .bool false, .slice none 0 0, .slice none 0 0, .int .i64 0, .int .i64 0, .string ⟨#[]⟩, .int .i64 0, .bool false, .bool false, .bool false, .slice none 0 0] t)) (row w.heap.size t docCells * F) := h.new docCells t rfl

set_option maxRecDepth 100000 in
set_option maxHeartbeats 2000000 in
theorem FnBlank_w (a : Option Addr) (len cap : Nat) (zs : List Int) (W : World) (hlen : len ≤ 9223372036854775807) (hzl : len ≤ zs.length)
    (hc : ∀ i, i < len → ∃ b off, a = some ⟨b, off, none⟩ ∧ W.cell? ⟨b, off + i, none⟩ = some (.int .u8 (zs.getD i 0)) ∧ 0 ≤ zs.getD i 0 ∧ zs.getD i 0 ≤ 255) :
    Calls Tryz.prog 3 #[.slice a len cap] W fun e w' => e = .returned (.bool true) ∧ Below W.heap.size W w' := by
  obtain ⟨i0, hi, hz0, hz1, hz2⟩ := info_parts info_u8
  by_cases h1 : 1000 < len
  · go_enter Tryz.func3, Tryz.ntmps3
    go_wp2
    all_goals
      go_ret
      exact ⟨rfl, Below.refl _ _⟩
  · have hmk : ∀ w, (Instr.makeSlice 22 (.int .i64 0) (.int .i64 (len : Int))).run Tryz.prog w = .ok (.slice (some ⟨w.heap.size, 0, none⟩) 0 len) (w.alloc (.cells (madeCells #[.int .u8 0] len) 5)) := fun w => by
      have := run_make (P := Tryz.prog) w 22 5 i0 _ Tryz.underlying22 hi hz0 .i64 .i64 0 len (by omega) (by omega) (by rw [hz2]; omega) (by omega)
      rw [hz1] at this
      simpa [Value.cells] using this
    have hs0 := arr_made W len 5 (.int .u8 0) (Sl.old W) (by unfold maxLen; omega) (Sat.old W)
    have hlt : ¬ 2147483647 < len := by omega
    have hlt2 : ¬ 1000 < len := h1
    have hd1 : decide ((2147483647 : Int) < (len : Int)) = false := by simp; omega
    have hd2 : decide ((1000 : Int) < (len : Int)) = false := by simp; omega
    go_enter Tryz.func3, Tryz.ntmps3
    go_wp2
    go_loopw [3, 18] (fun v i wr => ∃ k : Nat, k ≤ len ∧ i = .int .i64 k ∧ ∃ g c, v = .slice (some ⟨g, 0, none⟩) k c ∧ Sat wr (arr 5 1 v k ((wsText (zs.take k)).map fun c => .int .u8 c.toNat) * Sl.old W)) (fun _ i _ => len - (intOf i).toNat)
    case atStart => exact ⟨0, Nat.zero_le _, rfl, _, _, rfl, hs0⟩
    case round =>
      obtain ⟨k, hk, rfl, g, c, rfl, hs⟩ := hrel
      by_cases hkl : k < len
      · obtain ⟨b, off, rfl, hcell, hlo, hhi⟩ := hc k hkl
        have hcw : wr.cell? ⟨b, off + k, none⟩ = some (.int .u8 (zs.getD k 0)) := (hs.below.cell (p := ⟨b, off + k, none⟩) (World.block_lt_of_cell? W _ hcell)).trans hcell
        clear hs0 hcell
        have hzk : zs.getD k 0 = zs[k]?.getD 0 := by simp
        rw [hzk] at hcw hlo hhi
        generalize hz : zs[k]?.getD 0 = z at hcw hlo hhi
        have HZ := Lib.hid hz
        clear hz hzk hmk
        have hm : 0 ≤ z % 4 ∧ z % 4 < 4 := by omega
        have hkey : ∀ h, (⟨#[32, 9, 10, 13]⟩ : ByteArray)[(z % 4).toNat]'h = wsOf z := by
          have hm4 : z % 4 = 0 ∨ z % 4 = 1 ∨ z % 4 = 2 ∨ z % 4 = 3 := by omega
          intro h
          rcases hm4 with e | e | e | e <;> simp [wsOf, e] <;> rfl
        have HK := Lib.hid hkey
        clear hkey
        go_wp2_with (at_builtin; refine wpList_append_sl (F := Sl.old W) rfl (.tmp 22) (.tmp 26) 22 rfl 5 i0 (.int .u8 0) 1 1 Tryz.underlying22 hi hz0 hz1 hz2 rfl (.slice (some ⟨g, 0, none⟩) k c) k ((wsText (zs.take k)).map fun c => .int .u8 c.toNat) rfl ?c0 ⟨wr.heap.size, 0, none⟩ 1 1 [.int .u8 ((⟨#[32, 9, 10, 13]⟩ : ByteArray)[(z % 4).toNat]'(by have h4 : (⟨#[32, 9, 10, 13]⟩ : ByteArray).size = 4 := rfl; omega)).toNat] rfl rfl ?c1 ?c2 ?c3 ?c4 (by decide) ?_)
        case c0 => exact (hs.alloc _).right
        case c1 => exact cells_new _ [_] _
        case c2 => intro u hu; simp only [List.mem_singleton] at hu; subst hu; rfl
        case c3 => unfold maxLen; omega
        case c4 => omega
        intro g2 c2 w2 hs2 hz2
        rw [HK.out] at hs2
        clear hs hcw
        go_wp2
        go_roundw
        case rel =>
          refine ⟨k + 1, by omega, by go_num, g2, c2, rfl, ?_⟩
          have e : (wsText (zs.take (k + 1))).map (fun c => Value.int .u8 c.toNat) = (wsText (zs.take k)).map (fun c => Value.int .u8 c.toNat) ++ [.int .u8 (wsOf z).toNat] := by
            have hzl : k < zs.length := by omega
            unfold wsText
            rw [List.take_succ_eq_append_getElem hzl, List.map_append, List.map_append]
            have : zs[k] = z := by rw [← HZ.out, List.getElem?_eq_getElem hzl]; rfl
            rw [this]; rfl
          rw [e]; exact hs2
        case measure => simp [intOf]; omega
      · obtain rfl : k = len := by omega
        have hT : (wsText (zs.take k)).length = k := by unfold wsText; rw [List.length_map, List.length_take]; omega
        have hps : Parses (B.bs (wsText (zs.take k))) docNode := blank_parses (wsText_ws _) (by omega)
        have hpr : Prints (B.bs (wsText (zs.take k))) ⟨#[]⟩ := blank_prints (wsText_ws _) (by omega)
        generalize hTT : wsText (zs.take k) = T at hs hT hps hpr
        have HPS := Lib.hid hps
        have HPR := Lib.hid hpr
        clear hps hpr
        have HTT := Lib.hid hTT
        clear hTT hc hmk hi hz0 hz1 hz2
        obtain ⟨b0, lg⟩ := hs.bytes
        have cv : ∀ w', Bytes w' g T → (convert 22 9 (.slice (some ⟨g, 0, none⟩) k c)).run Tryz.prog w' = .ok (.string (B.bs T)) w' := fun w' h => conv_bytes hT h
        have b1 : ∀ (w' : World) (o : Obj), g < w'.heap.size → Bytes w' g T → Bytes (w'.alloc o) g T := fun w' o hl h => h.alloc hl o
        have b2 : ∀ (w' : World), Bytes w' g T → Bytes w'.drew g T := fun w' h => h
        have b3 : ∀ o : Obj, Bytes (wr.alloc o).drew g T := fun o => b0.alloc lg o
        have HT := Lib.hid hT
        clear hT
        go_upto_region 11 with fail
        go_cut [6] (fun t6 wx => ∃ db : Nat, t6 = .pointer (some ⟨db, 0, none⟩) ∧ Sat wx (row db 27 docCells *
          (arr 5 1 (.slice (some ⟨g, 0, none⟩) k c) k (T.map fun c => .int .u8 c.toNat) * Sl.old W)))
        case first =>
          go_region_held2 (fun w' => Bytes w' g T) (first | with_reducible assumption | with_reducible exact b2 _ b0 | with_reducible exact b3 _ | with_reducible exact b1 _ _ (by simpa using lg) (b2 _ b0) | with_reducible exact b1 _ _ l1 y1 | with_reducible exact b1 _ _ l2 y2 | with_reducible exact (zset s2).swap.bytes.1) (first
            | (go_at_call 6; refine (plain_w _).mono ?_; rintro e w1 ⟨rfl, hb1⟩; have y1 : Bytes w1 g T := Bytes.ext (by first | exact lg | (simp; omega)) (by first | with_reducible exact b2 _ b0 | with_reducible exact b3 _) hb1; have l1 : g < w1.heap.size := by (have := hb1.size; simp at this; omega)
               first | (with_reducible have s1 := Sat.ext0 (znew0 hs).drew hb1) | (with_reducible have s1 := Sat.ext0 hs.drew hb1))
            | (go_at_call 5; refine (implParse_doc plainO rfl (B.bs T) HPS.out _).mono ?_; rintro e w2 ⟨rfl, hb2⟩
               first | (with_reducible have s2 := Sat.ext0 (znew0 s1) hb2) | (with_reducible have s2 := Sat.ext0 s1 hb2)
               have q2 := hb2.size
               have y2 : Bytes w2 g T := Bytes.ext (by first | with_reducible exact l1 | (simp; omega)) (by first | with_reducible exact y1 | with_reducible exact b1 _ _ l1 y1) hb2
               have l2 : g < w2.heap.size := by (have := hb2.size; (try simp at this); omega)
               try (obtain ⟨z0, z1, z2, z3, z4, z5, z6, z7, z8, z9, z10, z11, z12, z13, z14, z15, zf⟩ := zcells s2)))
          all_goals
            go_wp2
            go_meet
            refine ⟨_, rfl, ?_⟩
            first
              | with_reducible exact zset s2
              | with_reducible exact znew s2
        case rest =>
          obtain ⟨db, rfl, hd⟩ := hcut
          have c0 : wc.cell? ⟨db, 0, none⟩ = some (.int .i64 1) := hd.cell 0 rfl
          have c7 : wc.cell? ⟨db, 7, none⟩ = some (.slice none 0 0) := hd.cell 7 rfl
          obtain ⟨b0', lg'⟩ := hd.swap.bytes
          have HD := Lib.hid (show Below W.heap.size W wc from hd.drop1.below)
          clear b1 b2 b3 hd hs hs0 b0 lg
          have cx : ∀ x : Qt.Ext wc, (convert 22 9 (.slice (some ⟨g, 0, none⟩) k c)).run Tryz.prog x.w = .ok (.string (B.bs T)) x.w := fun x => cv _ (b0'.ext lg' x.below)
          clear cv
          go_wp2_with fail
          refine Qt.wp_region (fun w' => ∃ x : Qt.Ext wc, w' = x.w) 4 (by kernel_rfl) (by kernel_rfl) (Qt.Ext.start wc) ?_
          simp only [List.take_succ_cons, List.take_zero, List.drop_succ_cons, List.drop_zero]
          repeat (quiet_step (first
            | (rename_i x; go_at_call 6; exact x.call (plain_w _))
            | (rename_i x; go_at_call 7; exact x.call (HTML_b plainO rfl (B.bs T) ⟨#[]⟩ HPR.out _))))
          refine wpQuiet_nil ?_
          rintro _ ⟨x, rfl⟩
          have k0 := x.cell c0
          have k7 := x.cell c7
          go_wp2
          go_ret
          exact ⟨rfl, HD.out.trans (x.below.mono HD.out.size)⟩

end Go.Proofs.YtegnaedkalobgaaGreatDoor
