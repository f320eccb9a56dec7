/- A new text; a heading begun by marks. -/
import Derived.Test.YtmdabdpghcjplaaGreatDoorG5
import Derived.Test.YtmdabdpghcjplaaGreatDoorH1
import Derived.Test.YtmdabdpghcjplaaGreatDoorN8
import Derived.Test.YtmdabdpghcjplaaGreatDoorAr
namespace Go.Proofs.YtmdabdpghcjplaaGreatDoor
open Go.RowKit Sl

theorem info_pText : (Tryz.prog.info? 106).map (fun i => (i.zero, i.size, i.bytes)) = some (some (.pointer none), 1, 8) := by kernel_rfl

set_option maxRecDepth 100000 in
set_option maxHeartbeats 1000000 in
theorem newText_w (p : Nat) (st en : Int) (raw : ByteArray) (x : PSt) (items : List Value) (F : HP) (w : World) (hn : x.texts.len ≤ 1000000000)
    (hs : Sat w (row p 96 x.cells * (arr 106 1 x.texts.v x.texts.len items * F))) :
    Calls Tryz.prog 134 #[.pointer (some ⟨p, 0, none⟩), .agg #[.int .i64 st, .int .i64 en], .string raw] w fun e w' => ∃ (tb : Nat) (tx : SV), e = .returned (.pointer (some ⟨tb, 0, none⟩)) ∧ tx.len = x.texts.len + 1 ∧
      Sat w' (row p 96 { x with texts := tx }.cells * (arr 106 1 tx.v tx.len (items ++ [.pointer (some ⟨tb, 0, none⟩)]) * (row tb 111 [.int .i64 st, .int .i64 en, .slice none 0 0, .string raw] * F))) := by
  obtain ⟨i0, hi, hz0, hz1, hz2⟩ := info_parts info_pText
  have h1 := hs.new (d := w.heap.size) [.int .i64 st, .int .i64 en] 109 rfl
  have h2 := h1.new (d := w.heap.size + 1) [.int .i64 st, .int .i64 en, .slice none 0 0, .string raw] 111 (by simp)
  have h3 := h2.new (d := w.heap.size + 2) [.pointer (some ⟨w.heap.size + 1, 0, none⟩)] 106 (by simp)
  have hsC := h3.cast (show _ = arr 106 1 x.texts.v x.texts.len items * (row (w.heap.size + 2) 106 [.pointer (some ⟨w.heap.size + 1, 0, none⟩)] * (row p 96 x.cells * (row (w.heap.size + 1) 111 [.int .i64 st, .int .i64 en, .slice none 0 0, .string raw] * (row w.heap.size 109 [.int .i64 st, .int .i64 en] * F)))) from by ac_rfl)
  obtain ⟨f0, f1, f2, f3, f4, f5, f6, f7, f8, f9, f10, f11, fz, hlp⟩ := PSt.facts hs
  clear f0 f1 f2 f3 f4 f5 f6 f7 f8 f9 f10 h1 h2 h3 hs
  have HC := Lib.hid hsC
  clear hsC
  go_enter Tryz.func134, Tryz.ntmps134
  go_wp2_with (at_builtin; refine wpList_append_sl rfl (.tmp 16) (.tmp 18) 91 rfl 106 i0 (.pointer none) 1 8 Tryz.underlying91 hi hz0 hz1 hz2 rfl x.texts.v x.texts.len items rfl HC.out ⟨w.heap.size + 2, 0, none⟩ 1 1 [.pointer (some ⟨w.heap.size + 1, 0, none⟩)] rfl rfl (news_one (HC.out.swap.cell 0 rfl)) (by intro u hu; simp at hu; rcases hu with rfl; rfl) (by unfold maxLen; omega) (by omega) (by decide) ?_)
  intro g2 cap2 w1 hs1 hz1
  clear hz1
  have k11 : w1.cell? ⟨p, 11, none⟩ = some (.slice x.texts.a x.texts.len x.texts.cap) := hs1.third.cell 11 rfl
  have kf := fun i => hs1.third.frozen i
  have s2 := hs1.third.set 11 (.slice (some ⟨g2, 0, none⟩) (x.texts.len + 1) cap2)
  have S2 := Lib.hid s2
  clear hs1 s2
  go_wp2
  go_ret
  refine ⟨w.heap.size + 1, ⟨some ⟨g2, 0, none⟩, x.texts.len + 1, cap2⟩, rfl, rfl, ?_⟩
  have s3 := S2.out.cast (show _ = row w.heap.size 109 [.int .i64 st, .int .i64 en] * (row (w.heap.size + 2) 106 [.pointer (some ⟨w.heap.size + 1, 0, none⟩)] * (row p 96 { x with texts := ⟨some ⟨g2, 0, none⟩, x.texts.len + 1, cap2⟩ }.cells * (arr 106 1 (.slice (some ⟨g2, 0, none⟩) (x.texts.len + 1) cap2) (x.texts.len + 1) (items ++ [.pointer (some ⟨w.heap.size + 1, 0, none⟩)]) * (row (w.heap.size + 1) 111 [.int .i64 st, .int .i64 en, .slice none 0 0, .string raw] * F)))) from by
    rw [show x.cells.set 11 (.slice (some ⟨g2, 0, none⟩) (x.texts.len + 1) cap2) = ({ x with texts := ⟨some ⟨g2, 0, none⟩, x.texts.len + 1, cap2⟩ } : PSt).cells from rfl]
    ac_rfl)
  exact s3.drop1.drop1

/-- A new text, in the words of the general state. -/
theorem newText_d (pb p : Nat) (oc : List Value) (v : DV) (st en : Int) (raw : List UInt8) (F : HP) (w : World) (hn : v.ptrs.length < 1000000000) (hs : Sat w (Dsp pb oc v p * F)) :
    Calls Tryz.prog 134 #[.pointer (some ⟨p, 0, none⟩), .agg #[.int .i64 st, .int .i64 en], .string (B.bs raw)] w fun e w' => ∃ tb : Nat, e = .returned (.pointer (some ⟨tb, 0, none⟩)) ∧
      Sat w' (Dsp pb oc { v with ptrs := v.ptrs ++ [.pointer (some ⟨tb, 0, none⟩)] } p * (row tb 111 [.int .i64 st, .int .i64 en, .slice none 0 0, .string (B.bs raw)] * F)) := by
  obtain ⟨h, ⟨hf1, hf2, hf3, hf4⟩, h1⟩ := dsp_iff.1 hs
  have h2 := h1.cast (show _ = row p 96 (v.ps pb h).cells * (arr 106 1 h.tx.v h.tx.len v.ptrs * (arr 122 4 (.slice (some ⟨h.g, 0, none⟩) v.obs.length h.cap) v.obs.length (obCells v.obs) * (obOwn v.obs * (row pb 78 oc * F)))) from by ac_rfl)
  refine (newText_w p st en (B.bs raw) (v.ps pb h) v.ptrs _ w (by show h.tx.len ≤ _; omega) h2).mono ?_
  rintro e w' ⟨tb, tx, rfl, htx, h5⟩
  refine ⟨tb, rfl, dsp_iff.2 ⟨⟨h.g, h.cap, h.corner, tx⟩, ⟨?_, ?_, hf3, hf4⟩, ?_⟩⟩
  · show tx.len = (v.ptrs ++ [_]).length
    rw [htx, List.length_append]
    show h.tx.len + 1 = _
    rw [hf1]; rfl
  · show (v.ptrs ++ [_]).length ≤ _
    rw [List.length_append]
    show v.ptrs.length + 1 ≤ _
    omega
  · exact h5.cast (by
      show row p 96 (DV.ps { v with ptrs := v.ptrs ++ [.pointer (some ⟨tb, 0, none⟩)] } pb ⟨h.g, h.cap, h.corner, tx⟩).cells * _ = _
      ac_rfl)

end Go.Proofs.YtmdabdpghcjplaaGreatDoor
