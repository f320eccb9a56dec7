/- withoutByte. -/
import Derived.Test.YtmdabdpghcjplaaGreatDoorIx
import Derived.Test.YtmdabdpghcjplaaGreatDoorSb
import Derived.Laws.IdiomStrings
namespace Go.Proofs.YtmdabdpghcjplaaGreatDoor
open Go.RowKit Sl

/-- A row of bytes that begins with these. -/
def BytesR (w : World) (g : Nat) (l : List UInt8) : Prop := ∀ j (hj : j < l.length), w.cell? ⟨g, j, none⟩ = some (.int .u8 l[j].toNat)

theorem conv_bytesR {w : World} {g n c : Nat} {l : List UInt8} (hn : l.length = n) (h : BytesR w g l) : (convert 56 9 (.slice (some ⟨g, 0, none⟩) n c)).run Tryz.prog w = .ok (.string (B.bs l)) w := by
  subst hn
  refine run_convert_bytes_back w 56 9 5 ⟨g, 0, none⟩ c l Tryz.underlying56 Tryz.underlying5 Tryz.underlying9 fun j hj => ?_
  have hadd : (⟨g, 0, none⟩ : Addr).add j = ⟨g, j, none⟩ := by unfold Addr.add; split <;> simp_all
  rw [hadd]
  exact h j hj

theorem Sl.Sat.bytesR {w : World} {g n c : Nat} {l : List UInt8} {F : HP} (h : Sat w (arr 5 1 (.slice (some ⟨g, 0, none⟩) n c) n (l.map fun c => .int .u8 c.toNat) * F)) : BytesR w g l ∧ g < w.heap.size := by
  obtain ⟨junk, _, _, _, _, hr⟩ := h.arr_row
  refine ⟨fun j hj => hr.cell j ?_, hr.row_lt⟩
  rw [List.getElem?_append_left (by simpa using hj)]
  simp [hj]

/-- The printable letters but c, as far as the k-th. -/
def alphaTo (c : UInt8) (k : Nat) : List UInt8 := ((List.range k).map fun i => (32 + i).toUInt8).filter (· != c)

theorem alphaTo_succ (c : UInt8) (k : Nat) : alphaTo c (k + 1) = alphaTo c k ++ (if (32 + k).toUInt8 = c then [] else [(32 + k).toUInt8]) := by
  unfold alphaTo
  rw [List.range_succ, List.map_append, List.filter_append, List.map_cons, List.map_nil]
  congr 1
  generalize (32 + k).toUInt8 = d
  by_cases h : d = c
  · rw [if_pos h]; simp [h]
  · rw [if_neg h]; simp [h]

theorem alphaTo_len (c : UInt8) (k : Nat) : (alphaTo c k).length ≤ k := by
  unfold alphaTo
  have := List.length_filter_le (· != c) ((List.range k).map fun i => (32 + i).toUInt8)
  simpa using this

theorem wrap_u8_small {z : Int} (h0 : 0 ≤ z) (h1 : z < 256) : IntKind.u8.wrap z = z := by
  unfold IntKind.wrap
  have e : (2 : Int) ^ IntKind.u8.bits = 256 := rfl
  simp only [e]
  rw [Int.emod_eq_of_lt h0 h1]
  rfl

set_option maxRecDepth 100000 in
set_option maxHeartbeats 1000000 in
theorem withoutByte_w (c : UInt8) (w : World) (F : HP) (hs : Sat w F) :
    Calls Tryz.prog 17 #[.int .u8 c.toNat] w fun e w' => e = .returned (.string (B.bs (alphaTo c 95))) ∧ Sat w' F := by
  obtain ⟨i0, hi, hz0, hz1, hz2⟩ := info_parts info_byte
  have hs0 : Sat (w.alloc (.cells #[] 5)) (arr 5 1 (.slice (some ⟨w.heap.size, 0, none⟩) 0 0) 0 ((alphaTo c 0).map fun c => .int .u8 c.toNat) * F) := by
    refine arr_mk (junk := []) rfl (Nat.zero_le _) (by decide) rfl ?_
    exact hs.new (d := w.heap.size) [] 5 rfl
  go_enter Tryz.func17, Tryz.ntmps17
  go_wp2_with fail
  go_loopw [3, 4] (fun v i wr => ∃ (k g cp : Nat), k ≤ 95 ∧ i = .int .u8 ((32 + k : Nat) : Int) ∧ v = .slice (some ⟨g, 0, none⟩) (alphaTo c k).length cp ∧ Sat wr (arr 5 1 v (alphaTo c k).length ((alphaTo c k).map fun c => .int .u8 c.toNat) * F)) (fun _ i _ => 127 - (intOf i).toNat)
  case atStart => exact ⟨0, _, _, Nat.zero_le _, rfl, rfl, hs0⟩
  case round =>
    obtain ⟨k, g, cp, hk, rfl, rfl, h⟩ := hrel
    by_cases hlt : k < 95
    · obtain ⟨d, hd⟩ : ∃ d : UInt8, d = (32 + k).toUInt8 := ⟨_, rfl⟩
      have hdn : 32 + k = d.toNat := by rw [hd]; simp; omega
      have hsu := alphaTo_succ c k
      rw [← hd] at hsu
      have hlen := alphaTo_len c k
      generalize hA : alphaTo c k = A at h hsu hlen
      have hwr : IntKind.u8.wrap ((d.toNat : Int) + 1) = ((32 + (k + 1) : Nat) : Int) := by
        rw [show ((32 + (k + 1) : Nat) : Int) = (d.toNat : Int) + 1 by omega]
        exact wrap_u8_small (by omega) (by omega)
      have hle : decide ((d.toNat : Int) ≤ 126) = true := by simp; omega
      rw [hdn]
      clear hA hs0
      by_cases hdc : d = c
      · subst hdc
        rw [if_pos rfl, List.append_nil] at hsu
        have HSU := Lib.hid hsu
        have HD := Lib.hid hdn
        clear hsu hd hdn
        go_wp2
        go_roundw
        case rel => exact ⟨k + 1, g, cp, by omega, rfl, by rw [HSU.out], by rw [HSU.out]; exact h⟩
        case measure => have := HD.out; simp [intOf]; omega
      · have hne : (((d.toNat : Int)) == (c.toNat : Int)) = false := u8_ne hdc
        rw [if_neg hdc] at hsu
        have HSU := Lib.hid hsu
        have HD := Lib.hid hdn
        clear hsu hd hdn
        go_wp2_with (at_builtin; refine wpList_append_sl (F := row wr.heap.size 5 [.int .u8 d.toNat] * F) rfl (.tmp 13) (.tmp 15) 56 rfl 5 i0 (.int .u8 0) 1 1 Tryz.underlying56 hi hz0 hz1 hz2 rfl (.slice (some ⟨g, 0, none⟩) A.length cp) A.length (A.map fun c => .int .u8 c.toNat) rfl ?c0 ⟨wr.heap.size, 0, none⟩ 1 1 [.int .u8 d.toNat] rfl rfl ?c1 ?c2 ?c3 ?c4 (by decide) ?_)
        case c0 => exact (h.new (d := wr.heap.size) [.int .u8 d.toNat] 5 rfl).swap
        case c1 => exact cells_new _ [_] _
        case c2 => intro u hu; simp only [List.mem_singleton] at hu; subst hu; rfl
        case c3 => unfold maxLen; omega
        case c4 => omega
        intro g2 c2 w2 hs2 hz2
        have H2 := Lib.hid hs2
        clear hs2 h
        go_wp2
        go_roundw
        case rel =>
          refine ⟨k + 1, g2, c2, by omega, rfl, ?_, ?_⟩
          · rw [HSU.out, List.length_append]; rfl
          · rw [HSU.out, List.length_append, List.map_append]
            exact H2.out.drop2
        case measure => have := HD.out; simp [intOf]; omega
    · obtain rfl : k = 95 := by omega
      obtain ⟨hb, hg⟩ := h.bytesR
      have hcv := conv_bytesR (c := cp) rfl hb
      generalize hA : alphaTo c 95 = A at *
      generalize A.length = n at *
      have H := Lib.hid h
      clear h
      go_wp2
      go_ret
      exact ⟨by rw [hA]; rfl, H.out.drop1⟩

end Go.Proofs.YtmdabdpghcjplaaGreatDoor
