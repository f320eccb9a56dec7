/- The HTML of a block of code, where nothing is printed ahead of it. -/
import Derived.Test.YtmdabdpghcjplaaGreatDoorDp
import Derived.Test.YtmdabdpghcjplaaGreatDoorEs
import Derived.Test.YtmdabdpghcjplaaGreatDoorN2
namespace Go.Proofs.YtmdabdpghcjplaaGreatDoor
open Go.RowKit Sl

def codeHead : List UInt8 := [60, 112, 114, 101, 62, 60, 99, 111, 100, 101]
def codeFoot : List UInt8 := [60, 47, 99, 111, 100, 101, 62, 60, 47, 112, 114, 101, 62, 10]
/-- The lines of a block of code, as HTML. -/
def codeLines (txt : List (List UInt8)) : List UInt8 := txt.flatMap fun s => htmlPairs.esc s ++ [10]
def codeHTML (txt : List (List UInt8)) : List UInt8 := codeHead ++ [62] ++ codeLines txt ++ codeFoot

theorem codeLines_take (txt : List (List UInt8)) (k : Nat) (h : k < txt.length) : codeLines (txt.take (k + 1)) = codeLines (txt.take k) ++ htmlPairs.esc txt[k] ++ [10] := by
  unfold codeLines
  rw [List.take_succ_eq_append_getElem h, List.flatMap_append]; simp
theorem codeLines_take_le (txt : List (List UInt8)) (k : Nat) : (codeLines (txt.take k)).length ≤ (codeLines txt).length := by
  have := congrArg (fun x => (codeLines x).length) (List.take_append_drop k txt)
  unfold codeLines at *
  simp only [List.flatMap_append, List.length_append] at this
  omega

def strCells (txt : List (List UInt8)) : List Value := txt.map fun s => .string (B.bs s)

/-- What lets the printing of an indented block stop: its last line is not blank; a fenced one has a fence. -/
def codeOk (fence : ByteArray) (txt : List (List UInt8)) : Prop := fence.toList.isEmpty = false ∨ (fence = ⟨#[]⟩ ∧ ∃ s, txt.getLast? = some s ∧ B.trimR (B.trimL s) ≠ [])

set_option maxRecDepth 100000 in
set_option maxHeartbeats 2000000 in
theorem codePrint_w (d b : Nat) (st en : Value) (fence : ByteArray) (ts : SV) (txt : List (List UInt8)) (F : HP) (W w : World) (htl : ts.len = txt.length) (hn : txt.length ≤ 1000000) (hsz : ∀ s ∈ txt, s.length ≤ 1000000000)
    (hs : Sat W (row d 371 [st, en, .string fence, .string ⟨#[]⟩, ts.v] * (arr 9 1 ts.v ts.len (strCells txt) * F))) (hf : codeOk fence txt)
    (hb : Below W.heap.size W w) (hB : IsBuf W.heap.size b [] w) (hl : (codeHTML txt).length ≤ 1000000000000) :
    Calls Tryz.prog 337 #[.pointer (some ⟨d, 0, none⟩), .pointer (some ⟨b, 0, none⟩)] w fun e w' => e = .returned (.tuple #[]) ∧ IsBuf W.heap.size b (codeHTML txt) w' ∧ Below W.heap.size W w' := by
  have hd : ∀ w', Below W.heap.size W w' → w'.cell? ⟨d, 2, none⟩ = some (.string fence) ∧ w'.cell? ⟨d, 3, none⟩ = some (.string ⟨#[]⟩) ∧ w'.cell? ⟨d, 4, none⟩ = some (.slice ts.a ts.len ts.cap) := fun w' hb' =>
    ⟨(hb'.cell (p := ⟨d, 2, none⟩) hs.row_lt).trans (hs.cell 2 rfl), (hb'.cell (p := ⟨d, 3, none⟩) hs.row_lt).trans (hs.cell 3 rfl), (hb'.cell (p := ⟨d, 4, none⟩) hs.row_lt).trans (hs.cell 4 rfl)⟩
  have hc : ∀ w' k, Below W.heap.size W w' → (h : k < txt.length) → ∃ g, ts.a = some ⟨g, 0, none⟩ ∧ w'.cell? ⟨g, k, none⟩ = some (.string (B.bs txt[k])) := by
    intro w' k hb' hk
    rcases hs.swap.arr_cases with ⟨_, h, hx, _⟩ | ⟨g, cap, junk, hv, _, _, _, _, hr⟩
    · omega
    · refine ⟨g, ?_, ?_⟩
      · unfold SV.v at hv
        injection hv with h1 h2 h3
      · refine (hb'.cell (p := ⟨g, k, none⟩) hr.row_lt).trans (hr.cell k ?_)
        rw [List.getElem?_append_left (by simpa [strCells] using hk)]
        simp [strCells, hk]
  have HD := Lib.hid hd
  have HC := Lib.hid hc
  rw [htl] at HD
  clear hd hc hs htl
  unfold codeHTML at hl
  simp only [List.length_append, List.length_singleton] at hl
  have hl1 : codeHead.length = 10 := rfl
  have hl2 : codeFoot.length = 14 := rfl
  go_enter Tryz.func337, Tryz.ntmps337
  go_wp2_with fail
  refine (Sh.Buffer_Len W.heap.size b _ w hB).mono ?_
  rintro e w1 ⟨rfl, m, rfl⟩
  rw [show (Lib.byteCells []).length = 0 from rfl]
  go_wp2_with fail
  refine (bufWrite_w W b [] ⟨#[60, 112, 114, 101, 62, 60, 99, 111, 100, 101]⟩ _ (Below.drewN' hb m) (show IsBuf W.heap.size b [] (w.drewN m) from hB) (by decide)).mono ?_
  rintro e w2 ⟨rfl, hB2, hb2⟩
  obtain ⟨d2, d3, d4⟩ := HD.out w2 hb2
  go_wp2_with fail
  refine (bufWrite_w W b _ ⟨#[62]⟩ w2 hb2 hB2 (by simp only [List.length_append]; decide)).mono ?_
  rintro e w3 ⟨rfl, hB3', hb3⟩
  have hB3 : IsBuf W.heap.size b (codeHead ++ [62]) w3 := hB3'
  clear hB2 hb2 hB3' hb hB
  rcases hf with hf | ⟨rfl, s0, hs0, hs1⟩
  · obtain ⟨d2, d3, d4⟩ := HD.out w3 hb3
    go_wp2_with fail
    go_loopw [101] (fun i wr => ∃ k : Nat, k ≤ txt.length ∧ i = .int .i64 k ∧ IsBuf W.heap.size b (codeHead ++ [62] ++ codeLines (txt.take k)) wr ∧ Below W.heap.size W wr) (fun i _ => txt.length - (intOf i).toNat)
    case atStart => exact ⟨0, Nat.zero_le _, rfl, by simpa [codeLines] using hB3, hb3⟩
    case round =>
      obtain ⟨k, hk, rfl, hB4, hb4⟩ := hrel
      clear hB3 hb3 d2 d3 d4
      by_cases hlt : k < txt.length
      · obtain ⟨g, hg, ck⟩ := HC.out wr k hb4 hlt
        have hsl := hsz txt[k] (List.getElem_mem hlt)
        have hts := codeLines_take txt k hlt
        have hle := codeLines_take_le txt (k + 1)
        rw [hts] at hle
        simp only [List.length_append, List.length_singleton] at hle
        rw [hg]
        generalize txt[k] = s at ck hsl hts hle
        have HTS := Lib.hid hts
        clear hts
        go_wp2_with fail
        refine (htmlEscaper_w wr).mono ?_
        rintro e w4 ⟨rfl, rfl⟩
        have ha := (Below.refl wr.heap.size wr).alloc (Nat.le_refl _) (.cells htmlPairs.cells.toArray 9)
        have hrep := pairsReplace_w htmlPairs wr.heap.size s (wr.alloc (.cells htmlPairs.cells.toArray 9)) (by decide) hsl (heap_alloc_new wr _) (by omega)
        have HREP := Lib.hid hrep
        clear hrep
        go_wp2_with fail
        refine HREP.out.mono ?_
        rintro e w5 ⟨rfl, hb5⟩
        have hB5 : IsBuf W.heap.size b _ w5 := (hB4.below ha).below hb5
        have hb6 : Below W.heap.size W w5 := (hb4.trans (ha.mono hb4.size)).trans (hb5.mono (by simp; have := hb4.size; omega))
        go_wp2_with fail
        refine (bufWrite_w W b _ (B.bs (htmlPairs.esc s)) w5 hb6 hB5 (by rw [B.bs_size]; simp only [List.length_append, List.length_singleton]; omega)).mono ?_
        rintro e w6 ⟨rfl, hB6, hb7⟩
        go_wp2_with fail
        refine (bufWrite_w W b _ ⟨#[10]⟩ w6 hb7 hB6 (by simp only [List.length_append, List.length_singleton, B.bs_data]; show _ + 1 ≤ _; omega)).mono ?_
        rintro e w7 ⟨rfl, hB7, hb8⟩
        go_wp2
        go_roundw
        case rel => exact ⟨k + 1, by omega, by go_num, by rw [HTS.out]; simpa [List.append_assoc, B.bs_data] using hB7, hb8⟩
        case measure => simp [intOf]; omega
      · obtain rfl : k = txt.length := by omega
        rw [List.take_of_length_le (Nat.le_refl _)] at hB4
        go_wp2_with fail
        refine (bufWrite_w W b _ ⟨#[60, 47, 99, 111, 100, 101, 62, 60, 47, 112, 114, 101, 62, 10]⟩ wr hb4 hB4 (by simp only [List.length_append, List.length_singleton]; show _ + 14 ≤ _; omega)).mono ?_
        rintro e w6 ⟨rfl, hB6, hb7⟩
        go_wp2
        go_end0
        exact ⟨rfl, by simpa [codeHTML, codeFoot, List.append_assoc] using hB6, hb7⟩
  · obtain ⟨n, hne⟩ : ∃ n, txt.length = n + 1 := by
      cases txt with
      | nil => simp at hs0
      | cons a b => exact ⟨b.length, rfl⟩
    have hlast : txt[n]'(by omega) = s0 := by
      rw [List.getLast?_eq_getElem?, hne] at hs0
      simpa [show n < txt.length by omega] using hs0
    have hs2 := hsz s0 (by rw [← hlast]; exact List.getElem_mem _)
    have htr : (B.bs (B.trimR (B.trimL s0))).toList.isEmpty = false := by
      rw [Lib.toList_data, B.bs_data]
      cases h : B.trimR (B.trimL s0) with
      | nil => exact absurd h hs1
      | cons => rfl
    obtain ⟨g0, hg0, c0⟩ := HC.out w3 n hb3 (by omega)
    rw [hlast] at c0
    obtain ⟨d2, d3, d4⟩ := HD.out w3 hb3
    rw [hne, hg0] at d4
    go_wp2_with fail
    refine wp_loop_once ?_
    go_wp2_with fail
    go_quiet ((go_at_call 66; exact quiet_same (trimSpaceTab_w s0 _ (by omega))))
    have hb3' := Below.drewN' hb3 nq
    have hB3' : IsBuf W.heap.size b (codeHead ++ [62]) (w3.drewN nq) := hB3
    clear hb3 hB3 d2 d3 d4 c0
    generalize w3.drewN nq = w3 at hb3' hB3' ⊢
    have hb3 := hb3'
    have hB3 := hB3'
    clear hb3' hB3'
    obtain ⟨d2, d3, d4⟩ := HD.out w3 hb3
    go_wp2_with fail
    go_loopw [101] (fun i wr => ∃ k : Nat, k ≤ txt.length ∧ i = .int .i64 k ∧ IsBuf W.heap.size b (codeHead ++ [62] ++ codeLines (txt.take k)) wr ∧ Below W.heap.size W wr) (fun i _ => txt.length - (intOf i).toNat)
    case atStart => exact ⟨0, Nat.zero_le _, rfl, by simpa [codeLines] using hB3, hb3⟩
    case round =>
      obtain ⟨k, hk, rfl, hB4, hb4⟩ := hrel
      clear hB3 hb3 d2 d3 d4
      by_cases hlt : k < txt.length
      · obtain ⟨g, hg, ck⟩ := HC.out wr k hb4 hlt
        have hsl := hsz txt[k] (List.getElem_mem hlt)
        have hts := codeLines_take txt k hlt
        have hle := codeLines_take_le txt (k + 1)
        rw [hts] at hle
        simp only [List.length_append, List.length_singleton] at hle
        have hgg : g0 = g := by have := hg0.symm.trans hg; simpa using this
        subst hgg
        generalize txt[k] = s at ck hsl hts hle
        have HTS := Lib.hid hts
        clear hts
        go_wp2_with fail
        refine (htmlEscaper_w wr).mono ?_
        rintro e w4 ⟨rfl, rfl⟩
        have ha := (Below.refl wr.heap.size wr).alloc (Nat.le_refl _) (.cells htmlPairs.cells.toArray 9)
        have hrep := pairsReplace_w htmlPairs wr.heap.size s (wr.alloc (.cells htmlPairs.cells.toArray 9)) (by decide) hsl (heap_alloc_new wr _) (by omega)
        have HREP := Lib.hid hrep
        clear hrep
        go_wp2_with fail
        refine HREP.out.mono ?_
        rintro e w5 ⟨rfl, hb5⟩
        have hB5 : IsBuf W.heap.size b _ w5 := (hB4.below ha).below hb5
        have hb6 : Below W.heap.size W w5 := (hb4.trans (ha.mono hb4.size)).trans (hb5.mono (by simp; have := hb4.size; omega))
        go_wp2_with fail
        refine (bufWrite_w W b _ (B.bs (htmlPairs.esc s)) w5 hb6 hB5 (by rw [B.bs_size]; simp only [List.length_append, List.length_singleton]; omega)).mono ?_
        rintro e w6 ⟨rfl, hB6, hb7⟩
        go_wp2_with fail
        refine (bufWrite_w W b _ ⟨#[10]⟩ w6 hb7 hB6 (by simp only [List.length_append, List.length_singleton, B.bs_data]; show _ + 1 ≤ _; omega)).mono ?_
        rintro e w7 ⟨rfl, hB7, hb8⟩
        go_wp2
        go_roundw
        case rel => exact ⟨k + 1, by omega, by go_num, by rw [HTS.out]; simpa [List.append_assoc, B.bs_data] using hB7, hb8⟩
        case measure => simp [intOf]; omega
      · obtain rfl : k = txt.length := by omega
        rw [List.take_of_length_le (Nat.le_refl _)] at hB4
        go_wp2_with fail
        refine (bufWrite_w W b _ ⟨#[60, 47, 99, 111, 100, 101, 62, 60, 47, 112, 114, 101, 62, 10]⟩ wr hb4 hB4 (by simp only [List.length_append, List.length_singleton]; show _ + 14 ≤ _; omega)).mono ?_
        rintro e w6 ⟨rfl, hB6, hb7⟩
        go_wp2
        go_end0
        exact ⟨rfl, by simpa [codeHTML, codeFoot, List.append_assoc] using hB6, hb7⟩

end Go.Proofs.YtmdabdpghcjplaaGreatDoor
