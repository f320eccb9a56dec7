/- A fence: trimString, trimFence. -/
import Derived.Test.YtmdabdpghcjplaaGreatDoorN8
import Derived.Test.YtmdabdpghcjplaaGreatDoorN2
import Derived.Test.YtmdabdpghcjplaaGreatDoorUn
import Derived.Deep.DeepCutAuto
namespace Go.Proofs.YtmdabdpghcjplaaGreatDoor
open Go.RowKit Sl

set_option maxHeartbeats 1000000 in
theorem trimString_w (b : Nat) (x : Ln) (w : World) (F : HP) (hx : x.OK) (hs : Sat w (row b 105 x.cells * F)) :
    Calls Tryz.prog 184 #[.pointer (some ⟨b, 0, none⟩)] w fun e w' => e = .returned (.string (B.bs (B.trimR (B.trimL x.rest)))) ∧ ∃ m, w' = w.drewN m := by
  obtain ⟨c0, c1, c2, c3, c4, cf⟩ := line_cells hs
  have hz : x.rest.length ≤ 1000000000000 := by
    have := hx.size
    unfold Ln.rest
    rw [List.length_drop, ← B.size_data]; omega
  have hi := hx.i
  have he : x.text.extract x.i x.text.size = B.bs x.rest := B.extract_end _ _
  clear c0 c2 c4 cf hs
  have HE := Lib.hid he
  clear he
  go_enter Tryz.func184, Tryz.ntmps184
  go_wp2
  go_quiet ((go_at_call 66; rw [HE.out]; exact quiet_same (trimSpaceTab_w _ _ hz)))
  go_wp2
  go_ret
  exact ⟨rfl, _, rfl⟩

/-- A fence in a line: k signs c, then r. -/
structure FenceAt (X : Ln) (c : UInt8) (k : Nat) (r : List UInt8) : Prop where
  rest : X.rest = List.replicate k c ++ r
  stop : r.head? ≠ some c

/-- Why a run of signs is no fence. -/
def NoFence (c : UInt8) (k : Nat) : Prop := k < 3 ∨ c = 96

theorem peek_rest {X : Ln} {c : UInt8} (h : X.peek = c) (hc : c ≠ 32) : X.spaces = 0 := by
  unfold Ln.peek at h
  by_cases hs : 0 < X.spaces
  · rw [if_pos hs] at h; exact absurd h.symm hc
  · omega

theorem trimL_len (l : List UInt8) : (B.trimL l).length ≤ l.length := (List.dropWhile_suffix _).length_le
theorem trimR_len (l : List UInt8) : (B.trimR l).length ≤ l.length := by
  unfold B.trimR
  have := (List.dropWhile_suffix (l := l.reverse) B.isST).length_le
  simpa using this
theorem trimST_len (l : List UInt8) : (B.trimR (B.trimL l)).length ≤ l.length := Nat.le_trans (trimR_len _) (trimL_len _)

set_option maxRecDepth 100000 in
set_option maxHeartbeats 2000000 in
theorem trimFence_w (b fb ib nb : Nat) (x X : Ln) (c : UInt8) (f0 i0 : Value) (n0 : Int) (w : World) (F : HP) (hx : x.OK) (hsz : x.text.size ≤ 1000000) (hX : Ln.item 3 x = X) (hc : X.peek = c) (hcc : c = 96 ∨ c = 126) (hE : ∀ w', Sat w' F → Ents w')
    (hs : Sat w (row b 105 x.cells * (row nb 3 [.int .i64 n0] * (row fb 9 [f0] * (row ib 9 [i0] * F))))) :
    Calls Tryz.prog 143 #[.pointer (some ⟨b, 0, none⟩), .pointer (some ⟨fb, 0, none⟩), .pointer (some ⟨ib, 0, none⟩), .pointer (some ⟨nb, 0, none⟩)] w fun e w' => ∃ (n k : Nat) (r : List UInt8), FenceAt X c k r ∧ (x.trimSpace 1 1 false = none → n = 0) ∧
      ((e = .returned (.bool true) ∧ 3 ≤ k ∧ ∃ info : List UInt8, (B.trimR (B.trimL r) = [] → info = []) ∧ Sat w' (row b 105 Ln.zero.cells * (row nb 3 [.int .i64 n] * (row fb 9 [.string (B.bs (List.replicate k c))] * (row ib 9 [.string (B.bs info)] * F))))) ∨
       (e = .returned (.bool false) ∧ NoFence c k ∧ Sat w' (row b 105 x.cells * (row nb 3 [.int .i64 n] * (row fb 9 [f0] * (row ib 9 [i0] * F)))))) := by
  have h3 := ((hs.swap.set 0 (.int .i64 0)).new (d := w.heap.size) x.cells 105 (by simp)).swap
  obtain ⟨c0, c1, c2, c3, c4, cf⟩ := line_cells hs
  have hbl := hs.row_lt
  have e0 : w.cell? ⟨nb, 0, none⟩ = some (.int .i64 n0) := hs.swap.cell 0 rfl
  have ez := fun i => hs.swap.frozen i
  have hnl := hs.swap.row_lt
  have hXo := Ln.item_ok (k := 3) hx
  rw [hX] at hXo
  obtain ⟨hXo, hXt, hXn⟩ := hXo
  have hX0 : X.spaces = 0 := peek_rest hc (by rcases hcc with rfl | rfl <;> decide)
  have HX := Lib.hid hX
  have HC := Lib.hid hc
  have H3 := Lib.hid h3
  clear h3 hs hX hc
  go_enter Tryz.func143, Tryz.ntmps143
  go_upto_block 0 with fail
  go_cut [] (fun wx => ∃ n : Nat, n ≤ 3 ∧ (x.trimSpace 1 1 false = none → n = 0) ∧ Sat wx (row nb 3 [.int .i64 (n : Int)] * (row w.heap.size 105 X.cells * (row b 105 x.cells * (row fb 9 [f0] * (row ib 9 [i0] * F))))))
  case first =>
    go_wp2_with fail
    obtain ⟨P, hP⟩ : ∃ P : Nat → World → Prop, P = fun k wr => ∃ y : Ln, y.OK ∧ Ln.item (3 - k) y = X ∧ (k = 0 → y = x) ∧ (x.trimSpace 1 1 false = none → k = 0) ∧ Sat wr (row nb 3 [.int .i64 (k : Int)] * (row w.heap.size 105 y.cells * (row b 105 x.cells * (row fb 9 [f0] * (row ib 9 [i0] * F))))) := ⟨_, rfl⟩
    go_loopg [] 3 (fun g wr => g ≤ 3 ∧ P (3 - g) wr)
    case atStart => exact ⟨Nat.le_refl _, by rw [hP]; exact ⟨x, hx, HX.out, fun _ => rfl, fun _ => rfl, H3.out⟩⟩
    case round =>
      obtain ⟨hg, hrel⟩ := hrel
      rw [hP] at hrel
      obtain ⟨y, hy, hit, hyx, hn0, s1⟩ := hrel
      clear e0 ez hnl
      have e0 : wr.cell? ⟨nb, 0, none⟩ = some (.int .i64 ((3 - gk : Nat) : Int)) := s1.cell 0 rfl
      have ez := fun i => s1.frozen i
      have hnl := s1.row_lt
      generalize hkk : 3 - gk = k at *
      have hk3 : k ≤ 3 := by omega
      by_cases hlt : k < 3
      · obtain ⟨j, hj⟩ : ∃ j, 3 - k = j + 1 := ⟨2 - k, by omega⟩
        have hT := trimSpace_w w.heap.size y 1 1 false wr _ hy (by decide) s1.swap
        rw [hj] at hit
        simp only [Ln.item] at hit
        cases ht : y.trimSpace 1 1 false with
        | none =>
          rw [ht] at hT hit
          simp only [Option.isSome_none, Option.getD_none] at hT hit
          subst hit
          go_wp2_with fail
          refine hT.mono ?_
          rintro e w1 ⟨rfl, s2⟩
          go_wp2
          go_meet
          exact ⟨k, hk3, hn0, s2.swap⟩
        | some z =>
          rw [ht] at hT hit
          simp only [Option.isSome_some, Option.getD_some] at hT hit
          have hn1 : x.trimSpace 1 1 false = none → k + 1 = 0 := by
            intro e
            have h0 := hn0 e
            rw [hyx h0, e] at ht
            cases ht
          go_wp2_with fail
          refine hT.mono ?_
          rintro e w1 ⟨rfl, s2⟩
          have s3 := s2.swap
          clear e0 ez hnl
          have e0 : w1.cell? ⟨nb, 0, none⟩ = some (.int .i64 (k : Int)) := s3.cell 0 rfl
          have ez := fun i => s3.frozen i
          have hnl := s3.row_lt
          go_wp2
          go_roundg (gk - 1)
          case measure => omega
          case rel =>
            refine ⟨by omega, ?_⟩
            rw [hP, show 3 - (gk - 1) = k + 1 by omega]
            exact ⟨z, (Ln.trimSpace_ok hy ht).1, by rw [show 3 - (k + 1) = j by omega]; exact hit, fun h => by omega, hn1, s3.set 0 _⟩
      · obtain rfl : k = 3 := by omega
        simp only [Nat.sub_self, Ln.item] at hit
        subst hit
        go_wp2
        go_meet
        exact ⟨3, Nat.le_refl _, hn0, s1⟩
  case rest =>
    obtain ⟨n, hn3, hn0, s1⟩ := hcut
    clear H3 c0 c1 c2 c3 c4 cf e0 ez hnl
    have HN0 := Lib.hid hn0
    clear hn0
    go_wp2_with fail
    refine (peek_w w.heap.size X _ _ hXo s1.swap).mono ?_
    rintro e w2 ⟨rfl, m, rfl⟩
    rw [HC.out]
    have s2 := s1.drewN m
    generalize wc.drewN m = w2 at s2 ⊢
    clear s1
    have hstr : X.str = X.rest := by unfold Ln.str; rw [hX0]; rfl
    have hrl : X.rest.length ≤ 1000000 := by
      have := hXo.size
      unfold Ln.rest
      rw [List.length_drop, ← B.size_data, hXt]; omega
    rcases hcc with rfl | rfl
    · have hY : ∀ (k : Nat) (r : List UInt8), X.rest = List.replicate k 96 ++ r → (Ln.OK { X with i := X.i + k }) ∧ ({ X with i := X.i + k } : Ln).rest = r := by
        intro k r h
        have h1 : ({ X with i := X.i + k } : Ln).rest = r := Ln.rest_at h X.spaces X.tab k (by simp)
        refine ⟨⟨by have := hXo.tab; simp only; omega, ?_, hXo.sp, hXo.size⟩, h1⟩
        have h2 := congrArg List.length h
        have h3 := hXo.i
        unfold Ln.rest at h2
        rw [List.length_drop, List.length_append, List.length_replicate, ← B.size_data] at h2
        simp only
        omega
      have HYY := Lib.hid hY
      clear hY
      go_wp2_with fail
      refine (string_w _ X w2 _ hXo s2.swap).mono ?_
      rintro e w3 ⟨rfl, m3, rfl⟩
      rw [hstr]
      have s3 := s2.drewN m3
      generalize w2.drewN m3 = w3 at s3 ⊢
      clear s2
      go_wp2_with fail
      go_loopw [12, 13] (fun i j wr => ∃ (k : Nat) (r : List UInt8), i = .int .i64 k ∧ j = .int .i64 k ∧ X.rest = List.replicate k 96 ++ r ∧ Sat wr (row nb 3 [.int .i64 (n : Int)] * (row w.heap.size 105 ({ X with i := X.i + k } : Ln).cells * (row b 105 x.cells * (row fb 9 [f0] * (row ib 9 [i0] * F)))))) (fun i _ _ => X.rest.length - (intOf i).toNat)
      case atStart => exact ⟨0, X.rest, rfl, rfl, rfl, s3⟩
      case round =>
        obtain ⟨k, r, rfl, rfl, hr, s4⟩ := hrel
        obtain ⟨hYo, hYr⟩ := HYY.out k r hr
        have hkl : k + r.length = X.rest.length := by rw [hr, List.length_append, List.length_replicate]
        have hT := trim_w w.heap.size { X with i := X.i + k } 96 _ _ hYo s4.swap
        have HR := Lib.hid hr
        clear hr s3
        by_cases hh : r.head? = some 96
        · obtain ⟨r', rfl⟩ : ∃ r', r = 96 :: r' := by
            cases r with
            | nil => cases hh
            | cons a t => simp at hh; subst hh; exact ⟨t, rfl⟩
          have ht : ({ X with i := X.i + k } : Ln).trim 96 = some { X with i := X.i + (k + 1) } := by
            unfold Ln.trim
            rw [if_neg (by simp only [hX0]; decide), if_pos (by rw [Ln.ch_rest, hYr]; rfl)]
            rfl
          rw [ht] at hT
          simp only [Option.isSome_some, Option.getD_some] at hT
          have HT := Lib.hid hT
          clear hT ht
          go_wp2_with fail
          refine HT.out.mono ?_
          rintro e w5 ⟨rfl, s5⟩
          go_wp2
          go_roundw
          case rel => exact ⟨k + 1, r', by go_num, by go_num, by rw [HR.out, List.replicate_succ']; simp, s5.swap⟩
          case measure => simp at hkl; simp [intOf]; omega
        · have ht : ({ X with i := X.i + k } : Ln).trim 96 = none := by
            unfold Ln.trim
            rw [if_neg (by simp only [hX0]; decide), if_neg (by rw [Ln.ch_rest, hYr]; exact hh)]
          rw [ht] at hT
          simp only [Option.isSome_none, Option.getD_none] at hT
          have HT := Lib.hid hT
          clear hT ht
          go_wp2_with fail
          refine HT.out.mono ?_
          rintro e w5 ⟨rfl, s5⟩
          clear HT s4
          by_cases hk3 : k < 3
          · go_wp2
            refine bodyPost_ret (v := .bool false) (by simp [results, Tryz.results143, go_sem]) rfl ⟨n, k, r, ⟨HR.out, hh⟩, HN0.out, .inr ⟨rfl, .inl hk3, ?_⟩⟩
            exact s5.drop1.swap
          · have hts := trimString_w w.heap.size { X with i := X.i + k } w5 _ hYo s5
            rw [hYr] at hts
            have hrl2 : (B.trimR (B.trimL r)).length ≤ 1000000 := by
              have := trimST_len r
              omega
            generalize htr : B.trimR (B.trimL r) = tr at hts hrl2
            have HTS := Lib.hid hts
            have HTR := Lib.hid htr
            clear hts htr
            go_wp2_with fail
            refine HTS.out.mono ?_
            rintro e w6 ⟨rfl, m6, rfl⟩
            have s6 := s5.drewN m6
            generalize w5.drewN m6 = w6 at s6 ⊢
            clear HTS s5
            go_wp2_with fail
            refine (unescape_w tr w6 _ hrl2 (fun w' h => hE w' h.drop1.drop1.drop1.drop1.drop1) s6).mono ?_
            rintro e w7 ⟨⟨out, rfl, hon, hol⟩, s7⟩
            have hol2 : out.length ≤ 1000000000 := by omega
            have HON := Lib.hid hon
            clear hon hol s6
            have hzc := zzContains_w (B.bs out) ⟨#[96]⟩ w7 (by rw [B.bs_size]; omega) (by decide)
            generalize (B.findSub (⟨#[96]⟩ : ByteArray).data.toList (B.bs out).data.toList).isSome = has at hzc
            have HZC := Lib.hid hzc
            clear hzc
            go_wp2_with fail
            refine HZC.out.mono ?_
            rintro e w8 ⟨rfl, rfl⟩
            clear HZC
            cases has
            case true =>
              go_wp2
              refine bodyPost_ret (v := .bool false) (by simp [results, Tryz.results143, go_sem]) rfl ⟨n, k, r, ⟨HR.out, hh⟩, HN0.out, .inr ⟨rfl, .inr rfl, ?_⟩⟩
              exact s7.drop1.swap
            go_wp2_with fail
            refine (trimSpaceTab_w out w7 (by omega)).mono ?_
            rintro e w8 ⟨rfl, rfl⟩
            have HI := Lib.hid (show tr = [] → B.trimR (B.trimL out) = [] from fun h => by rw [HON.out h]; rfl)
            generalize B.trimR (B.trimL out) = info at HI ⊢
            have s8 := s7.drop1
            have hex : (B.bs X.rest).extract 0 k = B.bs (List.replicate k 96) := by
              rw [B.extract_zero, B.bs_data, HR.out, List.take_left' (by simp)]
            have hxs : k ≤ (B.bs X.rest).size := by rw [B.bs_size]; omega
            obtain ⟨b0, b1, b2, b3, b4, bf⟩ := line_cells s8.swap
            have bl := s8.swap.row_lt
            have g0 : w7.cell? ⟨fb, 0, none⟩ = some f0 := s8.drop1.drop1.cell 0 rfl
            have gz := fun i => s8.drop1.drop1.frozen i
            have gl := s8.drop1.drop1.row_lt
            have j0 : w7.cell? ⟨ib, 0, none⟩ = some i0 := s8.drop1.drop1.drop1.cell 0 rfl
            have jz := fun i => s8.drop1.drop1.drop1.frozen i
            have jl := s8.drop1.drop1.drop1.row_lt
            have ne1 : ¬ fb = ib := s8.drop1.drop1.row_ne
            have ne2 : ¬ b = fb := s8.drop1.row_ne
            have ne3 : ¬ b = ib := s8.drop1.drop2.row_ne
            have S8 := Lib.hid s8
            clear s8 s7
            go_wp2
            refine bodyPost_ret (v := .bool true) (by simp [results, Tryz.results143, go_sem]) rfl ⟨n, k, r, ⟨HR.out, hh⟩, HN0.out, .inl ⟨rfl, by omega, info, ?_, ?_⟩⟩
            · rw [HTR.out]; exact HI.out
            · have h9 : Sat w7 (row ib 9 [i0] * (row fb 9 [f0] * (row b 105 x.cells * (row nb 3 [.int .i64 (n : Int)] * F)))) := S8.out.cast (by ac_rfl)
              have h10 : Sat _ (row b 105 x.cells * (row fb 9 [.string (B.bs (List.replicate k 96))] * (row ib 9 [.string (B.bs info)] * (row nb 3 [.int .i64 (n : Int)] * F)))) := ((h9.set 0 (.string (B.bs info))).swap.set 0 (.string (B.bs (List.replicate k 96)))).third
              have h11 : Sat _ (row b 105 Ln.zero.cells * (row fb 9 [.string (B.bs (List.replicate k 96))] * (row ib 9 [.string (B.bs info)] * (row nb 3 [.int .i64 (n : Int)] * F)))) := ((((h10.set 0 (.int .i64 0)).set 1 (.int .i64 0)).set 2 (.int .i64 0)).set 3 (.string ⟨#[]⟩)).set 4 (.int .u8 0)
              exact h11.cast (by ac_rfl)
    · have hY : ∀ (k : Nat) (r : List UInt8), X.rest = List.replicate k 126 ++ r → (Ln.OK { X with i := X.i + k }) ∧ ({ X with i := X.i + k } : Ln).rest = r := by
        intro k r h
        have h1 : ({ X with i := X.i + k } : Ln).rest = r := Ln.rest_at h X.spaces X.tab k (by simp)
        refine ⟨⟨by have := hXo.tab; simp only; omega, ?_, hXo.sp, hXo.size⟩, h1⟩
        have h2 := congrArg List.length h
        have h3 := hXo.i
        unfold Ln.rest at h2
        rw [List.length_drop, List.length_append, List.length_replicate, ← B.size_data] at h2
        simp only
        omega
      have HYY := Lib.hid hY
      clear hY
      go_wp2_with fail
      refine (string_w _ X w2 _ hXo s2.swap).mono ?_
      rintro e w3 ⟨rfl, m3, rfl⟩
      rw [hstr]
      have s3 := s2.drewN m3
      generalize w2.drewN m3 = w3 at s3 ⊢
      clear s2
      go_wp2_with fail
      go_loopw [12, 13] (fun i j wr => ∃ (k : Nat) (r : List UInt8), i = .int .i64 k ∧ j = .int .i64 k ∧ X.rest = List.replicate k 126 ++ r ∧ Sat wr (row nb 3 [.int .i64 (n : Int)] * (row w.heap.size 105 ({ X with i := X.i + k } : Ln).cells * (row b 105 x.cells * (row fb 9 [f0] * (row ib 9 [i0] * F)))))) (fun i _ _ => X.rest.length - (intOf i).toNat)
      case atStart => exact ⟨0, X.rest, rfl, rfl, rfl, s3⟩
      case round =>
        obtain ⟨k, r, rfl, rfl, hr, s4⟩ := hrel
        obtain ⟨hYo, hYr⟩ := HYY.out k r hr
        have hkl : k + r.length = X.rest.length := by rw [hr, List.length_append, List.length_replicate]
        have hT := trim_w w.heap.size { X with i := X.i + k } 126 _ _ hYo s4.swap
        have HR := Lib.hid hr
        clear hr s3
        by_cases hh : r.head? = some 126
        · obtain ⟨r', rfl⟩ : ∃ r', r = 126 :: r' := by
            cases r with
            | nil => cases hh
            | cons a t => simp at hh; subst hh; exact ⟨t, rfl⟩
          have ht : ({ X with i := X.i + k } : Ln).trim 126 = some { X with i := X.i + (k + 1) } := by
            unfold Ln.trim
            rw [if_neg (by simp only [hX0]; decide), if_pos (by rw [Ln.ch_rest, hYr]; rfl)]
            rfl
          rw [ht] at hT
          simp only [Option.isSome_some, Option.getD_some] at hT
          have HT := Lib.hid hT
          clear hT ht
          go_wp2_with fail
          refine HT.out.mono ?_
          rintro e w5 ⟨rfl, s5⟩
          go_wp2
          go_roundw
          case rel => exact ⟨k + 1, r', by go_num, by go_num, by rw [HR.out, List.replicate_succ']; simp, s5.swap⟩
          case measure => simp at hkl; simp [intOf]; omega
        · have ht : ({ X with i := X.i + k } : Ln).trim 126 = none := by
            unfold Ln.trim
            rw [if_neg (by simp only [hX0]; decide), if_neg (by rw [Ln.ch_rest, hYr]; exact hh)]
          rw [ht] at hT
          simp only [Option.isSome_none, Option.getD_none] at hT
          have HT := Lib.hid hT
          clear hT ht
          go_wp2_with fail
          refine HT.out.mono ?_
          rintro e w5 ⟨rfl, s5⟩
          clear HT s4
          by_cases hk3 : k < 3
          · go_wp2
            refine bodyPost_ret (v := .bool false) (by simp [results, Tryz.results143, go_sem]) rfl ⟨n, k, r, ⟨HR.out, hh⟩, HN0.out, .inr ⟨rfl, .inl hk3, ?_⟩⟩
            exact s5.drop1.swap
          · have hts := trimString_w w.heap.size { X with i := X.i + k } w5 _ hYo s5
            rw [hYr] at hts
            have hrl2 : (B.trimR (B.trimL r)).length ≤ 1000000 := by
              have := trimST_len r
              omega
            generalize htr : B.trimR (B.trimL r) = tr at hts hrl2
            have HTS := Lib.hid hts
            have HTR := Lib.hid htr
            clear hts htr
            go_wp2_with fail
            refine HTS.out.mono ?_
            rintro e w6 ⟨rfl, m6, rfl⟩
            have s6 := s5.drewN m6
            generalize w5.drewN m6 = w6 at s6 ⊢
            clear HTS s5
            go_wp2_with fail
            refine (unescape_w tr w6 _ hrl2 (fun w' h => hE w' h.drop1.drop1.drop1.drop1.drop1) s6).mono ?_
            rintro e w7 ⟨⟨out, rfl, hon, hol⟩, s7⟩
            have hol2 : out.length ≤ 1000000000 := by omega
            have HON := Lib.hid hon
            clear hon hol s6
            go_wp2_with fail
            refine (trimSpaceTab_w out w7 (by omega)).mono ?_
            rintro e w8 ⟨rfl, rfl⟩
            have HI := Lib.hid (show tr = [] → B.trimR (B.trimL out) = [] from fun h => by rw [HON.out h]; rfl)
            generalize B.trimR (B.trimL out) = info at HI ⊢
            have s8 := s7.drop1
            have hex : (B.bs X.rest).extract 0 k = B.bs (List.replicate k 126) := by
              rw [B.extract_zero, B.bs_data, HR.out, List.take_left' (by simp)]
            have hxs : k ≤ (B.bs X.rest).size := by rw [B.bs_size]; omega
            obtain ⟨b0, b1, b2, b3, b4, bf⟩ := line_cells s8.swap
            have bl := s8.swap.row_lt
            have g0 : w7.cell? ⟨fb, 0, none⟩ = some f0 := s8.drop1.drop1.cell 0 rfl
            have gz := fun i => s8.drop1.drop1.frozen i
            have gl := s8.drop1.drop1.row_lt
            have j0 : w7.cell? ⟨ib, 0, none⟩ = some i0 := s8.drop1.drop1.drop1.cell 0 rfl
            have jz := fun i => s8.drop1.drop1.drop1.frozen i
            have jl := s8.drop1.drop1.drop1.row_lt
            have ne1 : ¬ fb = ib := s8.drop1.drop1.row_ne
            have ne2 : ¬ b = fb := s8.drop1.row_ne
            have ne3 : ¬ b = ib := s8.drop1.drop2.row_ne
            have S8 := Lib.hid s8
            clear s8 s7
            go_wp2
            refine bodyPost_ret (v := .bool true) (by simp [results, Tryz.results143, go_sem]) rfl ⟨n, k, r, ⟨HR.out, hh⟩, HN0.out, .inl ⟨rfl, by omega, info, ?_, ?_⟩⟩
            · rw [HTR.out]; exact HI.out
            · have h9 : Sat w7 (row ib 9 [i0] * (row fb 9 [f0] * (row b 105 x.cells * (row nb 3 [.int .i64 (n : Int)] * F)))) := S8.out.cast (by ac_rfl)
              have h10 : Sat _ (row b 105 x.cells * (row fb 9 [.string (B.bs (List.replicate k 126))] * (row ib 9 [.string (B.bs info)] * (row nb 3 [.int .i64 (n : Int)] * F)))) := ((h9.set 0 (.string (B.bs info))).swap.set 0 (.string (B.bs (List.replicate k 126)))).third
              have h11 : Sat _ (row b 105 Ln.zero.cells * (row fb 9 [.string (B.bs (List.replicate k 126))] * (row ib 9 [.string (B.bs info)] * (row nb 3 [.int .i64 (n : Int)] * F)))) := ((((h10.set 0 (.int .i64 0)).set 1 (.int .i64 0)).set 2 (.int .i64 0)).set 3 (.string ⟨#[]⟩)).set 4 (.int .u8 0)
              exact h11.cast (by ac_rfl)

end Go.Proofs.YtmdabdpghcjplaaGreatDoor
