/- newFence where no fence stands. -/
import Derived.Test.YtigcmibkgcmfcaaGreatDoorN10
namespace Go.Proofs.YtigcmibkgcmfcaaGreatDoor
open Go.RowKit Sl

set_option maxRecDepth 100000 in
set_option maxHeartbeats 1000000 in
theorem trimFence_not (b nb : Nat) (fp ip : Value) (x : Ln) (n0 : Int) (w : World) (F : HP) (hx : x.OK) (hc : (Ln.item 3 x).peek ≠ 96 ∧ (Ln.item 3 x).peek ≠ 126)
    (hs : Sat w (row b 101 x.cells * (row nb 3 [.int .i64 n0] * F))) :
    Calls Tryz.prog 139 #[.pointer (some ⟨b, 0, none⟩), fp, ip, .pointer (some ⟨nb, 0, none⟩)] w fun e w' => e = .returned (.bool false) ∧ ∃ n : Int, Sat w' (row b 101 x.cells * (row nb 3 [.int .i64 n] * F)) := by
  have h3 := ((hs.swap.set 0 (.int .i64 0)).new (d := w.heap.size) x.cells 101 (by simp)).swap
  obtain ⟨c0, c1, c2, c3, c4, cf⟩ := line_cells hs
  have hbl := hs.row_lt
  have e0 : w.cell? ⟨nb, 0, none⟩ = some (.int .i64 n0) := hs.swap.cell 0 rfl
  have ez := fun i => hs.swap.frozen i
  have hnl := hs.swap.row_lt
  generalize hX : Ln.item 3 x = X at hc
  have HX := Lib.hid hX
  clear hX
  generalize hcc : X.peek = c at hc
  have q1 : ((c.toNat : Int) == 96) = false := u8_ne (b := 96) hc.1
  have q2 : ((c.toNat : Int) == 126) = false := u8_ne (b := 126) hc.2
  have HC := Lib.hid hcc
  have H3 := Lib.hid h3
  clear h3 hs hcc hc
  go_enter Tryz.func139, Tryz.ntmps139
  go_wp2
  obtain ⟨P, hP⟩ : ∃ P : Nat → World → Prop, P = fun k wr => ∃ y : Ln, y.OK ∧ Ln.item (3 - k) y = X ∧ Sat wr (row nb 3 [.int .i64 (k : Int)] * (row w.heap.size 101 y.cells * (row b 101 x.cells * F))) := ⟨_, rfl⟩
  go_loopg [] 3 (fun g wr => g ≤ 3 ∧ P (3 - g) wr)
  case atStart => exact ⟨Nat.le_refl _, by rw [hP]; exact ⟨x, hx, HX.out, H3.out⟩⟩
  case round =>
    obtain ⟨hg, hrel⟩ := hrel
    rw [hP] at hrel
    obtain ⟨y, hy, hit, s1⟩ := hrel
    clear e0 ez hnl
    have e0 : wr.cell? ⟨nb, 0, none⟩ = some (.int .i64 ((3 - gk : Nat) : Int)) := s1.cell 0 rfl
    have ez := fun i => s1.frozen i
    have hnl := s1.row_lt
    generalize hkk : 3 - gk = k at *
    have hk3 : k ≤ 3 := by omega
    by_cases hlt : k < 3
    · obtain ⟨j, hj⟩ : ∃ j, 3 - k = j + 1 := ⟨2 - k, by omega⟩
      have hT := trimSpace_w w.heap.size y 1 1 false wr _ hy (by decide) s1.swap
      rw [hj] at hit
      simp only [Ln.item] at hit
      cases ht : y.trimSpace 1 1 false with
      | none =>
        rw [ht] at hT hit
        simp only [Option.isSome_none, Option.getD_none] at hT hit
        go_wp2_with fail
        refine hT.mono ?_
        rintro e w1 ⟨rfl, s2⟩
        go_wp2_with fail
        refine (peek_w _ y _ _ hy s2).mono ?_
        rintro e w2 ⟨rfl, m, rfl⟩
        rw [hit, HC.out]
        go_wp2
        refine bodyPost_ret (v := .bool false) (by simp [results, Tryz.results139, go_sem]) rfl ⟨rfl, (k : Int), ?_⟩
        exact (s2.drewN m).drop1.swap
      | some z =>
        rw [ht] at hT hit
        simp only [Option.isSome_some, Option.getD_some] at hT hit
        go_wp2_with fail
        refine hT.mono ?_
        rintro e w1 ⟨rfl, s2⟩
        have s3 := s2.swap
        clear e0 ez hnl
        have e0 : w1.cell? ⟨nb, 0, none⟩ = some (.int .i64 (k : Int)) := s3.cell 0 rfl
        have ez := fun i => s3.frozen i
        have hnl := s3.row_lt
        go_wp2
        go_roundg (gk - 1)
        case measure => omega
        case rel =>
          refine ⟨by omega, ?_⟩
          rw [hP, show 3 - (gk - 1) = k + 1 by omega]
          exact ⟨z, (Ln.trimSpace_ok hy ht).1, by rw [show 3 - (k + 1) = j by omega]; exact hit, s3.set 0 _⟩
    · obtain rfl : k = 3 := by omega
      simp only [Nat.sub_self, Ln.item] at hit
      go_wp2_with fail
      refine (peek_w _ y _ _ hy s1.swap).mono ?_
      rintro e w2 ⟨rfl, m, rfl⟩
      rw [hit, HC.out]
      go_wp2
      refine bodyPost_ret (v := .bool false) (by simp [results, Tryz.results139, go_sem]) rfl ⟨rfl, 3, ?_⟩
      exact (s1.swap.drewN m).drop1.swap

set_option maxRecDepth 100000 in
set_option maxHeartbeats 1000000 in
theorem newFence_not (p : Option Addr) (x : Ln) (w : World) (F : HP) (hx : x.OK) (hc : (Ln.item 3 x).peek ≠ 96 ∧ (Ln.item 3 x).peek ≠ 126) (hs : Sat w F) :
    Calls Tryz.prog 89 #[.pointer p, x.agg] w fun e w' => e = .returned (.tuple #[x.agg, .bool false]) ∧ Sat w' F := by
  have h1 : Sat (w.alloc (.cells x.cells.toArray 101)) (row w.heap.size 101 x.cells * F) := hs.new _ _ rfl
  have h2 := (h1.new (d := w.heap.size + 1) Ln.zero.cells 101 (by simp))
  have h3 := (h2.new (d := w.heap.size + 2) [.string ⟨#[]⟩] 9 (by simp)).drop1
  have h4 := (h3.new (d := w.heap.size + 3) [.string ⟨#[]⟩] 9 (by simp)).drop1
  have h5 := (h4.new (d := w.heap.size + 4) [.int .i64 0] 3 (by simp))
  have h6 := (h5.new (d := w.heap.size + 5) x.cells 101 (by simp))
  have HS := Lib.hid h6
  clear h1 h2 h3 h4 h5 h6 hs
  unfold Ln.agg
  go_enter Tryz.func89, Tryz.ntmps89
  go_wp2_with fail
  refine (trimFence_not _ _ _ _ x 0 _ _ hx hc HS.out).mono ?_
  rintro e w2 ⟨rfl, n, s2⟩
  have s3 := s2.drop1.drop1
  obtain ⟨a0, a1, a2, a3, a4, af⟩ := line_cells s3
  obtain ⟨b0, b1, b2, b3, b4, bf⟩ := line_cells s3.swap
  have HS2 := Lib.hid s3
  clear s2 s3
  go_wp2
  refine bodyPost_ret (v := .tuple #[x.agg, .bool false]) (by simp [results, Tryz.results89, go_sem, Ln.agg, *]) rfl ⟨rfl, ?_⟩
  exact (((((HS2.out.set 0 _).set 1 _).set 2 _).set 3 _).set 4 _).drop1.drop1

end Go.Proofs.YtigcmibkgcmfcaaGreatDoor
