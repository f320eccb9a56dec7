/- Walks: a blank line, while the root alone is open. -/
import Derived.Test.YtigcmibkgcmfcaaGreatDoorP2
namespace Go.Proofs.YtigcmibkgcmfcaaGreatDoor
open Go.RowKit Sl

def Ln.agg (x : Ln) : Value := .agg #[.int .i64 x.spaces, .int .i64 x.i, .int .i64 x.tab, .string x.text, .int .u8 x.nl.toNat]

def Ln.blank (x : Ln) : Bool := (B.trimL x.rest).isEmpty

set_option maxRecDepth 100000 in
set_option maxHeartbeats 400000 in
theorem addLine_blank (p : Nat) (l : Ln) (x : PSt) (F : HP) (w : World) (hn : x.stack.len = 1) (hl : l.blank = true) (hi : l.i ≤ l.text.size) (hsz : l.text.size ≤ 1000000000000)
    (hs : Sat w (row p 92 x.cells * F)) :
    Calls Tryz.prog 51 #[.pointer (some ⟨p, 0, none⟩), l.agg] w fun e w' =>
      e = .returned (.tuple #[]) ∧ Sat w' (row p 92 { x with depth := 0 }.cells * F) := by
  obtain ⟨f0, f1, f2, f3, f4, f5, f6, f7, f8, f9, f10, f11, fz, hlp⟩ := PSt.facts hs
  rw [hn] at f4
  clear f0 f1 f2 f3 f6 f7 f8 f9 f10 f11
  have hne : ¬ p = w.heap.size := Nat.ne_of_lt hlp
  unfold Ln.agg
  go_enter Tryz.func51, Tryz.ntmps51
  go_wp2
  go_step3
  go_wp2
  refine wp_loop_once ?_
  go_wp2
  go_quiet (fail)
  go_wp2_with fail
  refine (isBlank_w w.heap.size l.i l.text _ hi hsz ?_ ?_).mono ?_
  · simp [go_sem]
  · simp [go_sem]
  intro e w' h
  obtain ⟨rfl, m, rfl⟩ := h
  have hb : (B.trimL (List.drop l.i l.text.data.toList)).isEmpty = true := hl
  rw [hb]
  clear hb
  go_wp2_with fail
  refine (trimStack_noop p 1 x.stack.cap x.stack.a _ (by decide) ?_).mono ?_
  · simp [go_sem, *]
  intro e w' h
  obtain ⟨rfl, rfl⟩ := h
  go_wp2
  rw [Exit.noGoto_ret]
  have h1 := ((hs.set 5 (.int .i64 0)).new [.int .i64 l.spaces, .int .i64 l.i, .int .i64 l.tab, .string l.text, .int .u8 l.nl.toNat] 101 (d := w.heap.size) (by simp)).drop1
  refine bodyPost_ret (results_none rfl _ _ _) rfl ⟨rfl, ?_⟩
  exact h1

end Go.Proofs.YtigcmibkgcmfcaaGreatDoor
