/- The law FnSmartDash: its walk, and its contract over what its arguments read as. MADE BY wip/gen_smart.py -/
import Derived.Test.YtcmpcjffmccllaaGreatDoorDs
import Derived.Test.YtcmpcjffmccllaaGreatDoorSr
import Derived.Test.YtcmpcjffmccllaaGreatDoorRw
namespace Go.Proofs.YtcmpcjffmccllaaGreatDoor
open Go.RowKit Sl

theorem bs_list (s : ByteArray) : B.bs s.data.toList = s := by cases s; rfl

theorem repeat_one (c : UInt8) (n : Nat) : Lib.repeatL [c] n = List.replicate n c := by
  induction n with
  | zero => rfl
  | succ n ih =>
    show [c] ++ Lib.repeatL [c] n = _
    rw [ih]; rfl

theorem repeat1_w (c : UInt8) (s : ByteArray) (hs : s = B.bs [c]) (n : Nat) (w : World) (hn : n ≤ 1000000) :
    Calls Tryz.prog 16 #[.string s, .int .i64 n] w fun e w' => e = .returned (.string (B.bs (List.replicate n c))) ∧ Below w.heap.size w w' := by
  subst hs
  have h := Sr.strings_Repeat (B.bs [c]) n w (by omega) (by rw [B.bs_size]; simp; omega)
  rw [B.bs_data, repeat_one] at h
  exact h

theorem hok_len (a b g : List UInt8) (n : Nat) (ha : a.length ≤ 20) (hb : b.length ≤ 20) (hg : g.length ≤ 1) (hn : n ≤ 3) : (dashTxt a g n b).length ≤ 100 := by
  unfold dashTxt
  simp; omega

set_option maxRecDepth 100000 in
set_option maxHeartbeats 4000000 in
theorem smart_10 (a b : List UInt8) (W : World) (ha : a.length ≤ 20) (hb : b.length ≤ 20) (hwa : wordB a = true) (hwb : wordB b = true) :
    Calls Tryz.prog 5 #[.string (B.bs a), .string (B.bs b), .int .i64 1, .bool false] W fun e w' => e = .returned (.bool true) ∧ Below W.heap.size W w' := by
  have hz : (B.bs a).size = a.length := rfl
  have hz2 : (B.bs b).size = b.length := rfl
  have hok : DashOk a [] 1 b := ⟨wordB_ok hwa, wordB_ok hwb, by simp, by simp⟩
  have HA := Lib.hid (fun w => word_w a w (by omega))
  have HB := Lib.hid (fun w => word_w b w (by omega))
  rw [hwa] at HA
  rw [hwb] at HB
  have HON := Lib.hid (hok.on (Sl.old W))
  have HOFF := Lib.hid (hok.off (Sl.old W))
  have HREP := Lib.hid (fun w => repeat1_w 45 ⟨#[45]⟩ rfl 1 w (by decide))
  clear hwa hwb hok
  have t1 : ∀ w, (Op.stringOp .add (B.bs a) ⟨#[]⟩).run Tryz.prog w = .ok (.string (B.bs (a ++ []))) w := fun w => addB a [] w (by simp; try omega)
  have t2 : ∀ w, (Op.stringOp .add (B.bs (a ++ [])) (B.bs (List.replicate 1 45))).run Tryz.prog w = .ok (.string (B.bs (a ++ [] ++ List.replicate 1 45))) w := fun w => addB _ _ w (by simp; try omega)
  have t3 : ∀ w, (Op.stringOp .add (B.bs (a ++ [] ++ List.replicate 1 45)) ⟨#[]⟩).run Tryz.prog w = .ok (.string (B.bs (a ++ [] ++ List.replicate 1 45 ++ []))) w := fun w => addB _ [] w (by simp; try omega)
  have t4 : ∀ w, (Op.stringOp .add (B.bs (a ++ [] ++ List.replicate 1 45 ++ [])) (B.bs b)).run Tryz.prog w = .ok (.string (B.bs (dashTxt a [] 1 b))) w := fun w => by
    have := addB (a ++ [] ++ List.replicate 1 45 ++ []) b w (by simp; try omega)
    rw [show a ++ [] ++ List.replicate 1 45 ++ [] ++ b = dashTxt a [] 1 b by simp [dashTxt]] at this
    exact this
  have o1 : ∀ w, (Op.stringOp .add ⟨#[60, 112, 62]⟩ (B.bs a)).run Tryz.prog w = .ok (.string (B.bs ([60, 112, 62] ++ a))) w := fun w => addB [60, 112, 62] a w (by simp; try omega)
  have o2 : ∀ w, (Op.stringOp .add (B.bs ([60, 112, 62] ++ a)) ⟨#[]⟩).run Tryz.prog w = .ok (.string (B.bs ([60, 112, 62] ++ a ++ []))) w := fun w => addB _ [] w (by simp; try omega)
  have o3 : ∀ w, (Op.stringOp .add (B.bs ([60, 112, 62] ++ a ++ [])) ⟨#[45]⟩).run Tryz.prog w = .ok (.string (B.bs ([60, 112, 62] ++ a ++ [] ++ [45]))) w := fun w => addB _ [45] w (by simp; try omega)
  have o4 : ∀ w, (Op.stringOp .add (B.bs ([60, 112, 62] ++ a ++ [] ++ [45])) ⟨#[]⟩).run Tryz.prog w = .ok (.string (B.bs ([60, 112, 62] ++ a ++ [] ++ [45] ++ []))) w := fun w => addB _ [] w (by simp; try omega)
  have o5 : ∀ w, (Op.stringOp .add (B.bs ([60, 112, 62] ++ a ++ [] ++ [45] ++ [])) (B.bs b)).run Tryz.prog w = .ok (.string (B.bs ([60, 112, 62] ++ a ++ [] ++ [45] ++ [] ++ b))) w := fun w => addB _ _ w (by simp; try omega)
  have o6 : ∀ w, (Op.stringOp .add (B.bs ([60, 112, 62] ++ a ++ [] ++ [45] ++ [] ++ b)) ⟨#[60, 47, 112, 62, 10]⟩).run Tryz.prog w = .ok (.string (B.bs (paraHTML (dashOut a [] 1 b)))) w := fun w => by
    have := addB ([60, 112, 62] ++ a ++ [] ++ [45] ++ [] ++ b) [60, 47, 112, 62, 10] w (by simp; try omega)
    rw [show [60, 112, 62] ++ a ++ [] ++ [45] ++ [] ++ b ++ [60, 47, 112, 62, 10] = paraHTML (dashOut a [] 1 b) by simp [dashOut, paraHTML, dashOf]] at this
    exact this
  have hl := hok_len a b [] 1 ha hb (by simp) (by decide)
  have f1 : ∀ w, (Op.stringOp .add ⟨#[60, 112, 62]⟩ (B.bs (dashTxt a [] 1 b))).run Tryz.prog w = .ok (.string (B.bs ([60, 112, 62] ++ dashTxt a [] 1 b))) w := fun w => addB [60, 112, 62] _ w (by simp only [List.length_cons, List.length_nil]; omega)
  have f2 : ∀ w, (Op.stringOp .add (B.bs ([60, 112, 62] ++ dashTxt a [] 1 b)) ⟨#[60, 47, 112, 62, 10]⟩).run Tryz.prog w = .ok (.string (B.bs (paraHTML (dashTxt a [] 1 b)))) w := fun w => addB ([60, 112, 62] ++ dashTxt a [] 1 b) [60, 47, 112, 62, 10] w (by simp only [List.length_append, List.length_cons, List.length_nil]; omega)
  generalize B.bs (paraHTML (dashOut a [] 1 b)) = out1 at *
  generalize B.bs (paraHTML (dashTxt a [] 1 b)) = out2 at *
  generalize B.bs ([60, 112, 62] ++ dashTxt a [] 1 b) = y9 at *
  generalize B.bs (dashTxt a [] 1 b) = T at *
  generalize B.bs ([60, 112, 62] ++ a ++ [] ++ [45] ++ [] ++ b) = y5 at *
  generalize B.bs ([60, 112, 62] ++ a ++ [] ++ [45] ++ []) = y4 at *
  generalize B.bs ([60, 112, 62] ++ a ++ [] ++ [45]) = y3 at *
  generalize B.bs ([60, 112, 62] ++ a ++ []) = y2 at *
  generalize B.bs ([60, 112, 62] ++ a) = y1 at *
  generalize B.bs (a ++ [] ++ List.replicate 1 45 ++ []) = x4 at *
  generalize B.bs (a ++ [] ++ List.replicate 1 45) = x3 at *
  generalize B.bs (a ++ []) = x2 at *
  generalize B.bs (List.replicate 1 45) = x1 at *
  clear hl
  go_enter Tryz.func5, Tryz.ntmps5
  go_wp2_with fail
  refine (HA.out W).mono ?_
  rintro e w1 ⟨rfl, rfl⟩
  go_wp2_with fail
  refine (HB.out W).mono ?_
  rintro e w1 ⟨rfl, rfl⟩
  go_wp2_with fail
  have hb1 : Below W.heap.size W (W.alloc (.cells #[.string ⟨#[]⟩, .string ⟨#[45]⟩, .string ⟨#[226, 128, 147]⟩, .string ⟨#[226, 128, 148]⟩] 9)) := (Below.refl _ _).alloc (Nat.le_refl _) _
  refine (HREP.out _).mono ?_
  rintro e w4 ⟨rfl, hb4⟩
  have hb5 : Below W.heap.size W w4 := hb1.trans (hb4.mono (by simp))
  go_wp2_with fail
  refine (HTMLP_b dashO rfl _ _ w4 W hb5 HON.out).mono ?_
  rintro e w5 ⟨rfl, hb6⟩
  go_wp2_with fail
  refine (HTMLP_b plainO rfl _ _ w5 W hb6 HOFF.out).mono ?_
  rintro e w6 ⟨rfl, hb7⟩
  go_wp2
  go_ret
  exact ⟨rfl, hb7⟩

set_option maxRecDepth 100000 in
set_option maxHeartbeats 4000000 in
theorem smart_11 (a b : List UInt8) (W : World) (ha : a.length ≤ 20) (hb : b.length ≤ 20) (hwa : wordB a = true) (hwb : wordB b = true) :
    Calls Tryz.prog 5 #[.string (B.bs a), .string (B.bs b), .int .i64 1, .bool true] W fun e w' => e = .returned (.bool true) ∧ Below W.heap.size W w' := by
  have hz : (B.bs a).size = a.length := rfl
  have hz2 : (B.bs b).size = b.length := rfl
  have hok : DashOk a [32] 1 b := ⟨wordB_ok hwa, wordB_ok hwb, by simp, by simp⟩
  have HA := Lib.hid (fun w => word_w a w (by omega))
  have HB := Lib.hid (fun w => word_w b w (by omega))
  rw [hwa] at HA
  rw [hwb] at HB
  have HON := Lib.hid (hok.on (Sl.old W))
  have HOFF := Lib.hid (hok.off (Sl.old W))
  have HREP := Lib.hid (fun w => repeat1_w 45 ⟨#[45]⟩ rfl 1 w (by decide))
  clear hwa hwb hok
  have t1 : ∀ w, (Op.stringOp .add (B.bs a) ⟨#[32]⟩).run Tryz.prog w = .ok (.string (B.bs (a ++ [32]))) w := fun w => addB a [32] w (by simp; try omega)
  have t2 : ∀ w, (Op.stringOp .add (B.bs (a ++ [32])) (B.bs (List.replicate 1 45))).run Tryz.prog w = .ok (.string (B.bs (a ++ [32] ++ List.replicate 1 45))) w := fun w => addB _ _ w (by simp; try omega)
  have t3 : ∀ w, (Op.stringOp .add (B.bs (a ++ [32] ++ List.replicate 1 45)) ⟨#[32]⟩).run Tryz.prog w = .ok (.string (B.bs (a ++ [32] ++ List.replicate 1 45 ++ [32]))) w := fun w => addB _ [32] w (by simp; try omega)
  have t4 : ∀ w, (Op.stringOp .add (B.bs (a ++ [32] ++ List.replicate 1 45 ++ [32])) (B.bs b)).run Tryz.prog w = .ok (.string (B.bs (dashTxt a [32] 1 b))) w := fun w => by
    have := addB (a ++ [32] ++ List.replicate 1 45 ++ [32]) b w (by simp; try omega)
    rw [show a ++ [32] ++ List.replicate 1 45 ++ [32] ++ b = dashTxt a [32] 1 b by simp [dashTxt]] at this
    exact this
  have o1 : ∀ w, (Op.stringOp .add ⟨#[60, 112, 62]⟩ (B.bs a)).run Tryz.prog w = .ok (.string (B.bs ([60, 112, 62] ++ a))) w := fun w => addB [60, 112, 62] a w (by simp; try omega)
  have o2 : ∀ w, (Op.stringOp .add (B.bs ([60, 112, 62] ++ a)) ⟨#[32]⟩).run Tryz.prog w = .ok (.string (B.bs ([60, 112, 62] ++ a ++ [32]))) w := fun w => addB _ [32] w (by simp; try omega)
  have o3 : ∀ w, (Op.stringOp .add (B.bs ([60, 112, 62] ++ a ++ [32])) ⟨#[45]⟩).run Tryz.prog w = .ok (.string (B.bs ([60, 112, 62] ++ a ++ [32] ++ [45]))) w := fun w => addB _ [45] w (by simp; try omega)
  have o4 : ∀ w, (Op.stringOp .add (B.bs ([60, 112, 62] ++ a ++ [32] ++ [45])) ⟨#[32]⟩).run Tryz.prog w = .ok (.string (B.bs ([60, 112, 62] ++ a ++ [32] ++ [45] ++ [32]))) w := fun w => addB _ [32] w (by simp; try omega)
  have o5 : ∀ w, (Op.stringOp .add (B.bs ([60, 112, 62] ++ a ++ [32] ++ [45] ++ [32])) (B.bs b)).run Tryz.prog w = .ok (.string (B.bs ([60, 112, 62] ++ a ++ [32] ++ [45] ++ [32] ++ b))) w := fun w => addB _ _ w (by simp; try omega)
  have o6 : ∀ w, (Op.stringOp .add (B.bs ([60, 112, 62] ++ a ++ [32] ++ [45] ++ [32] ++ b)) ⟨#[60, 47, 112, 62, 10]⟩).run Tryz.prog w = .ok (.string (B.bs (paraHTML (dashOut a [32] 1 b)))) w := fun w => by
    have := addB ([60, 112, 62] ++ a ++ [32] ++ [45] ++ [32] ++ b) [60, 47, 112, 62, 10] w (by simp; try omega)
    rw [show [60, 112, 62] ++ a ++ [32] ++ [45] ++ [32] ++ b ++ [60, 47, 112, 62, 10] = paraHTML (dashOut a [32] 1 b) by simp [dashOut, paraHTML, dashOf]] at this
    exact this
  have hl := hok_len a b [32] 1 ha hb (by simp) (by decide)
  have f1 : ∀ w, (Op.stringOp .add ⟨#[60, 112, 62]⟩ (B.bs (dashTxt a [32] 1 b))).run Tryz.prog w = .ok (.string (B.bs ([60, 112, 62] ++ dashTxt a [32] 1 b))) w := fun w => addB [60, 112, 62] _ w (by simp only [List.length_cons, List.length_nil]; omega)
  have f2 : ∀ w, (Op.stringOp .add (B.bs ([60, 112, 62] ++ dashTxt a [32] 1 b)) ⟨#[60, 47, 112, 62, 10]⟩).run Tryz.prog w = .ok (.string (B.bs (paraHTML (dashTxt a [32] 1 b)))) w := fun w => addB ([60, 112, 62] ++ dashTxt a [32] 1 b) [60, 47, 112, 62, 10] w (by simp only [List.length_append, List.length_cons, List.length_nil]; omega)
  generalize B.bs (paraHTML (dashOut a [32] 1 b)) = out1 at *
  generalize B.bs (paraHTML (dashTxt a [32] 1 b)) = out2 at *
  generalize B.bs ([60, 112, 62] ++ dashTxt a [32] 1 b) = y9 at *
  generalize B.bs (dashTxt a [32] 1 b) = T at *
  generalize B.bs ([60, 112, 62] ++ a ++ [32] ++ [45] ++ [32] ++ b) = y5 at *
  generalize B.bs ([60, 112, 62] ++ a ++ [32] ++ [45] ++ [32]) = y4 at *
  generalize B.bs ([60, 112, 62] ++ a ++ [32] ++ [45]) = y3 at *
  generalize B.bs ([60, 112, 62] ++ a ++ [32]) = y2 at *
  generalize B.bs ([60, 112, 62] ++ a) = y1 at *
  generalize B.bs (a ++ [32] ++ List.replicate 1 45 ++ [32]) = x4 at *
  generalize B.bs (a ++ [32] ++ List.replicate 1 45) = x3 at *
  generalize B.bs (a ++ [32]) = x2 at *
  generalize B.bs (List.replicate 1 45) = x1 at *
  clear hl
  go_enter Tryz.func5, Tryz.ntmps5
  go_wp2_with fail
  refine (HA.out W).mono ?_
  rintro e w1 ⟨rfl, rfl⟩
  go_wp2_with fail
  refine (HB.out W).mono ?_
  rintro e w1 ⟨rfl, rfl⟩
  go_wp2_with fail
  have hb1 : Below W.heap.size W (W.alloc (.cells #[.string ⟨#[]⟩, .string ⟨#[45]⟩, .string ⟨#[226, 128, 147]⟩, .string ⟨#[226, 128, 148]⟩] 9)) := (Below.refl _ _).alloc (Nat.le_refl _) _
  refine (HREP.out _).mono ?_
  rintro e w4 ⟨rfl, hb4⟩
  have hb5 : Below W.heap.size W w4 := hb1.trans (hb4.mono (by simp))
  go_wp2_with fail
  refine (HTMLP_b dashO rfl _ _ w4 W hb5 HON.out).mono ?_
  rintro e w5 ⟨rfl, hb6⟩
  go_wp2_with fail
  refine (HTMLP_b plainO rfl _ _ w5 W hb6 HOFF.out).mono ?_
  rintro e w6 ⟨rfl, hb7⟩
  go_wp2
  go_ret
  exact ⟨rfl, hb7⟩

set_option maxRecDepth 100000 in
set_option maxHeartbeats 4000000 in
theorem smart_20 (a b : List UInt8) (W : World) (ha : a.length ≤ 20) (hb : b.length ≤ 20) (hwa : wordB a = true) (hwb : wordB b = true) :
    Calls Tryz.prog 5 #[.string (B.bs a), .string (B.bs b), .int .i64 2, .bool false] W fun e w' => e = .returned (.bool true) ∧ Below W.heap.size W w' := by
  have hz : (B.bs a).size = a.length := rfl
  have hz2 : (B.bs b).size = b.length := rfl
  have hok : DashOk a [] 2 b := ⟨wordB_ok hwa, wordB_ok hwb, by simp, by simp⟩
  have HA := Lib.hid (fun w => word_w a w (by omega))
  have HB := Lib.hid (fun w => word_w b w (by omega))
  rw [hwa] at HA
  rw [hwb] at HB
  have HON := Lib.hid (hok.on (Sl.old W))
  have HOFF := Lib.hid (hok.off (Sl.old W))
  have HREP := Lib.hid (fun w => repeat1_w 45 ⟨#[45]⟩ rfl 2 w (by decide))
  clear hwa hwb hok
  have t1 : ∀ w, (Op.stringOp .add (B.bs a) ⟨#[]⟩).run Tryz.prog w = .ok (.string (B.bs (a ++ []))) w := fun w => addB a [] w (by simp; try omega)
  have t2 : ∀ w, (Op.stringOp .add (B.bs (a ++ [])) (B.bs (List.replicate 2 45))).run Tryz.prog w = .ok (.string (B.bs (a ++ [] ++ List.replicate 2 45))) w := fun w => addB _ _ w (by simp; try omega)
  have t3 : ∀ w, (Op.stringOp .add (B.bs (a ++ [] ++ List.replicate 2 45)) ⟨#[]⟩).run Tryz.prog w = .ok (.string (B.bs (a ++ [] ++ List.replicate 2 45 ++ []))) w := fun w => addB _ [] w (by simp; try omega)
  have t4 : ∀ w, (Op.stringOp .add (B.bs (a ++ [] ++ List.replicate 2 45 ++ [])) (B.bs b)).run Tryz.prog w = .ok (.string (B.bs (dashTxt a [] 2 b))) w := fun w => by
    have := addB (a ++ [] ++ List.replicate 2 45 ++ []) b w (by simp; try omega)
    rw [show a ++ [] ++ List.replicate 2 45 ++ [] ++ b = dashTxt a [] 2 b by simp [dashTxt]] at this
    exact this
  have o1 : ∀ w, (Op.stringOp .add ⟨#[60, 112, 62]⟩ (B.bs a)).run Tryz.prog w = .ok (.string (B.bs ([60, 112, 62] ++ a))) w := fun w => addB [60, 112, 62] a w (by simp; try omega)
  have o2 : ∀ w, (Op.stringOp .add (B.bs ([60, 112, 62] ++ a)) ⟨#[]⟩).run Tryz.prog w = .ok (.string (B.bs ([60, 112, 62] ++ a ++ []))) w := fun w => addB _ [] w (by simp; try omega)
  have o3 : ∀ w, (Op.stringOp .add (B.bs ([60, 112, 62] ++ a ++ [])) ⟨#[226, 128, 147]⟩).run Tryz.prog w = .ok (.string (B.bs ([60, 112, 62] ++ a ++ [] ++ [226, 128, 147]))) w := fun w => addB _ [226, 128, 147] w (by simp; try omega)
  have o4 : ∀ w, (Op.stringOp .add (B.bs ([60, 112, 62] ++ a ++ [] ++ [226, 128, 147])) ⟨#[]⟩).run Tryz.prog w = .ok (.string (B.bs ([60, 112, 62] ++ a ++ [] ++ [226, 128, 147] ++ []))) w := fun w => addB _ [] w (by simp; try omega)
  have o5 : ∀ w, (Op.stringOp .add (B.bs ([60, 112, 62] ++ a ++ [] ++ [226, 128, 147] ++ [])) (B.bs b)).run Tryz.prog w = .ok (.string (B.bs ([60, 112, 62] ++ a ++ [] ++ [226, 128, 147] ++ [] ++ b))) w := fun w => addB _ _ w (by simp; try omega)
  have o6 : ∀ w, (Op.stringOp .add (B.bs ([60, 112, 62] ++ a ++ [] ++ [226, 128, 147] ++ [] ++ b)) ⟨#[60, 47, 112, 62, 10]⟩).run Tryz.prog w = .ok (.string (B.bs (paraHTML (dashOut a [] 2 b)))) w := fun w => by
    have := addB ([60, 112, 62] ++ a ++ [] ++ [226, 128, 147] ++ [] ++ b) [60, 47, 112, 62, 10] w (by simp; try omega)
    rw [show [60, 112, 62] ++ a ++ [] ++ [226, 128, 147] ++ [] ++ b ++ [60, 47, 112, 62, 10] = paraHTML (dashOut a [] 2 b) by simp [dashOut, paraHTML, dashOf, dashTok]] at this
    exact this
  have hl := hok_len a b [] 2 ha hb (by simp) (by decide)
  have f1 : ∀ w, (Op.stringOp .add ⟨#[60, 112, 62]⟩ (B.bs (dashTxt a [] 2 b))).run Tryz.prog w = .ok (.string (B.bs ([60, 112, 62] ++ dashTxt a [] 2 b))) w := fun w => addB [60, 112, 62] _ w (by simp only [List.length_cons, List.length_nil]; omega)
  have f2 : ∀ w, (Op.stringOp .add (B.bs ([60, 112, 62] ++ dashTxt a [] 2 b)) ⟨#[60, 47, 112, 62, 10]⟩).run Tryz.prog w = .ok (.string (B.bs (paraHTML (dashTxt a [] 2 b)))) w := fun w => addB ([60, 112, 62] ++ dashTxt a [] 2 b) [60, 47, 112, 62, 10] w (by simp only [List.length_append, List.length_cons, List.length_nil]; omega)
  generalize B.bs (paraHTML (dashOut a [] 2 b)) = out1 at *
  generalize B.bs (paraHTML (dashTxt a [] 2 b)) = out2 at *
  generalize B.bs ([60, 112, 62] ++ dashTxt a [] 2 b) = y9 at *
  generalize B.bs (dashTxt a [] 2 b) = T at *
  generalize B.bs ([60, 112, 62] ++ a ++ [] ++ [226, 128, 147] ++ [] ++ b) = y5 at *
  generalize B.bs ([60, 112, 62] ++ a ++ [] ++ [226, 128, 147] ++ []) = y4 at *
  generalize B.bs ([60, 112, 62] ++ a ++ [] ++ [226, 128, 147]) = y3 at *
  generalize B.bs ([60, 112, 62] ++ a ++ []) = y2 at *
  generalize B.bs ([60, 112, 62] ++ a) = y1 at *
  generalize B.bs (a ++ [] ++ List.replicate 2 45 ++ []) = x4 at *
  generalize B.bs (a ++ [] ++ List.replicate 2 45) = x3 at *
  generalize B.bs (a ++ []) = x2 at *
  generalize B.bs (List.replicate 2 45) = x1 at *
  clear hl
  go_enter Tryz.func5, Tryz.ntmps5
  go_wp2_with fail
  refine (HA.out W).mono ?_
  rintro e w1 ⟨rfl, rfl⟩
  go_wp2_with fail
  refine (HB.out W).mono ?_
  rintro e w1 ⟨rfl, rfl⟩
  go_wp2_with fail
  have hb1 : Below W.heap.size W (W.alloc (.cells #[.string ⟨#[]⟩, .string ⟨#[45]⟩, .string ⟨#[226, 128, 147]⟩, .string ⟨#[226, 128, 148]⟩] 9)) := (Below.refl _ _).alloc (Nat.le_refl _) _
  refine (HREP.out _).mono ?_
  rintro e w4 ⟨rfl, hb4⟩
  have hb5 : Below W.heap.size W w4 := hb1.trans (hb4.mono (by simp))
  go_wp2_with fail
  refine (HTMLP_b dashO rfl _ _ w4 W hb5 HON.out).mono ?_
  rintro e w5 ⟨rfl, hb6⟩
  go_wp2_with fail
  refine (HTMLP_b plainO rfl _ _ w5 W hb6 HOFF.out).mono ?_
  rintro e w6 ⟨rfl, hb7⟩
  go_wp2
  go_ret
  exact ⟨rfl, hb7⟩

set_option maxRecDepth 100000 in
set_option maxHeartbeats 4000000 in
theorem smart_21 (a b : List UInt8) (W : World) (ha : a.length ≤ 20) (hb : b.length ≤ 20) (hwa : wordB a = true) (hwb : wordB b = true) :
    Calls Tryz.prog 5 #[.string (B.bs a), .string (B.bs b), .int .i64 2, .bool true] W fun e w' => e = .returned (.bool true) ∧ Below W.heap.size W w' := by
  have hz : (B.bs a).size = a.length := rfl
  have hz2 : (B.bs b).size = b.length := rfl
  have hok : DashOk a [32] 2 b := ⟨wordB_ok hwa, wordB_ok hwb, by simp, by simp⟩
  have HA := Lib.hid (fun w => word_w a w (by omega))
  have HB := Lib.hid (fun w => word_w b w (by omega))
  rw [hwa] at HA
  rw [hwb] at HB
  have HON := Lib.hid (hok.on (Sl.old W))
  have HOFF := Lib.hid (hok.off (Sl.old W))
  have HREP := Lib.hid (fun w => repeat1_w 45 ⟨#[45]⟩ rfl 2 w (by decide))
  clear hwa hwb hok
  have t1 : ∀ w, (Op.stringOp .add (B.bs a) ⟨#[32]⟩).run Tryz.prog w = .ok (.string (B.bs (a ++ [32]))) w := fun w => addB a [32] w (by simp; try omega)
  have t2 : ∀ w, (Op.stringOp .add (B.bs (a ++ [32])) (B.bs (List.replicate 2 45))).run Tryz.prog w = .ok (.string (B.bs (a ++ [32] ++ List.replicate 2 45))) w := fun w => addB _ _ w (by simp; try omega)
  have t3 : ∀ w, (Op.stringOp .add (B.bs (a ++ [32] ++ List.replicate 2 45)) ⟨#[32]⟩).run Tryz.prog w = .ok (.string (B.bs (a ++ [32] ++ List.replicate 2 45 ++ [32]))) w := fun w => addB _ [32] w (by simp; try omega)
  have t4 : ∀ w, (Op.stringOp .add (B.bs (a ++ [32] ++ List.replicate 2 45 ++ [32])) (B.bs b)).run Tryz.prog w = .ok (.string (B.bs (dashTxt a [32] 2 b))) w := fun w => by
    have := addB (a ++ [32] ++ List.replicate 2 45 ++ [32]) b w (by simp; try omega)
    rw [show a ++ [32] ++ List.replicate 2 45 ++ [32] ++ b = dashTxt a [32] 2 b by simp [dashTxt]] at this
    exact this
  have o1 : ∀ w, (Op.stringOp .add ⟨#[60, 112, 62]⟩ (B.bs a)).run Tryz.prog w = .ok (.string (B.bs ([60, 112, 62] ++ a))) w := fun w => addB [60, 112, 62] a w (by simp; try omega)
  have o2 : ∀ w, (Op.stringOp .add (B.bs ([60, 112, 62] ++ a)) ⟨#[32]⟩).run Tryz.prog w = .ok (.string (B.bs ([60, 112, 62] ++ a ++ [32]))) w := fun w => addB _ [32] w (by simp; try omega)
  have o3 : ∀ w, (Op.stringOp .add (B.bs ([60, 112, 62] ++ a ++ [32])) ⟨#[226, 128, 147]⟩).run Tryz.prog w = .ok (.string (B.bs ([60, 112, 62] ++ a ++ [32] ++ [226, 128, 147]))) w := fun w => addB _ [226, 128, 147] w (by simp; try omega)
  have o4 : ∀ w, (Op.stringOp .add (B.bs ([60, 112, 62] ++ a ++ [32] ++ [226, 128, 147])) ⟨#[32]⟩).run Tryz.prog w = .ok (.string (B.bs ([60, 112, 62] ++ a ++ [32] ++ [226, 128, 147] ++ [32]))) w := fun w => addB _ [32] w (by simp; try omega)
  have o5 : ∀ w, (Op.stringOp .add (B.bs ([60, 112, 62] ++ a ++ [32] ++ [226, 128, 147] ++ [32])) (B.bs b)).run Tryz.prog w = .ok (.string (B.bs ([60, 112, 62] ++ a ++ [32] ++ [226, 128, 147] ++ [32] ++ b))) w := fun w => addB _ _ w (by simp; try omega)
  have o6 : ∀ w, (Op.stringOp .add (B.bs ([60, 112, 62] ++ a ++ [32] ++ [226, 128, 147] ++ [32] ++ b)) ⟨#[60, 47, 112, 62, 10]⟩).run Tryz.prog w = .ok (.string (B.bs (paraHTML (dashOut a [32] 2 b)))) w := fun w => by
    have := addB ([60, 112, 62] ++ a ++ [32] ++ [226, 128, 147] ++ [32] ++ b) [60, 47, 112, 62, 10] w (by simp; try omega)
    rw [show [60, 112, 62] ++ a ++ [32] ++ [226, 128, 147] ++ [32] ++ b ++ [60, 47, 112, 62, 10] = paraHTML (dashOut a [32] 2 b) by simp [dashOut, paraHTML, dashOf, dashTok]] at this
    exact this
  have hl := hok_len a b [32] 2 ha hb (by simp) (by decide)
  have f1 : ∀ w, (Op.stringOp .add ⟨#[60, 112, 62]⟩ (B.bs (dashTxt a [32] 2 b))).run Tryz.prog w = .ok (.string (B.bs ([60, 112, 62] ++ dashTxt a [32] 2 b))) w := fun w => addB [60, 112, 62] _ w (by simp only [List.length_cons, List.length_nil]; omega)
  have f2 : ∀ w, (Op.stringOp .add (B.bs ([60, 112, 62] ++ dashTxt a [32] 2 b)) ⟨#[60, 47, 112, 62, 10]⟩).run Tryz.prog w = .ok (.string (B.bs (paraHTML (dashTxt a [32] 2 b)))) w := fun w => addB ([60, 112, 62] ++ dashTxt a [32] 2 b) [60, 47, 112, 62, 10] w (by simp only [List.length_append, List.length_cons, List.length_nil]; omega)
  generalize B.bs (paraHTML (dashOut a [32] 2 b)) = out1 at *
  generalize B.bs (paraHTML (dashTxt a [32] 2 b)) = out2 at *
  generalize B.bs ([60, 112, 62] ++ dashTxt a [32] 2 b) = y9 at *
  generalize B.bs (dashTxt a [32] 2 b) = T at *
  generalize B.bs ([60, 112, 62] ++ a ++ [32] ++ [226, 128, 147] ++ [32] ++ b) = y5 at *
  generalize B.bs ([60, 112, 62] ++ a ++ [32] ++ [226, 128, 147] ++ [32]) = y4 at *
  generalize B.bs ([60, 112, 62] ++ a ++ [32] ++ [226, 128, 147]) = y3 at *
  generalize B.bs ([60, 112, 62] ++ a ++ [32]) = y2 at *
  generalize B.bs ([60, 112, 62] ++ a) = y1 at *
  generalize B.bs (a ++ [32] ++ List.replicate 2 45 ++ [32]) = x4 at *
  generalize B.bs (a ++ [32] ++ List.replicate 2 45) = x3 at *
  generalize B.bs (a ++ [32]) = x2 at *
  generalize B.bs (List.replicate 2 45) = x1 at *
  clear hl
  go_enter Tryz.func5, Tryz.ntmps5
  go_wp2_with fail
  refine (HA.out W).mono ?_
  rintro e w1 ⟨rfl, rfl⟩
  go_wp2_with fail
  refine (HB.out W).mono ?_
  rintro e w1 ⟨rfl, rfl⟩
  go_wp2_with fail
  have hb1 : Below W.heap.size W (W.alloc (.cells #[.string ⟨#[]⟩, .string ⟨#[45]⟩, .string ⟨#[226, 128, 147]⟩, .string ⟨#[226, 128, 148]⟩] 9)) := (Below.refl _ _).alloc (Nat.le_refl _) _
  refine (HREP.out _).mono ?_
  rintro e w4 ⟨rfl, hb4⟩
  have hb5 : Below W.heap.size W w4 := hb1.trans (hb4.mono (by simp))
  go_wp2_with fail
  refine (HTMLP_b dashO rfl _ _ w4 W hb5 HON.out).mono ?_
  rintro e w5 ⟨rfl, hb6⟩
  go_wp2_with fail
  refine (HTMLP_b plainO rfl _ _ w5 W hb6 HOFF.out).mono ?_
  rintro e w6 ⟨rfl, hb7⟩
  go_wp2
  go_ret
  exact ⟨rfl, hb7⟩

set_option maxRecDepth 100000 in
set_option maxHeartbeats 4000000 in
theorem smart_30 (a b : List UInt8) (W : World) (ha : a.length ≤ 20) (hb : b.length ≤ 20) (hwa : wordB a = true) (hwb : wordB b = true) :
    Calls Tryz.prog 5 #[.string (B.bs a), .string (B.bs b), .int .i64 3, .bool false] W fun e w' => e = .returned (.bool true) ∧ Below W.heap.size W w' := by
  have hz : (B.bs a).size = a.length := rfl
  have hz2 : (B.bs b).size = b.length := rfl
  have hok : DashOk a [] 3 b := ⟨wordB_ok hwa, wordB_ok hwb, by simp, by simp⟩
  have HA := Lib.hid (fun w => word_w a w (by omega))
  have HB := Lib.hid (fun w => word_w b w (by omega))
  rw [hwa] at HA
  rw [hwb] at HB
  have HON := Lib.hid (hok.on (Sl.old W))
  have HOFF := Lib.hid (hok.off (Sl.old W))
  have HREP := Lib.hid (fun w => repeat1_w 45 ⟨#[45]⟩ rfl 3 w (by decide))
  clear hwa hwb hok
  have t1 : ∀ w, (Op.stringOp .add (B.bs a) ⟨#[]⟩).run Tryz.prog w = .ok (.string (B.bs (a ++ []))) w := fun w => addB a [] w (by simp; try omega)
  have t2 : ∀ w, (Op.stringOp .add (B.bs (a ++ [])) (B.bs (List.replicate 3 45))).run Tryz.prog w = .ok (.string (B.bs (a ++ [] ++ List.replicate 3 45))) w := fun w => addB _ _ w (by simp; try omega)
  have t3 : ∀ w, (Op.stringOp .add (B.bs (a ++ [] ++ List.replicate 3 45)) ⟨#[]⟩).run Tryz.prog w = .ok (.string (B.bs (a ++ [] ++ List.replicate 3 45 ++ []))) w := fun w => addB _ [] w (by simp; try omega)
  have t4 : ∀ w, (Op.stringOp .add (B.bs (a ++ [] ++ List.replicate 3 45 ++ [])) (B.bs b)).run Tryz.prog w = .ok (.string (B.bs (dashTxt a [] 3 b))) w := fun w => by
    have := addB (a ++ [] ++ List.replicate 3 45 ++ []) b w (by simp; try omega)
    rw [show a ++ [] ++ List.replicate 3 45 ++ [] ++ b = dashTxt a [] 3 b by simp [dashTxt]] at this
    exact this
  have o1 : ∀ w, (Op.stringOp .add ⟨#[60, 112, 62]⟩ (B.bs a)).run Tryz.prog w = .ok (.string (B.bs ([60, 112, 62] ++ a))) w := fun w => addB [60, 112, 62] a w (by simp; try omega)
  have o2 : ∀ w, (Op.stringOp .add (B.bs ([60, 112, 62] ++ a)) ⟨#[]⟩).run Tryz.prog w = .ok (.string (B.bs ([60, 112, 62] ++ a ++ []))) w := fun w => addB _ [] w (by simp; try omega)
  have o3 : ∀ w, (Op.stringOp .add (B.bs ([60, 112, 62] ++ a ++ [])) ⟨#[226, 128, 148]⟩).run Tryz.prog w = .ok (.string (B.bs ([60, 112, 62] ++ a ++ [] ++ [226, 128, 148]))) w := fun w => addB _ [226, 128, 148] w (by simp; try omega)
  have o4 : ∀ w, (Op.stringOp .add (B.bs ([60, 112, 62] ++ a ++ [] ++ [226, 128, 148])) ⟨#[]⟩).run Tryz.prog w = .ok (.string (B.bs ([60, 112, 62] ++ a ++ [] ++ [226, 128, 148] ++ []))) w := fun w => addB _ [] w (by simp; try omega)
  have o5 : ∀ w, (Op.stringOp .add (B.bs ([60, 112, 62] ++ a ++ [] ++ [226, 128, 148] ++ [])) (B.bs b)).run Tryz.prog w = .ok (.string (B.bs ([60, 112, 62] ++ a ++ [] ++ [226, 128, 148] ++ [] ++ b))) w := fun w => addB _ _ w (by simp; try omega)
  have o6 : ∀ w, (Op.stringOp .add (B.bs ([60, 112, 62] ++ a ++ [] ++ [226, 128, 148] ++ [] ++ b)) ⟨#[60, 47, 112, 62, 10]⟩).run Tryz.prog w = .ok (.string (B.bs (paraHTML (dashOut a [] 3 b)))) w := fun w => by
    have := addB ([60, 112, 62] ++ a ++ [] ++ [226, 128, 148] ++ [] ++ b) [60, 47, 112, 62, 10] w (by simp; try omega)
    rw [show [60, 112, 62] ++ a ++ [] ++ [226, 128, 148] ++ [] ++ b ++ [60, 47, 112, 62, 10] = paraHTML (dashOut a [] 3 b) by simp [dashOut, paraHTML, dashOf, dashTok]] at this
    exact this
  have hl := hok_len a b [] 3 ha hb (by simp) (by decide)
  have f1 : ∀ w, (Op.stringOp .add ⟨#[60, 112, 62]⟩ (B.bs (dashTxt a [] 3 b))).run Tryz.prog w = .ok (.string (B.bs ([60, 112, 62] ++ dashTxt a [] 3 b))) w := fun w => addB [60, 112, 62] _ w (by simp only [List.length_cons, List.length_nil]; omega)
  have f2 : ∀ w, (Op.stringOp .add (B.bs ([60, 112, 62] ++ dashTxt a [] 3 b)) ⟨#[60, 47, 112, 62, 10]⟩).run Tryz.prog w = .ok (.string (B.bs (paraHTML (dashTxt a [] 3 b)))) w := fun w => addB ([60, 112, 62] ++ dashTxt a [] 3 b) [60, 47, 112, 62, 10] w (by simp only [List.length_append, List.length_cons, List.length_nil]; omega)
  generalize B.bs (paraHTML (dashOut a [] 3 b)) = out1 at *
  generalize B.bs (paraHTML (dashTxt a [] 3 b)) = out2 at *
  generalize B.bs ([60, 112, 62] ++ dashTxt a [] 3 b) = y9 at *
  generalize B.bs (dashTxt a [] 3 b) = T at *
  generalize B.bs ([60, 112, 62] ++ a ++ [] ++ [226, 128, 148] ++ [] ++ b) = y5 at *
  generalize B.bs ([60, 112, 62] ++ a ++ [] ++ [226, 128, 148] ++ []) = y4 at *
  generalize B.bs ([60, 112, 62] ++ a ++ [] ++ [226, 128, 148]) = y3 at *
  generalize B.bs ([60, 112, 62] ++ a ++ []) = y2 at *
  generalize B.bs ([60, 112, 62] ++ a) = y1 at *
  generalize B.bs (a ++ [] ++ List.replicate 3 45 ++ []) = x4 at *
  generalize B.bs (a ++ [] ++ List.replicate 3 45) = x3 at *
  generalize B.bs (a ++ []) = x2 at *
  generalize B.bs (List.replicate 3 45) = x1 at *
  clear hl
  go_enter Tryz.func5, Tryz.ntmps5
  go_wp2_with fail
  refine (HA.out W).mono ?_
  rintro e w1 ⟨rfl, rfl⟩
  go_wp2_with fail
  refine (HB.out W).mono ?_
  rintro e w1 ⟨rfl, rfl⟩
  go_wp2_with fail
  have hb1 : Below W.heap.size W (W.alloc (.cells #[.string ⟨#[]⟩, .string ⟨#[45]⟩, .string ⟨#[226, 128, 147]⟩, .string ⟨#[226, 128, 148]⟩] 9)) := (Below.refl _ _).alloc (Nat.le_refl _) _
  refine (HREP.out _).mono ?_
  rintro e w4 ⟨rfl, hb4⟩
  have hb5 : Below W.heap.size W w4 := hb1.trans (hb4.mono (by simp))
  go_wp2_with fail
  refine (HTMLP_b dashO rfl _ _ w4 W hb5 HON.out).mono ?_
  rintro e w5 ⟨rfl, hb6⟩
  go_wp2_with fail
  refine (HTMLP_b plainO rfl _ _ w5 W hb6 HOFF.out).mono ?_
  rintro e w6 ⟨rfl, hb7⟩
  go_wp2
  go_ret
  exact ⟨rfl, hb7⟩

set_option maxRecDepth 100000 in
set_option maxHeartbeats 4000000 in
theorem smart_31 (a b : List UInt8) (W : World) (ha : a.length ≤ 20) (hb : b.length ≤ 20) (hwa : wordB a = true) (hwb : wordB b = true) :
    Calls Tryz.prog 5 #[.string (B.bs a), .string (B.bs b), .int .i64 3, .bool true] W fun e w' => e = .returned (.bool true) ∧ Below W.heap.size W w' := by
  have hz : (B.bs a).size = a.length := rfl
  have hz2 : (B.bs b).size = b.length := rfl
  have hok : DashOk a [32] 3 b := ⟨wordB_ok hwa, wordB_ok hwb, by simp, by simp⟩
  have HA := Lib.hid (fun w => word_w a w (by omega))
  have HB := Lib.hid (fun w => word_w b w (by omega))
  rw [hwa] at HA
  rw [hwb] at HB
  have HON := Lib.hid (hok.on (Sl.old W))
  have HOFF := Lib.hid (hok.off (Sl.old W))
  have HREP := Lib.hid (fun w => repeat1_w 45 ⟨#[45]⟩ rfl 3 w (by decide))
  clear hwa hwb hok
  have t1 : ∀ w, (Op.stringOp .add (B.bs a) ⟨#[32]⟩).run Tryz.prog w = .ok (.string (B.bs (a ++ [32]))) w := fun w => addB a [32] w (by simp; try omega)
  have t2 : ∀ w, (Op.stringOp .add (B.bs (a ++ [32])) (B.bs (List.replicate 3 45))).run Tryz.prog w = .ok (.string (B.bs (a ++ [32] ++ List.replicate 3 45))) w := fun w => addB _ _ w (by simp; try omega)
  have t3 : ∀ w, (Op.stringOp .add (B.bs (a ++ [32] ++ List.replicate 3 45)) ⟨#[32]⟩).run Tryz.prog w = .ok (.string (B.bs (a ++ [32] ++ List.replicate 3 45 ++ [32]))) w := fun w => addB _ [32] w (by simp; try omega)
  have t4 : ∀ w, (Op.stringOp .add (B.bs (a ++ [32] ++ List.replicate 3 45 ++ [32])) (B.bs b)).run Tryz.prog w = .ok (.string (B.bs (dashTxt a [32] 3 b))) w := fun w => by
    have := addB (a ++ [32] ++ List.replicate 3 45 ++ [32]) b w (by simp; try omega)
    rw [show a ++ [32] ++ List.replicate 3 45 ++ [32] ++ b = dashTxt a [32] 3 b by simp [dashTxt]] at this
    exact this
  have o1 : ∀ w, (Op.stringOp .add ⟨#[60, 112, 62]⟩ (B.bs a)).run Tryz.prog w = .ok (.string (B.bs ([60, 112, 62] ++ a))) w := fun w => addB [60, 112, 62] a w (by simp; try omega)
  have o2 : ∀ w, (Op.stringOp .add (B.bs ([60, 112, 62] ++ a)) ⟨#[32]⟩).run Tryz.prog w = .ok (.string (B.bs ([60, 112, 62] ++ a ++ [32]))) w := fun w => addB _ [32] w (by simp; try omega)
  have o3 : ∀ w, (Op.stringOp .add (B.bs ([60, 112, 62] ++ a ++ [32])) ⟨#[226, 128, 148]⟩).run Tryz.prog w = .ok (.string (B.bs ([60, 112, 62] ++ a ++ [32] ++ [226, 128, 148]))) w := fun w => addB _ [226, 128, 148] w (by simp; try omega)
  have o4 : ∀ w, (Op.stringOp .add (B.bs ([60, 112, 62] ++ a ++ [32] ++ [226, 128, 148])) ⟨#[32]⟩).run Tryz.prog w = .ok (.string (B.bs ([60, 112, 62] ++ a ++ [32] ++ [226, 128, 148] ++ [32]))) w := fun w => addB _ [32] w (by simp; try omega)
  have o5 : ∀ w, (Op.stringOp .add (B.bs ([60, 112, 62] ++ a ++ [32] ++ [226, 128, 148] ++ [32])) (B.bs b)).run Tryz.prog w = .ok (.string (B.bs ([60, 112, 62] ++ a ++ [32] ++ [226, 128, 148] ++ [32] ++ b))) w := fun w => addB _ _ w (by simp; try omega)
  have o6 : ∀ w, (Op.stringOp .add (B.bs ([60, 112, 62] ++ a ++ [32] ++ [226, 128, 148] ++ [32] ++ b)) ⟨#[60, 47, 112, 62, 10]⟩).run Tryz.prog w = .ok (.string (B.bs (paraHTML (dashOut a [32] 3 b)))) w := fun w => by
    have := addB ([60, 112, 62] ++ a ++ [32] ++ [226, 128, 148] ++ [32] ++ b) [60, 47, 112, 62, 10] w (by simp; try omega)
    rw [show [60, 112, 62] ++ a ++ [32] ++ [226, 128, 148] ++ [32] ++ b ++ [60, 47, 112, 62, 10] = paraHTML (dashOut a [32] 3 b) by simp [dashOut, paraHTML, dashOf, dashTok]] at this
    exact this
  have hl := hok_len a b [32] 3 ha hb (by simp) (by decide)
  have f1 : ∀ w, (Op.stringOp .add ⟨#[60, 112, 62]⟩ (B.bs (dashTxt a [32] 3 b))).run Tryz.prog w = .ok (.string (B.bs ([60, 112, 62] ++ dashTxt a [32] 3 b))) w := fun w => addB [60, 112, 62] _ w (by simp only [List.length_cons, List.length_nil]; omega)
  have f2 : ∀ w, (Op.stringOp .add (B.bs ([60, 112, 62] ++ dashTxt a [32] 3 b)) ⟨#[60, 47, 112, 62, 10]⟩).run Tryz.prog w = .ok (.string (B.bs (paraHTML (dashTxt a [32] 3 b)))) w := fun w => addB ([60, 112, 62] ++ dashTxt a [32] 3 b) [60, 47, 112, 62, 10] w (by simp only [List.length_append, List.length_cons, List.length_nil]; omega)
  generalize B.bs (paraHTML (dashOut a [32] 3 b)) = out1 at *
  generalize B.bs (paraHTML (dashTxt a [32] 3 b)) = out2 at *
  generalize B.bs ([60, 112, 62] ++ dashTxt a [32] 3 b) = y9 at *
  generalize B.bs (dashTxt a [32] 3 b) = T at *
  generalize B.bs ([60, 112, 62] ++ a ++ [32] ++ [226, 128, 148] ++ [32] ++ b) = y5 at *
  generalize B.bs ([60, 112, 62] ++ a ++ [32] ++ [226, 128, 148] ++ [32]) = y4 at *
  generalize B.bs ([60, 112, 62] ++ a ++ [32] ++ [226, 128, 148]) = y3 at *
  generalize B.bs ([60, 112, 62] ++ a ++ [32]) = y2 at *
  generalize B.bs ([60, 112, 62] ++ a) = y1 at *
  generalize B.bs (a ++ [32] ++ List.replicate 3 45 ++ [32]) = x4 at *
  generalize B.bs (a ++ [32] ++ List.replicate 3 45) = x3 at *
  generalize B.bs (a ++ [32]) = x2 at *
  generalize B.bs (List.replicate 3 45) = x1 at *
  clear hl
  go_enter Tryz.func5, Tryz.ntmps5
  go_wp2_with fail
  refine (HA.out W).mono ?_
  rintro e w1 ⟨rfl, rfl⟩
  go_wp2_with fail
  refine (HB.out W).mono ?_
  rintro e w1 ⟨rfl, rfl⟩
  go_wp2_with fail
  have hb1 : Below W.heap.size W (W.alloc (.cells #[.string ⟨#[]⟩, .string ⟨#[45]⟩, .string ⟨#[226, 128, 147]⟩, .string ⟨#[226, 128, 148]⟩] 9)) := (Below.refl _ _).alloc (Nat.le_refl _) _
  refine (HREP.out _).mono ?_
  rintro e w4 ⟨rfl, hb4⟩
  have hb5 : Below W.heap.size W w4 := hb1.trans (hb4.mono (by simp))
  go_wp2_with fail
  refine (HTMLP_b dashO rfl _ _ w4 W hb5 HON.out).mono ?_
  rintro e w5 ⟨rfl, hb6⟩
  go_wp2_with fail
  refine (HTMLP_b plainO rfl _ _ w5 W hb6 HOFF.out).mono ?_
  rintro e w6 ⟨rfl, hb7⟩
  go_wp2
  go_ret
  exact ⟨rfl, hb7⟩

set_option maxRecDepth 100000 in
set_option maxHeartbeats 4000000 in
theorem FnSmartDash_w (a b : List UInt8) (n : Int) (sp : Bool) (W : World) (ha : a.length ≤ 9223372036854775807) (hb : b.length ≤ 9223372036854775807) :
    Calls Tryz.prog 5 #[.string (B.bs a), .string (B.bs b), .int .i64 n, .bool sp] W fun e w' => e = .returned (.bool true) ∧ Below W.heap.size W w' := by
  have hz : (B.bs a).size = a.length := rfl
  have hz2 : (B.bs b).size = b.length := rfl
  by_cases h1 : 2147483647 < a.length
  · go_enter Tryz.func5, Tryz.ntmps5
    go_wp2
    go_ret
    exact ⟨rfl, Below.refl _ _⟩
  by_cases h2 : 2147483647 < b.length
  · go_enter Tryz.func5, Tryz.ntmps5
    go_wp2
    go_ret
    exact ⟨rfl, Below.refl _ _⟩
  have HA := Lib.hid (word_w a W (by omega))
  have HB := Lib.hid (word_w b W (by omega))
  cases hwa : wordB a
  · rw [hwa] at HA
    go_enter Tryz.func5, Tryz.ntmps5
    go_wp2_with fail
    refine HA.out.mono ?_
    rintro e w1 ⟨rfl, rfl⟩
    go_wp2
    go_ret
    exact ⟨rfl, Below.refl _ _⟩
  cases hwb : wordB b
  · rw [hwa] at HA
    rw [hwb] at HB
    go_enter Tryz.func5, Tryz.ntmps5
    go_wp2_with fail
    refine HA.out.mono ?_
    rintro e w1 ⟨rfl, rfl⟩
    go_wp2_with fail
    refine HB.out.mono ?_
    rintro e w1 ⟨rfl, rfl⟩
    go_wp2
    go_ret
    exact ⟨rfl, Below.refl _ _⟩
  by_cases hn : n < 1
  · rw [hwa] at HA
    rw [hwb] at HB
    go_enter Tryz.func5, Tryz.ntmps5
    go_wp2_with fail
    refine HA.out.mono ?_
    rintro e w1 ⟨rfl, rfl⟩
    go_wp2_with fail
    refine HB.out.mono ?_
    rintro e w1 ⟨rfl, rfl⟩
    go_wp2
    go_ret
    exact ⟨rfl, Below.refl _ _⟩
  by_cases hn3 : 3 < n
  · rw [hwa] at HA
    rw [hwb] at HB
    go_enter Tryz.func5, Tryz.ntmps5
    go_wp2_with fail
    refine HA.out.mono ?_
    rintro e w1 ⟨rfl, rfl⟩
    go_wp2_with fail
    refine HB.out.mono ?_
    rintro e w1 ⟨rfl, rfl⟩
    go_wp2
    go_ret
    exact ⟨rfl, Below.refl _ _⟩
  have la := (wordB_ok hwa).len
  have lb := (wordB_ok hwb).len
  have hn1 : n = 1 ∨ n = 2 ∨ n = 3 := by omega
  rcases hn1 with rfl | rfl | rfl <;> cases sp
  · exact smart_10 a b W la lb hwa hwb
  · exact smart_11 a b W la lb hwa hwb
  · exact smart_20 a b W la lb hwa hwb
  · exact smart_21 a b W la lb hwa hwb
  · exact smart_30 a b W la lb hwa hwb
  · exact smart_31 a b W la lb hwa hwb

end Go.Proofs.YtcmpcjffmccllaaGreatDoor

namespace Go.Proofs.YtcmpcjffmccllaaGreatDoor.fnSmartDash
open Go.ChangeShapes Go.WideShapes Go.ChangeAt Go.RowKit

theorem spec_at {H : Type} {enc : TypeId × Value → H} {W : World} {args : Array Value} {ds : List (DataW H)} {p : List MemPlace}
    (h : DataW.TrodAll enc Tryz.prog W 0 (fun _ => true) true Tryz.f5.params.toList args.toList ds p) : Rows.fnSmartDashSpec.fn H ds = { results := [.lit (.bool true)], args := ds } := by
  rw [Tryz.params5] at h
  obtain ⟨v0, vs0, d0, ds0, p0, q0, hargs, rfl, rfl, h0, r0⟩ := trodAll_cons h
  obtain ⟨v1, vs1, d1, ds1, p1, q1, hargs1, rfl, rfl, h1, r1⟩ := trodAll_cons r0
  obtain ⟨v2, vs2, d2, ds2, p2, q2, hargs2, rfl, rfl, h2, r2⟩ := trodAll_cons r1
  obtain ⟨v3, vs3, d3, ds3, p3, q3, hargs3, rfl, rfl, h3, r3⟩ := trodAll_cons r2
  obtain ⟨rfl, rfl, rfl⟩ := trodAll_nil r3
  rfl

set_option maxRecDepth 100000 in
theorem contract (H : Type) (enc : TypeId × Value → H) (W : World) (base : Nat) (args : Array Value) (ds gs : List (DataW H)) (before : List MemPlace)
    (hval : ∀ (j : Nat) t v, Tryz.f5.params[j]? = some t → args[j]? = some v → Value.okWide Tryz.prog W .any base t v)
    (hW : DataW.Whole enc Tryz.prog Tryz.f5.params.toList Rows.fnSmartDashSpec.vars false W args.toList ds gs before) (_hL : laidMetH Tryz.prog Rows.fnSmartDashRow.laid W) :
    Calls Tryz.prog 5 args W fun e W' => e = .returned (.bool true) ∧ Below W.heap.size W W' := by
  obtain ⟨p, q, hA0, hV, rfl, hfz, hnd⟩ := hW
  have hA : DataW.TrodAll enc Tryz.prog W 0 (fun _ => true) true Tryz.f5.params.toList args.toList ds p := hA0
  rw [Tryz.params5] at hA
  obtain ⟨v0, vs0, d0, ds0, p0, q0, hargs, rfl, rfl, ⟨n0, h0⟩, r0⟩ := trodAll_cons hA
  obtain ⟨v1, vs1, d1, ds1, p1, q1, hargs1, rfl, rfl, ⟨n1, h1⟩, r1⟩ := trodAll_cons r0
  obtain ⟨v2, vs2, d2, ds2, p2, q2, hargs2, rfl, rfl, h2, r2⟩ := trodAll_cons r1
  obtain ⟨v3, vs3, d3, ds3, p3, q3, hargs3, rfl, rfl, ⟨n3, h3⟩, r3⟩ := trodAll_cons r2
  obtain ⟨rfl, rfl, rfl⟩ := trodAll_nil r3
  obtain rfl : args = #[v0, v1, v2, v3] := by cases args; simp_all
  obtain ⟨s, rfl⟩ := okWide_string Tryz.underlying9 (hval 0 9 v0 rfl rfl)
  obtain ⟨s', e0, _, hsz⟩ := DataW.trod_string Tryz.underlying9 h0
  simp [Value.cells] at e0
  subst e0
  obtain ⟨t, rfl⟩ := okWide_string Tryz.underlying9 (hval 1 9 v1 rfl rfl)
  obtain ⟨t', e1, _, htz⟩ := DataW.trod_string Tryz.underlying9 h1
  simp [Value.cells] at e1
  subst e1
  obtain ⟨y, rfl, rfl, rfl, wy⟩ := open_int Tryz.underlying3 (hval 2 3 v2 rfl rfl) h2
  obtain ⟨sp, rfl⟩ := okWide_bool Tryz.underlying4 (hval 3 4 v3 rfl rfl)
  have hmx : maxLen = 9223372036854775807 := rfl
  have h := FnSmartDash_w s.data.toList t.data.toList y sp W (by rw [← B.size_data]; omega) (by rw [← B.size_data]; omega)
  rw [bs_list, bs_list] at h
  exact h
end Go.Proofs.YtcmpcjffmccllaaGreatDoor.fnSmartDash
