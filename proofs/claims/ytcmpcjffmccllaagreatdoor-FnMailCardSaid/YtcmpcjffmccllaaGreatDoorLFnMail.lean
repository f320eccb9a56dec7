/- The law FnMail: its walk, and its contract over what its arguments read as. MADE BY wip/gen_mail.py -/
import Derived.Test.YtcmpcjffmccllaaGreatDoorMa
import Derived.Test.YtcmpcjffmccllaaGreatDoorRw
namespace Go.Proofs.YtcmpcjffmccllaaGreatDoor
open Go.RowKit Sl

theorem bs_list (s : ByteArray) : B.bs s.data.toList = s := by cases s; rfl

set_option maxRecDepth 100000 in
set_option maxHeartbeats 4000000 in
theorem mail_main (a n h e b : List UInt8) (W : World) (hwa : wordB a = true) (hwb : wordB b = true) (hwn : wordB n = true) (hwh : wordB h = true) (hwe : wordB e = true) :
    Calls Tryz.prog 9 #[.string (B.bs a), .string (B.bs n), .string (B.bs h), .string (B.bs e), .string (B.bs b)] W fun e w' => e = .returned (.bool true) ∧ Below W.heap.size W w' := by
  have hza : (B.bs a).size = a.length := rfl
  have laa := (wordB_ok hwa).len
  have hzn : (B.bs n).size = n.length := rfl
  have lan := (wordB_ok hwn).len
  have hzh : (B.bs h).size = h.length := rfl
  have lah := (wordB_ok hwh).len
  have hze : (B.bs e).size = e.length := rfl
  have lae := (wordB_ok hwe).len
  have hzb : (B.bs b).size = b.length := rfl
  have lab := (wordB_ok hwb).len
  have hok : MailOk a n h e b := ⟨wordB_ok hwa, wordB_ok hwb, wordB_ok hwn, wordB_ok hwh, wordB_ok hwe⟩
  have HWa := Lib.hid (fun w => word_w a w (by omega))
  rw [hwa] at HWa
  have HWn := Lib.hid (fun w => word_w n w (by omega))
  rw [hwn] at HWn
  have HWh := Lib.hid (fun w => word_w h w (by omega))
  rw [hwh] at HWh
  have HWe := Lib.hid (fun w => word_w e w (by omega))
  rw [hwe] at HWe
  have HWb := Lib.hid (fun w => word_w b w (by omega))
  rw [hwb] at HWb
  have HON := Lib.hid (hok.on (Sl.old W))
  have HOFF := Lib.hid (hok.off (Sl.old W))
  have lM := hok.lenM
  have lT := hok.len
  clear hwa hwb hwn hwh hwe hok
  have t1 : ∀ w, (Op.stringOp .add (B.bs (n)) ⟨#[64]⟩).run Tryz.prog w = .ok (.string (B.bs (n ++ [64]))) w := fun w => addB (n) ([64]) w (by simp only [List.length_cons, List.length_nil]; omega)
  have t2 : ∀ w, (Op.stringOp .add (B.bs (n ++ [64])) (B.bs (h))).run Tryz.prog w = .ok (.string (B.bs (n ++ [64] ++ h))) w := fun w => addB (n ++ [64]) (h) w (by simp only [List.length_append, List.length_cons, List.length_nil]; omega)
  have t3 : ∀ w, (Op.stringOp .add (B.bs (n ++ [64] ++ h)) ⟨#[46]⟩).run Tryz.prog w = .ok (.string (B.bs (n ++ [64] ++ h ++ [46]))) w := fun w => addB (n ++ [64] ++ h) ([46]) w (by simp only [List.length_append, List.length_cons, List.length_nil]; omega)
  have t4 : ∀ w, (Op.stringOp .add (B.bs (n ++ [64] ++ h ++ [46])) (B.bs (e))).run Tryz.prog w = .ok (.string (B.bs (mailM n h e))) w := fun w => by
    have := addB (n ++ [64] ++ h ++ [46]) (e) w (by simp only [List.length_append, List.length_cons, List.length_nil]; omega)
    rw [show n ++ [64] ++ h ++ [46] ++ e = mailM n h e by simp [mailM]] at this
    exact this
  have x1 : ∀ w, (Op.stringOp .add (B.bs (a)) ⟨#[32]⟩).run Tryz.prog w = .ok (.string (B.bs (a ++ [32]))) w := fun w => addB (a) ([32]) w (by simp only [List.length_cons, List.length_nil]; omega)
  have x2 : ∀ w, (Op.stringOp .add (B.bs (a ++ [32])) (B.bs (mailM n h e))).run Tryz.prog w = .ok (.string (B.bs (a ++ [32] ++ mailM n h e))) w := fun w => addB (a ++ [32]) (mailM n h e) w (by simp only [List.length_append, List.length_cons, List.length_nil]; omega)
  have x3 : ∀ w, (Op.stringOp .add (B.bs (a ++ [32] ++ mailM n h e)) ⟨#[32]⟩).run Tryz.prog w = .ok (.string (B.bs (a ++ [32] ++ mailM n h e ++ [32]))) w := fun w => addB (a ++ [32] ++ mailM n h e) ([32]) w (by simp only [List.length_append, List.length_cons, List.length_nil]; omega)
  have x4 : ∀ w, (Op.stringOp .add (B.bs (a ++ [32] ++ mailM n h e ++ [32])) (B.bs (b))).run Tryz.prog w = .ok (.string (B.bs (mailTxt a n h e b))) w := fun w => by
    have := addB (a ++ [32] ++ mailM n h e ++ [32]) (b) w (by simp only [List.length_append, List.length_cons, List.length_nil]; omega)
    rw [show a ++ [32] ++ mailM n h e ++ [32] ++ b = mailTxt a n h e b by simp [mailTxt]] at this
    exact this
  have o1 : ∀ w, (Op.stringOp .add ⟨#[60, 112, 62]⟩ (B.bs (a))).run Tryz.prog w = .ok (.string (B.bs ([60, 112, 62] ++ a))) w := fun w => addB ([60, 112, 62]) (a) w (by simp only [List.length_cons, List.length_nil]; omega)
  have o2 : ∀ w, (Op.stringOp .add (B.bs ([60, 112, 62] ++ a)) ⟨#[32, 60, 97, 32, 104, 114, 101, 102, 61, 34, 109, 97, 105, 108, 116, 111, 58]⟩).run Tryz.prog w = .ok (.string (B.bs ([60, 112, 62] ++ a ++ [32, 60, 97, 32, 104, 114, 101, 102, 61, 34, 109, 97, 105, 108, 116, 111, 58]))) w := fun w => addB ([60, 112, 62] ++ a) ([32, 60, 97, 32, 104, 114, 101, 102, 61, 34, 109, 97, 105, 108, 116, 111, 58]) w (by simp only [List.length_append, List.length_cons, List.length_nil]; omega)
  have o3 : ∀ w, (Op.stringOp .add (B.bs ([60, 112, 62] ++ a ++ [32, 60, 97, 32, 104, 114, 101, 102, 61, 34, 109, 97, 105, 108, 116, 111, 58])) (B.bs (mailM n h e))).run Tryz.prog w = .ok (.string (B.bs ([60, 112, 62] ++ a ++ [32, 60, 97, 32, 104, 114, 101, 102, 61, 34, 109, 97, 105, 108, 116, 111, 58] ++ mailM n h e))) w := fun w => addB ([60, 112, 62] ++ a ++ [32, 60, 97, 32, 104, 114, 101, 102, 61, 34, 109, 97, 105, 108, 116, 111, 58]) (mailM n h e) w (by simp only [List.length_append, List.length_cons, List.length_nil]; omega)
  have o4 : ∀ w, (Op.stringOp .add (B.bs ([60, 112, 62] ++ a ++ [32, 60, 97, 32, 104, 114, 101, 102, 61, 34, 109, 97, 105, 108, 116, 111, 58] ++ mailM n h e)) ⟨#[34, 62]⟩).run Tryz.prog w = .ok (.string (B.bs ([60, 112, 62] ++ a ++ [32, 60, 97, 32, 104, 114, 101, 102, 61, 34, 109, 97, 105, 108, 116, 111, 58] ++ mailM n h e ++ [34, 62]))) w := fun w => addB ([60, 112, 62] ++ a ++ [32, 60, 97, 32, 104, 114, 101, 102, 61, 34, 109, 97, 105, 108, 116, 111, 58] ++ mailM n h e) ([34, 62]) w (by simp only [List.length_append, List.length_cons, List.length_nil]; omega)
  have o5 : ∀ w, (Op.stringOp .add (B.bs ([60, 112, 62] ++ a ++ [32, 60, 97, 32, 104, 114, 101, 102, 61, 34, 109, 97, 105, 108, 116, 111, 58] ++ mailM n h e ++ [34, 62])) (B.bs (mailM n h e))).run Tryz.prog w = .ok (.string (B.bs ([60, 112, 62] ++ a ++ [32, 60, 97, 32, 104, 114, 101, 102, 61, 34, 109, 97, 105, 108, 116, 111, 58] ++ mailM n h e ++ [34, 62] ++ mailM n h e))) w := fun w => addB ([60, 112, 62] ++ a ++ [32, 60, 97, 32, 104, 114, 101, 102, 61, 34, 109, 97, 105, 108, 116, 111, 58] ++ mailM n h e ++ [34, 62]) (mailM n h e) w (by simp only [List.length_append, List.length_cons, List.length_nil]; omega)
  have o6 : ∀ w, (Op.stringOp .add (B.bs ([60, 112, 62] ++ a ++ [32, 60, 97, 32, 104, 114, 101, 102, 61, 34, 109, 97, 105, 108, 116, 111, 58] ++ mailM n h e ++ [34, 62] ++ mailM n h e)) ⟨#[60, 47, 97, 62, 32]⟩).run Tryz.prog w = .ok (.string (B.bs ([60, 112, 62] ++ a ++ [32, 60, 97, 32, 104, 114, 101, 102, 61, 34, 109, 97, 105, 108, 116, 111, 58] ++ mailM n h e ++ [34, 62] ++ mailM n h e ++ [60, 47, 97, 62, 32]))) w := fun w => addB ([60, 112, 62] ++ a ++ [32, 60, 97, 32, 104, 114, 101, 102, 61, 34, 109, 97, 105, 108, 116, 111, 58] ++ mailM n h e ++ [34, 62] ++ mailM n h e) ([60, 47, 97, 62, 32]) w (by simp only [List.length_append, List.length_cons, List.length_nil]; omega)
  have o7 : ∀ w, (Op.stringOp .add (B.bs ([60, 112, 62] ++ a ++ [32, 60, 97, 32, 104, 114, 101, 102, 61, 34, 109, 97, 105, 108, 116, 111, 58] ++ mailM n h e ++ [34, 62] ++ mailM n h e ++ [60, 47, 97, 62, 32])) (B.bs (b))).run Tryz.prog w = .ok (.string (B.bs ([60, 112, 62] ++ a ++ [32, 60, 97, 32, 104, 114, 101, 102, 61, 34, 109, 97, 105, 108, 116, 111, 58] ++ mailM n h e ++ [34, 62] ++ mailM n h e ++ [60, 47, 97, 62, 32] ++ b))) w := fun w => addB ([60, 112, 62] ++ a ++ [32, 60, 97, 32, 104, 114, 101, 102, 61, 34, 109, 97, 105, 108, 116, 111, 58] ++ mailM n h e ++ [34, 62] ++ mailM n h e ++ [60, 47, 97, 62, 32]) (b) w (by simp only [List.length_append, List.length_cons, List.length_nil]; omega)
  have o8 : ∀ w, (Op.stringOp .add (B.bs ([60, 112, 62] ++ a ++ [32, 60, 97, 32, 104, 114, 101, 102, 61, 34, 109, 97, 105, 108, 116, 111, 58] ++ mailM n h e ++ [34, 62] ++ mailM n h e ++ [60, 47, 97, 62, 32] ++ b)) ⟨#[60, 47, 112, 62, 10]⟩).run Tryz.prog w = .ok (.string (B.bs (paraHTML (mailOut a n h e b)))) w := fun w => by
    have := addB ([60, 112, 62] ++ a ++ [32, 60, 97, 32, 104, 114, 101, 102, 61, 34, 109, 97, 105, 108, 116, 111, 58] ++ mailM n h e ++ [34, 62] ++ mailM n h e ++ [60, 47, 97, 62, 32] ++ b) ([60, 47, 112, 62, 10]) w (by simp only [List.length_append, List.length_cons, List.length_nil]; omega)
    rw [show [60, 112, 62] ++ a ++ [32, 60, 97, 32, 104, 114, 101, 102, 61, 34, 109, 97, 105, 108, 116, 111, 58] ++ mailM n h e ++ [34, 62] ++ mailM n h e ++ [60, 47, 97, 62, 32] ++ b ++ [60, 47, 112, 62, 10] = paraHTML (mailOut a n h e b) by simp [paraHTML, mailOut, aOpen, mailto]] at this
    exact this
  have f1 : ∀ w, (Op.stringOp .add ⟨#[60, 112, 62]⟩ (B.bs (mailTxt a n h e b))).run Tryz.prog w = .ok (.string (B.bs ([60, 112, 62] ++ mailTxt a n h e b))) w := fun w => addB ([60, 112, 62]) (mailTxt a n h e b) w (by simp only [List.length_cons, List.length_nil]; omega)
  have f2 : ∀ w, (Op.stringOp .add (B.bs ([60, 112, 62] ++ mailTxt a n h e b)) ⟨#[60, 47, 112, 62, 10]⟩).run Tryz.prog w = .ok (.string (B.bs (paraHTML (mailTxt a n h e b)))) w := fun w => by
    have := addB ([60, 112, 62] ++ mailTxt a n h e b) ([60, 47, 112, 62, 10]) w (by simp only [List.length_append, List.length_cons, List.length_nil]; omega)
    rw [show [60, 112, 62] ++ mailTxt a n h e b ++ [60, 47, 112, 62, 10] = paraHTML (mailTxt a n h e b) by simp [paraHTML]] at this
    exact this
  generalize B.bs (paraHTML (mailOut a n h e b)) = y0 at *
  generalize B.bs (paraHTML (mailTxt a n h e b)) = y1 at *
  generalize B.bs ([60, 112, 62] ++ a ++ [32, 60, 97, 32, 104, 114, 101, 102, 61, 34, 109, 97, 105, 108, 116, 111, 58] ++ mailM n h e ++ [34, 62] ++ mailM n h e ++ [60, 47, 97, 62, 32] ++ b) = y2 at *
  generalize B.bs ([60, 112, 62] ++ a ++ [32, 60, 97, 32, 104, 114, 101, 102, 61, 34, 109, 97, 105, 108, 116, 111, 58] ++ mailM n h e ++ [34, 62] ++ mailM n h e ++ [60, 47, 97, 62, 32]) = y3 at *
  generalize B.bs ([60, 112, 62] ++ a ++ [32, 60, 97, 32, 104, 114, 101, 102, 61, 34, 109, 97, 105, 108, 116, 111, 58] ++ mailM n h e ++ [34, 62] ++ mailM n h e) = y4 at *
  generalize B.bs ([60, 112, 62] ++ a ++ [32, 60, 97, 32, 104, 114, 101, 102, 61, 34, 109, 97, 105, 108, 116, 111, 58] ++ mailM n h e ++ [34, 62]) = y5 at *
  generalize B.bs ([60, 112, 62] ++ a ++ [32, 60, 97, 32, 104, 114, 101, 102, 61, 34, 109, 97, 105, 108, 116, 111, 58] ++ mailM n h e) = y6 at *
  generalize B.bs ([60, 112, 62] ++ a ++ [32, 60, 97, 32, 104, 114, 101, 102, 61, 34, 109, 97, 105, 108, 116, 111, 58]) = y7 at *
  generalize B.bs ([60, 112, 62] ++ mailTxt a n h e b) = y8 at *
  generalize B.bs (a ++ [32] ++ mailM n h e ++ [32]) = y9 at *
  generalize B.bs (a ++ [32] ++ mailM n h e) = y10 at *
  generalize B.bs (n ++ [64] ++ h ++ [46]) = y11 at *
  generalize B.bs ([60, 112, 62] ++ a) = y12 at *
  generalize B.bs (mailTxt a n h e b) = y13 at *
  generalize B.bs (n ++ [64] ++ h) = y14 at *
  generalize B.bs (a ++ [32]) = y15 at *
  generalize B.bs (n ++ [64]) = y16 at *
  generalize B.bs (mailM n h e) = y17 at *
  clear lM lT
  go_enter Tryz.func9, Tryz.ntmps9
  go_wp2_with fail
  refine (HWa.out W).mono ?_
  rintro e1 w1 ⟨rfl, rfl⟩
  go_wp2_with fail
  refine (HWb.out W).mono ?_
  rintro e1 w1 ⟨rfl, rfl⟩
  go_wp2_with fail
  refine (HWn.out W).mono ?_
  rintro e1 w1 ⟨rfl, rfl⟩
  go_wp2_with fail
  refine (HWh.out W).mono ?_
  rintro e1 w1 ⟨rfl, rfl⟩
  go_wp2_with fail
  refine (HWe.out W).mono ?_
  rintro e1 w1 ⟨rfl, rfl⟩
  go_wp2_with fail
  refine (HTMLP_b autoO rfl _ _ W W (Below.refl _ _) HON.out).mono ?_
  rintro e1 w5 ⟨rfl, hb6⟩
  go_wp2_with fail
  refine (HTMLP_b plainO rfl _ _ w5 W hb6 HOFF.out).mono ?_
  rintro e1 w6 ⟨rfl, hb7⟩
  go_wp2
  go_ret
  exact ⟨rfl, hb7⟩

set_option maxRecDepth 100000 in
set_option maxHeartbeats 4000000 in
theorem FnMail_w (a n h e b : List UInt8) (W : World) (hla : a.length ≤ 9223372036854775807) (hln : n.length ≤ 9223372036854775807) (hlh : h.length ≤ 9223372036854775807) (hle : e.length ≤ 9223372036854775807) (hlb : b.length ≤ 9223372036854775807) :
    Calls Tryz.prog 9 #[.string (B.bs a), .string (B.bs n), .string (B.bs h), .string (B.bs e), .string (B.bs b)] W fun e w' => e = .returned (.bool true) ∧ Below W.heap.size W w' := by
  have hza : (B.bs a).size = a.length := rfl
  have hzn : (B.bs n).size = n.length := rfl
  have hzh : (B.bs h).size = h.length := rfl
  have hze : (B.bs e).size = e.length := rfl
  have hzb : (B.bs b).size = b.length := rfl
  by_cases hsa : 2147483647 < a.length
  · go_enter Tryz.func9, Tryz.ntmps9
    go_wp2
    go_ret
    exact ⟨rfl, Below.refl _ _⟩
  by_cases hsn : 2147483647 < n.length
  · go_enter Tryz.func9, Tryz.ntmps9
    go_wp2
    go_ret
    exact ⟨rfl, Below.refl _ _⟩
  by_cases hsh : 2147483647 < h.length
  · go_enter Tryz.func9, Tryz.ntmps9
    go_wp2
    go_ret
    exact ⟨rfl, Below.refl _ _⟩
  by_cases hse : 2147483647 < e.length
  · go_enter Tryz.func9, Tryz.ntmps9
    go_wp2
    go_ret
    exact ⟨rfl, Below.refl _ _⟩
  by_cases hsb : 2147483647 < b.length
  · go_enter Tryz.func9, Tryz.ntmps9
    go_wp2
    go_ret
    exact ⟨rfl, Below.refl _ _⟩
  have HWa := Lib.hid (word_w a W (by omega))
  have HWn := Lib.hid (word_w n W (by omega))
  have HWh := Lib.hid (word_w h W (by omega))
  have HWe := Lib.hid (word_w e W (by omega))
  have HWb := Lib.hid (word_w b W (by omega))
  cases hwa : wordB a
  · rw [hwa] at HWa
    go_enter Tryz.func9, Tryz.ntmps9
    go_wp2_with fail
    refine HWa.out.mono ?_
    rintro e1 w1 ⟨rfl, rfl⟩
    go_wp2
    go_ret
    exact ⟨rfl, Below.refl _ _⟩
  cases hwb : wordB b
  · rw [hwa] at HWa
    rw [hwb] at HWb
    go_enter Tryz.func9, Tryz.ntmps9
    go_wp2_with fail
    refine HWa.out.mono ?_
    rintro e1 w1 ⟨rfl, rfl⟩
    go_wp2_with fail
    refine HWb.out.mono ?_
    rintro e1 w1 ⟨rfl, rfl⟩
    go_wp2
    go_ret
    exact ⟨rfl, Below.refl _ _⟩
  cases hwn : wordB n
  · rw [hwa] at HWa
    rw [hwb] at HWb
    rw [hwn] at HWn
    go_enter Tryz.func9, Tryz.ntmps9
    go_wp2_with fail
    refine HWa.out.mono ?_
    rintro e1 w1 ⟨rfl, rfl⟩
    go_wp2_with fail
    refine HWb.out.mono ?_
    rintro e1 w1 ⟨rfl, rfl⟩
    go_wp2_with fail
    refine HWn.out.mono ?_
    rintro e1 w1 ⟨rfl, rfl⟩
    go_wp2
    go_ret
    exact ⟨rfl, Below.refl _ _⟩
  cases hwh : wordB h
  · rw [hwa] at HWa
    rw [hwb] at HWb
    rw [hwn] at HWn
    rw [hwh] at HWh
    go_enter Tryz.func9, Tryz.ntmps9
    go_wp2_with fail
    refine HWa.out.mono ?_
    rintro e1 w1 ⟨rfl, rfl⟩
    go_wp2_with fail
    refine HWb.out.mono ?_
    rintro e1 w1 ⟨rfl, rfl⟩
    go_wp2_with fail
    refine HWn.out.mono ?_
    rintro e1 w1 ⟨rfl, rfl⟩
    go_wp2_with fail
    refine HWh.out.mono ?_
    rintro e1 w1 ⟨rfl, rfl⟩
    go_wp2
    go_ret
    exact ⟨rfl, Below.refl _ _⟩
  cases hwe : wordB e
  · rw [hwa] at HWa
    rw [hwb] at HWb
    rw [hwn] at HWn
    rw [hwh] at HWh
    rw [hwe] at HWe
    go_enter Tryz.func9, Tryz.ntmps9
    go_wp2_with fail
    refine HWa.out.mono ?_
    rintro e1 w1 ⟨rfl, rfl⟩
    go_wp2_with fail
    refine HWb.out.mono ?_
    rintro e1 w1 ⟨rfl, rfl⟩
    go_wp2_with fail
    refine HWn.out.mono ?_
    rintro e1 w1 ⟨rfl, rfl⟩
    go_wp2_with fail
    refine HWh.out.mono ?_
    rintro e1 w1 ⟨rfl, rfl⟩
    go_wp2_with fail
    refine HWe.out.mono ?_
    rintro e1 w1 ⟨rfl, rfl⟩
    go_wp2
    go_ret
    exact ⟨rfl, Below.refl _ _⟩
  exact mail_main a n h e b W hwa hwb hwn hwh hwe

end Go.Proofs.YtcmpcjffmccllaaGreatDoor

namespace Go.Proofs.YtcmpcjffmccllaaGreatDoor.fnMail
open Go.ChangeShapes Go.WideShapes Go.ChangeAt Go.RowKit

theorem spec_at {H : Type} {enc : TypeId × Value → H} {W : World} {args : Array Value} {ds : List (DataW H)} {p : List MemPlace}
    (h : DataW.TrodAll enc Tryz.prog W 0 (fun _ => true) true Tryz.f9.params.toList args.toList ds p) : Rows.fnMailSpec.fn H ds = { results := [.lit (.bool true)], args := ds } := by
  rw [Tryz.params9] at h
  obtain ⟨v0, vs0, d0, ds0, p0, q0, hargs, rfl, rfl, h0, r0⟩ := trodAll_cons h
  obtain ⟨v1, vs1, d1, ds1, p1, q1, hargs1, rfl, rfl, h1, r1⟩ := trodAll_cons r0
  obtain ⟨v2, vs2, d2, ds2, p2, q2, hargs2, rfl, rfl, h2, r2⟩ := trodAll_cons r1
  obtain ⟨v3, vs3, d3, ds3, p3, q3, hargs3, rfl, rfl, h3, r3⟩ := trodAll_cons r2
  obtain ⟨v4, vs4, d4, ds4, p4, q4, hargs4, rfl, rfl, h4, r4⟩ := trodAll_cons r3
  obtain ⟨rfl, rfl, rfl⟩ := trodAll_nil r4
  rfl

set_option maxRecDepth 100000 in
theorem contract (H : Type) (enc : TypeId × Value → H) (W : World) (base : Nat) (args : Array Value) (ds gs : List (DataW H)) (before : List MemPlace)
    (hval : ∀ (j : Nat) t v, Tryz.f9.params[j]? = some t → args[j]? = some v → Value.okWide Tryz.prog W .any base t v)
    (hW : DataW.Whole enc Tryz.prog Tryz.f9.params.toList Rows.fnMailSpec.vars false W args.toList ds gs before) (_hL : laidMetH Tryz.prog Rows.fnMailRow.laid W) :
    Calls Tryz.prog 9 args W fun e W' => e = .returned (.bool true) ∧ Below W.heap.size W W' := by
  obtain ⟨p, q, hA0, hV, rfl, hfz, hnd⟩ := hW
  have hA : DataW.TrodAll enc Tryz.prog W 0 (fun _ => true) true Tryz.f9.params.toList args.toList ds p := hA0
  rw [Tryz.params9] at hA
  obtain ⟨v0, vs0, d0, ds0, p0, q0, hargs0, rfl, rfl, ⟨n0, h0⟩, r0⟩ := trodAll_cons hA
  obtain ⟨v1, vs1, d1, ds1, p1, q1, hargs1, rfl, rfl, ⟨n1, h1⟩, r1⟩ := trodAll_cons r0
  obtain ⟨v2, vs2, d2, ds2, p2, q2, hargs2, rfl, rfl, ⟨n2, h2⟩, r2⟩ := trodAll_cons r1
  obtain ⟨v3, vs3, d3, ds3, p3, q3, hargs3, rfl, rfl, ⟨n3, h3⟩, r3⟩ := trodAll_cons r2
  obtain ⟨v4, vs4, d4, ds4, p4, q4, hargs4, rfl, rfl, ⟨n4, h4⟩, r4⟩ := trodAll_cons r3
  obtain ⟨rfl, rfl, rfl⟩ := trodAll_nil r4
  obtain rfl : args = #[v0, v1, v2, v3, v4] := by cases args; simp_all
  obtain ⟨s0, rfl⟩ := okWide_string Tryz.underlying9 (hval 0 9 v0 rfl rfl)
  obtain ⟨s0', e0, _, hsz0⟩ := DataW.trod_string Tryz.underlying9 h0
  simp [Value.cells] at e0
  subst e0
  obtain ⟨s1, rfl⟩ := okWide_string Tryz.underlying9 (hval 1 9 v1 rfl rfl)
  obtain ⟨s1', e1, _, hsz1⟩ := DataW.trod_string Tryz.underlying9 h1
  simp [Value.cells] at e1
  subst e1
  obtain ⟨s2, rfl⟩ := okWide_string Tryz.underlying9 (hval 2 9 v2 rfl rfl)
  obtain ⟨s2', e2, _, hsz2⟩ := DataW.trod_string Tryz.underlying9 h2
  simp [Value.cells] at e2
  subst e2
  obtain ⟨s3, rfl⟩ := okWide_string Tryz.underlying9 (hval 3 9 v3 rfl rfl)
  obtain ⟨s3', e3, _, hsz3⟩ := DataW.trod_string Tryz.underlying9 h3
  simp [Value.cells] at e3
  subst e3
  obtain ⟨s4, rfl⟩ := okWide_string Tryz.underlying9 (hval 4 9 v4 rfl rfl)
  obtain ⟨s4', e4, _, hsz4⟩ := DataW.trod_string Tryz.underlying9 h4
  simp [Value.cells] at e4
  subst e4
  have hmx : maxLen = 9223372036854775807 := rfl
  have h := FnMail_w s0.data.toList s1.data.toList s2.data.toList s3.data.toList s4.data.toList W (by rw [← B.size_data]; omega) (by rw [← B.size_data]; omega) (by rw [← B.size_data]; omega) (by rw [← B.size_data]; omega) (by rw [← B.size_data]; omega)
  rw [bs_list, bs_list, bs_list, bs_list, bs_list] at h
  exact h
end Go.Proofs.YtcmpcjffmccllaaGreatDoor.fnMail
