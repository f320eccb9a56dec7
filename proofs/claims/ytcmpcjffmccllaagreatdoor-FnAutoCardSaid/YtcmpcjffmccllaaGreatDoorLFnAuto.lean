/- The law FnAuto: its walk, and its contract over what its arguments read as. MADE BY wip/gen_auto.py -/
import Derived.Test.YtcmpcjffmccllaaGreatDoorMb
import Derived.Test.YtcmpcjffmccllaaGreatDoorRw
namespace Go.Proofs.YtcmpcjffmccllaaGreatDoor
open Go.RowKit Sl

theorem bs_list (s : ByteArray) : B.bs s.data.toList = s := by cases s; rfl

def pathB (s : List UInt8) : Bool := decide (s.length ≤ 20) && s.all fun c => (⟨#[97, 98, 47]⟩ : ByteArray).data.toList.contains c

theorem pathB_ok {s : List UInt8} (h : pathB s = true) : s.length ≤ 20 ∧ ∀ c ∈ s, c = 97 ∨ c = 98 ∨ c = 47 := by
  unfold pathB at h
  rw [Bool.and_eq_true, decide_eq_true_eq] at h
  refine ⟨h.1, fun c hc => ?_⟩
  have h2 : c ∈ ([97, 98, 47] : List UInt8) := List.contains_iff_mem.1 (List.all_eq_true.1 h.2 c hc)
  simpa using h2

theorem path_w (s : List UInt8) (w : World) (hs : s.length ≤ 1000000000000) :
    Calls Tryz.prog 24 #[.string (B.bs s), .string ⟨#[97, 98, 47]⟩, .int .i64 20] w fun e w' => e = .returned (.bool (pathB s)) ∧ w = w' := only_w s ⟨#[97, 98, 47]⟩ 20 w (by decide) hs

set_option maxRecDepth 100000 in
set_option maxHeartbeats 4000000 in
theorem auto_false (a d e p b : List UInt8) (W : World) (hwa : wordB a = true) (hwb : wordB b = true) (hwd : wordB d = true) (hwe : wordB e = true) (hwp : pathB p = true) :
    Calls Tryz.prog 8 #[.string (B.bs a), .string (B.bs d), .string (B.bs e), .string (B.bs p), .string (B.bs b), .bool false] W fun e w' => e = .returned (.bool true) ∧ Below W.heap.size W w' := by
  have hza : (B.bs a).size = a.length := rfl
  have hzd : (B.bs d).size = d.length := rfl
  have hze : (B.bs e).size = e.length := rfl
  have hzp : (B.bs p).size = p.length := rfl
  have hzb : (B.bs b).size = b.length := rfl
  have laa := (wordB_ok hwa).len
  have lab := (wordB_ok hwb).len
  have lad := (wordB_ok hwd).len
  have lae := (wordB_ok hwe).len
  have lap := (pathB_ok hwp).1
  have hok : HttpOk a d e p b := ⟨wordB_ok hwa, wordB_ok hwb, wordB_ok hwd, wordB_ok hwe, lap, (pathB_ok hwp).2⟩
  have HWa := Lib.hid (fun w => word_w a w (by omega))
  rw [hwa] at HWa
  have HWb := Lib.hid (fun w => word_w b w (by omega))
  rw [hwb] at HWb
  have HWd := Lib.hid (fun w => word_w d w (by omega))
  rw [hwd] at HWd
  have HWe := Lib.hid (fun w => word_w e w (by omega))
  rw [hwe] at HWe
  have HWp := Lib.hid (fun w => path_w p w (by omega))
  rw [hwp] at HWp
  have HON := Lib.hid (hok.on (q := false) (Sl.old W))
  have HOFF := Lib.hid (hok.off (q := false) (Sl.old W))
  have lM := hok.lenM (q := false)
  have lF := hok.lenM (q := false)
  have lT := hok.len (q := false)
  clear hwa hwb hwd hwe hwp hok
  have t1 : ∀ w, (Op.stringOp .add ⟨#[104, 116, 116, 112, 58, 47, 47]⟩ (B.bs (d))).run Tryz.prog w = .ok (.string (B.bs ([104, 116, 116, 112, 58, 47, 47] ++ d))) w := fun w => addB ([104, 116, 116, 112, 58, 47, 47]) (d) w (by simp only [List.length_cons, List.length_nil]; omega)
  have t2 : ∀ w, (Op.stringOp .add (B.bs ([104, 116, 116, 112, 58, 47, 47] ++ d)) ⟨#[46]⟩).run Tryz.prog w = .ok (.string (B.bs ([104, 116, 116, 112, 58, 47, 47] ++ d ++ [46]))) w := fun w => addB ([104, 116, 116, 112, 58, 47, 47] ++ d) ([46]) w (by simp only [List.length_append, List.length_cons, List.length_nil]; omega)
  have t3 : ∀ w, (Op.stringOp .add (B.bs ([104, 116, 116, 112, 58, 47, 47] ++ d ++ [46])) (B.bs (e))).run Tryz.prog w = .ok (.string (B.bs ([104, 116, 116, 112, 58, 47, 47] ++ d ++ [46] ++ e))) w := fun w => addB ([104, 116, 116, 112, 58, 47, 47] ++ d ++ [46]) (e) w (by simp only [List.length_append, List.length_cons, List.length_nil]; omega)
  have t4 : ∀ w, (Op.stringOp .add (B.bs ([104, 116, 116, 112, 58, 47, 47] ++ d ++ [46] ++ e)) ⟨#[47]⟩).run Tryz.prog w = .ok (.string (B.bs ([104, 116, 116, 112, 58, 47, 47] ++ d ++ [46] ++ e ++ [47]))) w := fun w => addB ([104, 116, 116, 112, 58, 47, 47] ++ d ++ [46] ++ e) ([47]) w (by simp only [List.length_append, List.length_cons, List.length_nil]; omega)
  have t5 : ∀ w, (Op.stringOp .add (B.bs ([104, 116, 116, 112, 58, 47, 47] ++ d ++ [46] ++ e ++ [47])) (B.bs (p))).run Tryz.prog w = .ok (.string (B.bs (httpM false d e p))) w := fun w => by
    have := addB ([104, 116, 116, 112, 58, 47, 47] ++ d ++ [46] ++ e ++ [47]) (p) w (by simp only [List.length_append, List.length_cons, List.length_nil]; omega)
    rw [show [104, 116, 116, 112, 58, 47, 47] ++ d ++ [46] ++ e ++ [47] ++ p = httpM false d e p by simp [httpM, httpS]] at this
    exact this
  have x1 : ∀ w, (Op.stringOp .add (B.bs (a)) ⟨#[32]⟩).run Tryz.prog w = .ok (.string (B.bs (a ++ [32]))) w := fun w => addB (a) ([32]) w (by simp only [List.length_cons, List.length_nil]; omega)
  have x2 : ∀ w, (Op.stringOp .add (B.bs (a ++ [32])) (B.bs (httpM false d e p))).run Tryz.prog w = .ok (.string (B.bs (a ++ [32] ++ httpM false d e p))) w := fun w => addB (a ++ [32]) (httpM false d e p) w (by simp only [List.length_append, List.length_cons, List.length_nil]; omega)
  have x3 : ∀ w, (Op.stringOp .add (B.bs (a ++ [32] ++ httpM false d e p)) ⟨#[32]⟩).run Tryz.prog w = .ok (.string (B.bs (a ++ [32] ++ httpM false d e p ++ [32]))) w := fun w => addB (a ++ [32] ++ httpM false d e p) ([32]) w (by simp only [List.length_append, List.length_cons, List.length_nil]; omega)
  have x4 : ∀ w, (Op.stringOp .add (B.bs (a ++ [32] ++ httpM false d e p ++ [32])) (B.bs (b))).run Tryz.prog w = .ok (.string (B.bs (httpTxt a false d e p b))) w := fun w => by
    have := addB (a ++ [32] ++ httpM false d e p ++ [32]) (b) w (by simp only [List.length_append, List.length_cons, List.length_nil]; omega)
    rw [show a ++ [32] ++ httpM false d e p ++ [32] ++ b = httpTxt a false d e p b by simp [httpTxt]] at this
    exact this
  have o1 : ∀ w, (Op.stringOp .add ⟨#[60, 112, 62]⟩ (B.bs (a))).run Tryz.prog w = .ok (.string (B.bs ([60, 112, 62] ++ a))) w := fun w => addB ([60, 112, 62]) (a) w (by simp only [List.length_cons, List.length_nil]; omega)
  have o2 : ∀ w, (Op.stringOp .add (B.bs ([60, 112, 62] ++ a)) ⟨#[32, 60, 97, 32, 104, 114, 101, 102, 61, 34]⟩).run Tryz.prog w = .ok (.string (B.bs ([60, 112, 62] ++ a ++ [32, 60, 97, 32, 104, 114, 101, 102, 61, 34]))) w := fun w => addB ([60, 112, 62] ++ a) ([32, 60, 97, 32, 104, 114, 101, 102, 61, 34]) w (by simp only [List.length_append, List.length_cons, List.length_nil]; omega)
  have o3 : ∀ w, (Op.stringOp .add (B.bs ([60, 112, 62] ++ a ++ [32, 60, 97, 32, 104, 114, 101, 102, 61, 34])) (B.bs (httpM false d e p))).run Tryz.prog w = .ok (.string (B.bs ([60, 112, 62] ++ a ++ [32, 60, 97, 32, 104, 114, 101, 102, 61, 34] ++ httpM false d e p))) w := fun w => addB ([60, 112, 62] ++ a ++ [32, 60, 97, 32, 104, 114, 101, 102, 61, 34]) (httpM false d e p) w (by simp only [List.length_append, List.length_cons, List.length_nil]; omega)
  have o4 : ∀ w, (Op.stringOp .add (B.bs ([60, 112, 62] ++ a ++ [32, 60, 97, 32, 104, 114, 101, 102, 61, 34] ++ httpM false d e p)) ⟨#[34, 62]⟩).run Tryz.prog w = .ok (.string (B.bs ([60, 112, 62] ++ a ++ [32, 60, 97, 32, 104, 114, 101, 102, 61, 34] ++ httpM false d e p ++ [34, 62]))) w := fun w => addB ([60, 112, 62] ++ a ++ [32, 60, 97, 32, 104, 114, 101, 102, 61, 34] ++ httpM false d e p) ([34, 62]) w (by simp only [List.length_append, List.length_cons, List.length_nil]; omega)
  have o5 : ∀ w, (Op.stringOp .add (B.bs ([60, 112, 62] ++ a ++ [32, 60, 97, 32, 104, 114, 101, 102, 61, 34] ++ httpM false d e p ++ [34, 62])) (B.bs (httpM false d e p))).run Tryz.prog w = .ok (.string (B.bs ([60, 112, 62] ++ a ++ [32, 60, 97, 32, 104, 114, 101, 102, 61, 34] ++ httpM false d e p ++ [34, 62] ++ httpM false d e p))) w := fun w => addB ([60, 112, 62] ++ a ++ [32, 60, 97, 32, 104, 114, 101, 102, 61, 34] ++ httpM false d e p ++ [34, 62]) (httpM false d e p) w (by simp only [List.length_append, List.length_cons, List.length_nil]; omega)
  have o6 : ∀ w, (Op.stringOp .add (B.bs ([60, 112, 62] ++ a ++ [32, 60, 97, 32, 104, 114, 101, 102, 61, 34] ++ httpM false d e p ++ [34, 62] ++ httpM false d e p)) ⟨#[60, 47, 97, 62, 32]⟩).run Tryz.prog w = .ok (.string (B.bs ([60, 112, 62] ++ a ++ [32, 60, 97, 32, 104, 114, 101, 102, 61, 34] ++ httpM false d e p ++ [34, 62] ++ httpM false d e p ++ [60, 47, 97, 62, 32]))) w := fun w => addB ([60, 112, 62] ++ a ++ [32, 60, 97, 32, 104, 114, 101, 102, 61, 34] ++ httpM false d e p ++ [34, 62] ++ httpM false d e p) ([60, 47, 97, 62, 32]) w (by simp only [List.length_append, List.length_cons, List.length_nil]; omega)
  have o7 : ∀ w, (Op.stringOp .add (B.bs ([60, 112, 62] ++ a ++ [32, 60, 97, 32, 104, 114, 101, 102, 61, 34] ++ httpM false d e p ++ [34, 62] ++ httpM false d e p ++ [60, 47, 97, 62, 32])) (B.bs (b))).run Tryz.prog w = .ok (.string (B.bs ([60, 112, 62] ++ a ++ [32, 60, 97, 32, 104, 114, 101, 102, 61, 34] ++ httpM false d e p ++ [34, 62] ++ httpM false d e p ++ [60, 47, 97, 62, 32] ++ b))) w := fun w => addB ([60, 112, 62] ++ a ++ [32, 60, 97, 32, 104, 114, 101, 102, 61, 34] ++ httpM false d e p ++ [34, 62] ++ httpM false d e p ++ [60, 47, 97, 62, 32]) (b) w (by simp only [List.length_append, List.length_cons, List.length_nil]; omega)
  have o8 : ∀ w, (Op.stringOp .add (B.bs ([60, 112, 62] ++ a ++ [32, 60, 97, 32, 104, 114, 101, 102, 61, 34] ++ httpM false d e p ++ [34, 62] ++ httpM false d e p ++ [60, 47, 97, 62, 32] ++ b)) ⟨#[60, 47, 112, 62, 10]⟩).run Tryz.prog w = .ok (.string (B.bs (paraHTML (httpOut a false d e p b)))) w := fun w => by
    have := addB ([60, 112, 62] ++ a ++ [32, 60, 97, 32, 104, 114, 101, 102, 61, 34] ++ httpM false d e p ++ [34, 62] ++ httpM false d e p ++ [60, 47, 97, 62, 32] ++ b) ([60, 47, 112, 62, 10]) w (by simp only [List.length_append, List.length_cons, List.length_nil]; omega)
    rw [show [60, 112, 62] ++ a ++ [32, 60, 97, 32, 104, 114, 101, 102, 61, 34] ++ httpM false d e p ++ [34, 62] ++ httpM false d e p ++ [60, 47, 97, 62, 32] ++ b ++ [60, 47, 112, 62, 10] = paraHTML (httpOut a false d e p b) by simp [paraHTML, httpOut, aOpen]] at this
    exact this
  have f1 : ∀ w, (Op.stringOp .add ⟨#[60, 112, 62]⟩ (B.bs (httpTxt a false d e p b))).run Tryz.prog w = .ok (.string (B.bs ([60, 112, 62] ++ httpTxt a false d e p b))) w := fun w => addB ([60, 112, 62]) (httpTxt a false d e p b) w (by simp only [List.length_cons, List.length_nil]; omega)
  have f2 : ∀ w, (Op.stringOp .add (B.bs ([60, 112, 62] ++ httpTxt a false d e p b)) ⟨#[60, 47, 112, 62, 10]⟩).run Tryz.prog w = .ok (.string (B.bs (paraHTML (httpTxt a false d e p b)))) w := fun w => by
    have := addB ([60, 112, 62] ++ httpTxt a false d e p b) ([60, 47, 112, 62, 10]) w (by simp only [List.length_append, List.length_cons, List.length_nil]; omega)
    rw [show [60, 112, 62] ++ httpTxt a false d e p b ++ [60, 47, 112, 62, 10] = paraHTML (httpTxt a false d e p b) by simp [paraHTML]] at this
    exact this
  generalize B.bs (paraHTML (httpOut a false d e p b)) = y0 at *
  generalize B.bs (paraHTML (httpTxt a false d e p b)) = y1 at *
  generalize B.bs ([60, 112, 62] ++ a ++ [32, 60, 97, 32, 104, 114, 101, 102, 61, 34] ++ httpM false d e p ++ [34, 62] ++ httpM false d e p ++ [60, 47, 97, 62, 32] ++ b) = y2 at *
  generalize B.bs ([60, 112, 62] ++ a ++ [32, 60, 97, 32, 104, 114, 101, 102, 61, 34] ++ httpM false d e p ++ [34, 62] ++ httpM false d e p ++ [60, 47, 97, 62, 32]) = y3 at *
  generalize B.bs ([60, 112, 62] ++ a ++ [32, 60, 97, 32, 104, 114, 101, 102, 61, 34] ++ httpM false d e p ++ [34, 62] ++ httpM false d e p) = y4 at *
  generalize B.bs ([60, 112, 62] ++ a ++ [32, 60, 97, 32, 104, 114, 101, 102, 61, 34] ++ httpM false d e p ++ [34, 62]) = y5 at *
  generalize B.bs ([60, 112, 62] ++ a ++ [32, 60, 97, 32, 104, 114, 101, 102, 61, 34] ++ httpM false d e p) = y6 at *
  generalize B.bs ([60, 112, 62] ++ a ++ [32, 60, 97, 32, 104, 114, 101, 102, 61, 34]) = y7 at *
  generalize B.bs ([104, 116, 116, 112, 58, 47, 47] ++ d ++ [46] ++ e ++ [47]) = y8 at *
  generalize B.bs ([104, 116, 116, 112, 58, 47, 47] ++ d ++ [46] ++ e) = y9 at *
  generalize B.bs ([104, 116, 116, 112, 58, 47, 47] ++ d ++ [46]) = y10 at *
  generalize B.bs ([60, 112, 62] ++ httpTxt a false d e p b) = y11 at *
  generalize B.bs (a ++ [32] ++ httpM false d e p ++ [32]) = y12 at *
  generalize B.bs ([104, 116, 116, 112, 58, 47, 47] ++ d) = y13 at *
  generalize B.bs (a ++ [32] ++ httpM false d e p) = y14 at *
  generalize B.bs (httpTxt a false d e p b) = y15 at *
  generalize B.bs ([60, 112, 62] ++ a) = y16 at *
  generalize B.bs (a ++ [32]) = y17 at *
  generalize B.bs (httpM false d e p) = y18 at *
  clear lM lF lT
  go_enter Tryz.func8, Tryz.ntmps8
  go_wp2_with fail
  refine (HWa.out W).mono ?_
  rintro e1 w1 ⟨rfl, rfl⟩
  go_wp2_with fail
  refine (HWb.out W).mono ?_
  rintro e1 w1 ⟨rfl, rfl⟩
  go_wp2_with fail
  refine (HWd.out W).mono ?_
  rintro e1 w1 ⟨rfl, rfl⟩
  go_wp2_with fail
  refine (HWe.out W).mono ?_
  rintro e1 w1 ⟨rfl, rfl⟩
  go_wp2_with fail
  refine (HWp.out W).mono ?_
  rintro e1 w1 ⟨rfl, rfl⟩
  go_wp2_with fail
  refine (HTMLP_b autoO rfl _ _ W W (Below.refl _ _) HON.out).mono ?_
  rintro e1 w5 ⟨rfl, hb6⟩
  go_wp2_with fail
  refine (HTMLP_b plainO rfl _ _ w5 W hb6 HOFF.out).mono ?_
  rintro e1 w6 ⟨rfl, hb7⟩
  go_wp2
  go_ret
  exact ⟨rfl, hb7⟩

set_option maxRecDepth 100000 in
set_option maxHeartbeats 4000000 in
theorem auto_true (a d e p b : List UInt8) (W : World) (hwa : wordB a = true) (hwb : wordB b = true) (hwd : wordB d = true) (hwe : wordB e = true) (hwp : pathB p = true) :
    Calls Tryz.prog 8 #[.string (B.bs a), .string (B.bs d), .string (B.bs e), .string (B.bs p), .string (B.bs b), .bool true] W fun e w' => e = .returned (.bool true) ∧ Below W.heap.size W w' := by
  have hza : (B.bs a).size = a.length := rfl
  have hzd : (B.bs d).size = d.length := rfl
  have hze : (B.bs e).size = e.length := rfl
  have hzp : (B.bs p).size = p.length := rfl
  have hzb : (B.bs b).size = b.length := rfl
  have laa := (wordB_ok hwa).len
  have lab := (wordB_ok hwb).len
  have lad := (wordB_ok hwd).len
  have lae := (wordB_ok hwe).len
  have lap := (pathB_ok hwp).1
  have hok : HttpOk a d e p b := ⟨wordB_ok hwa, wordB_ok hwb, wordB_ok hwd, wordB_ok hwe, lap, (pathB_ok hwp).2⟩
  have HWa := Lib.hid (fun w => word_w a w (by omega))
  rw [hwa] at HWa
  have HWb := Lib.hid (fun w => word_w b w (by omega))
  rw [hwb] at HWb
  have HWd := Lib.hid (fun w => word_w d w (by omega))
  rw [hwd] at HWd
  have HWe := Lib.hid (fun w => word_w e w (by omega))
  rw [hwe] at HWe
  have HWp := Lib.hid (fun w => path_w p w (by omega))
  rw [hwp] at HWp
  have HON := Lib.hid (hok.on (q := true) (Sl.old W))
  have HOFF := Lib.hid (hok.off (q := true) (Sl.old W))
  have lM := hok.lenM (q := true)
  have lF := hok.lenM (q := false)
  have lT := hok.len (q := true)
  clear hwa hwb hwd hwe hwp hok
  have t1 : ∀ w, (Op.stringOp .add ⟨#[104, 116, 116, 112, 58, 47, 47]⟩ (B.bs (d))).run Tryz.prog w = .ok (.string (B.bs ([104, 116, 116, 112, 58, 47, 47] ++ d))) w := fun w => addB ([104, 116, 116, 112, 58, 47, 47]) (d) w (by simp only [List.length_cons, List.length_nil]; omega)
  have t2 : ∀ w, (Op.stringOp .add (B.bs ([104, 116, 116, 112, 58, 47, 47] ++ d)) ⟨#[46]⟩).run Tryz.prog w = .ok (.string (B.bs ([104, 116, 116, 112, 58, 47, 47] ++ d ++ [46]))) w := fun w => addB ([104, 116, 116, 112, 58, 47, 47] ++ d) ([46]) w (by simp only [List.length_append, List.length_cons, List.length_nil]; omega)
  have t3 : ∀ w, (Op.stringOp .add (B.bs ([104, 116, 116, 112, 58, 47, 47] ++ d ++ [46])) (B.bs (e))).run Tryz.prog w = .ok (.string (B.bs ([104, 116, 116, 112, 58, 47, 47] ++ d ++ [46] ++ e))) w := fun w => addB ([104, 116, 116, 112, 58, 47, 47] ++ d ++ [46]) (e) w (by simp only [List.length_append, List.length_cons, List.length_nil]; omega)
  have t4 : ∀ w, (Op.stringOp .add (B.bs ([104, 116, 116, 112, 58, 47, 47] ++ d ++ [46] ++ e)) ⟨#[47]⟩).run Tryz.prog w = .ok (.string (B.bs ([104, 116, 116, 112, 58, 47, 47] ++ d ++ [46] ++ e ++ [47]))) w := fun w => addB ([104, 116, 116, 112, 58, 47, 47] ++ d ++ [46] ++ e) ([47]) w (by simp only [List.length_append, List.length_cons, List.length_nil]; omega)
  have t5 : ∀ w, (Op.stringOp .add (B.bs ([104, 116, 116, 112, 58, 47, 47] ++ d ++ [46] ++ e ++ [47])) (B.bs (p))).run Tryz.prog w = .ok (.string (B.bs (httpM false d e p))) w := fun w => by
    have := addB ([104, 116, 116, 112, 58, 47, 47] ++ d ++ [46] ++ e ++ [47]) (p) w (by simp only [List.length_append, List.length_cons, List.length_nil]; omega)
    rw [show [104, 116, 116, 112, 58, 47, 47] ++ d ++ [46] ++ e ++ [47] ++ p = httpM false d e p by simp [httpM, httpS]] at this
    exact this
  have u1 : ∀ w, (Op.stringOp .add ⟨#[104, 116, 116, 112, 115, 58, 47, 47]⟩ (B.bs (d))).run Tryz.prog w = .ok (.string (B.bs ([104, 116, 116, 112, 115, 58, 47, 47] ++ d))) w := fun w => addB ([104, 116, 116, 112, 115, 58, 47, 47]) (d) w (by simp only [List.length_cons, List.length_nil]; omega)
  have u2 : ∀ w, (Op.stringOp .add (B.bs ([104, 116, 116, 112, 115, 58, 47, 47] ++ d)) ⟨#[46]⟩).run Tryz.prog w = .ok (.string (B.bs ([104, 116, 116, 112, 115, 58, 47, 47] ++ d ++ [46]))) w := fun w => addB ([104, 116, 116, 112, 115, 58, 47, 47] ++ d) ([46]) w (by simp only [List.length_append, List.length_cons, List.length_nil]; omega)
  have u3 : ∀ w, (Op.stringOp .add (B.bs ([104, 116, 116, 112, 115, 58, 47, 47] ++ d ++ [46])) (B.bs (e))).run Tryz.prog w = .ok (.string (B.bs ([104, 116, 116, 112, 115, 58, 47, 47] ++ d ++ [46] ++ e))) w := fun w => addB ([104, 116, 116, 112, 115, 58, 47, 47] ++ d ++ [46]) (e) w (by simp only [List.length_append, List.length_cons, List.length_nil]; omega)
  have u4 : ∀ w, (Op.stringOp .add (B.bs ([104, 116, 116, 112, 115, 58, 47, 47] ++ d ++ [46] ++ e)) ⟨#[47]⟩).run Tryz.prog w = .ok (.string (B.bs ([104, 116, 116, 112, 115, 58, 47, 47] ++ d ++ [46] ++ e ++ [47]))) w := fun w => addB ([104, 116, 116, 112, 115, 58, 47, 47] ++ d ++ [46] ++ e) ([47]) w (by simp only [List.length_append, List.length_cons, List.length_nil]; omega)
  have u5 : ∀ w, (Op.stringOp .add (B.bs ([104, 116, 116, 112, 115, 58, 47, 47] ++ d ++ [46] ++ e ++ [47])) (B.bs (p))).run Tryz.prog w = .ok (.string (B.bs (httpM true d e p))) w := fun w => by
    have := addB ([104, 116, 116, 112, 115, 58, 47, 47] ++ d ++ [46] ++ e ++ [47]) (p) w (by simp only [List.length_append, List.length_cons, List.length_nil]; omega)
    rw [show [104, 116, 116, 112, 115, 58, 47, 47] ++ d ++ [46] ++ e ++ [47] ++ p = httpM true d e p by simp [httpM, httpS]] at this
    exact this
  have x1 : ∀ w, (Op.stringOp .add (B.bs (a)) ⟨#[32]⟩).run Tryz.prog w = .ok (.string (B.bs (a ++ [32]))) w := fun w => addB (a) ([32]) w (by simp only [List.length_cons, List.length_nil]; omega)
  have x2 : ∀ w, (Op.stringOp .add (B.bs (a ++ [32])) (B.bs (httpM true d e p))).run Tryz.prog w = .ok (.string (B.bs (a ++ [32] ++ httpM true d e p))) w := fun w => addB (a ++ [32]) (httpM true d e p) w (by simp only [List.length_append, List.length_cons, List.length_nil]; omega)
  have x3 : ∀ w, (Op.stringOp .add (B.bs (a ++ [32] ++ httpM true d e p)) ⟨#[32]⟩).run Tryz.prog w = .ok (.string (B.bs (a ++ [32] ++ httpM true d e p ++ [32]))) w := fun w => addB (a ++ [32] ++ httpM true d e p) ([32]) w (by simp only [List.length_append, List.length_cons, List.length_nil]; omega)
  have x4 : ∀ w, (Op.stringOp .add (B.bs (a ++ [32] ++ httpM true d e p ++ [32])) (B.bs (b))).run Tryz.prog w = .ok (.string (B.bs (httpTxt a true d e p b))) w := fun w => by
    have := addB (a ++ [32] ++ httpM true d e p ++ [32]) (b) w (by simp only [List.length_append, List.length_cons, List.length_nil]; omega)
    rw [show a ++ [32] ++ httpM true d e p ++ [32] ++ b = httpTxt a true d e p b by simp [httpTxt]] at this
    exact this
  have o1 : ∀ w, (Op.stringOp .add ⟨#[60, 112, 62]⟩ (B.bs (a))).run Tryz.prog w = .ok (.string (B.bs ([60, 112, 62] ++ a))) w := fun w => addB ([60, 112, 62]) (a) w (by simp only [List.length_cons, List.length_nil]; omega)
  have o2 : ∀ w, (Op.stringOp .add (B.bs ([60, 112, 62] ++ a)) ⟨#[32, 60, 97, 32, 104, 114, 101, 102, 61, 34]⟩).run Tryz.prog w = .ok (.string (B.bs ([60, 112, 62] ++ a ++ [32, 60, 97, 32, 104, 114, 101, 102, 61, 34]))) w := fun w => addB ([60, 112, 62] ++ a) ([32, 60, 97, 32, 104, 114, 101, 102, 61, 34]) w (by simp only [List.length_append, List.length_cons, List.length_nil]; omega)
  have o3 : ∀ w, (Op.stringOp .add (B.bs ([60, 112, 62] ++ a ++ [32, 60, 97, 32, 104, 114, 101, 102, 61, 34])) (B.bs (httpM true d e p))).run Tryz.prog w = .ok (.string (B.bs ([60, 112, 62] ++ a ++ [32, 60, 97, 32, 104, 114, 101, 102, 61, 34] ++ httpM true d e p))) w := fun w => addB ([60, 112, 62] ++ a ++ [32, 60, 97, 32, 104, 114, 101, 102, 61, 34]) (httpM true d e p) w (by simp only [List.length_append, List.length_cons, List.length_nil]; omega)
  have o4 : ∀ w, (Op.stringOp .add (B.bs ([60, 112, 62] ++ a ++ [32, 60, 97, 32, 104, 114, 101, 102, 61, 34] ++ httpM true d e p)) ⟨#[34, 62]⟩).run Tryz.prog w = .ok (.string (B.bs ([60, 112, 62] ++ a ++ [32, 60, 97, 32, 104, 114, 101, 102, 61, 34] ++ httpM true d e p ++ [34, 62]))) w := fun w => addB ([60, 112, 62] ++ a ++ [32, 60, 97, 32, 104, 114, 101, 102, 61, 34] ++ httpM true d e p) ([34, 62]) w (by simp only [List.length_append, List.length_cons, List.length_nil]; omega)
  have o5 : ∀ w, (Op.stringOp .add (B.bs ([60, 112, 62] ++ a ++ [32, 60, 97, 32, 104, 114, 101, 102, 61, 34] ++ httpM true d e p ++ [34, 62])) (B.bs (httpM true d e p))).run Tryz.prog w = .ok (.string (B.bs ([60, 112, 62] ++ a ++ [32, 60, 97, 32, 104, 114, 101, 102, 61, 34] ++ httpM true d e p ++ [34, 62] ++ httpM true d e p))) w := fun w => addB ([60, 112, 62] ++ a ++ [32, 60, 97, 32, 104, 114, 101, 102, 61, 34] ++ httpM true d e p ++ [34, 62]) (httpM true d e p) w (by simp only [List.length_append, List.length_cons, List.length_nil]; omega)
  have o6 : ∀ w, (Op.stringOp .add (B.bs ([60, 112, 62] ++ a ++ [32, 60, 97, 32, 104, 114, 101, 102, 61, 34] ++ httpM true d e p ++ [34, 62] ++ httpM true d e p)) ⟨#[60, 47, 97, 62, 32]⟩).run Tryz.prog w = .ok (.string (B.bs ([60, 112, 62] ++ a ++ [32, 60, 97, 32, 104, 114, 101, 102, 61, 34] ++ httpM true d e p ++ [34, 62] ++ httpM true d e p ++ [60, 47, 97, 62, 32]))) w := fun w => addB ([60, 112, 62] ++ a ++ [32, 60, 97, 32, 104, 114, 101, 102, 61, 34] ++ httpM true d e p ++ [34, 62] ++ httpM true d e p) ([60, 47, 97, 62, 32]) w (by simp only [List.length_append, List.length_cons, List.length_nil]; omega)
  have o7 : ∀ w, (Op.stringOp .add (B.bs ([60, 112, 62] ++ a ++ [32, 60, 97, 32, 104, 114, 101, 102, 61, 34] ++ httpM true d e p ++ [34, 62] ++ httpM true d e p ++ [60, 47, 97, 62, 32])) (B.bs (b))).run Tryz.prog w = .ok (.string (B.bs ([60, 112, 62] ++ a ++ [32, 60, 97, 32, 104, 114, 101, 102, 61, 34] ++ httpM true d e p ++ [34, 62] ++ httpM true d e p ++ [60, 47, 97, 62, 32] ++ b))) w := fun w => addB ([60, 112, 62] ++ a ++ [32, 60, 97, 32, 104, 114, 101, 102, 61, 34] ++ httpM true d e p ++ [34, 62] ++ httpM true d e p ++ [60, 47, 97, 62, 32]) (b) w (by simp only [List.length_append, List.length_cons, List.length_nil]; omega)
  have o8 : ∀ w, (Op.stringOp .add (B.bs ([60, 112, 62] ++ a ++ [32, 60, 97, 32, 104, 114, 101, 102, 61, 34] ++ httpM true d e p ++ [34, 62] ++ httpM true d e p ++ [60, 47, 97, 62, 32] ++ b)) ⟨#[60, 47, 112, 62, 10]⟩).run Tryz.prog w = .ok (.string (B.bs (paraHTML (httpOut a true d e p b)))) w := fun w => by
    have := addB ([60, 112, 62] ++ a ++ [32, 60, 97, 32, 104, 114, 101, 102, 61, 34] ++ httpM true d e p ++ [34, 62] ++ httpM true d e p ++ [60, 47, 97, 62, 32] ++ b) ([60, 47, 112, 62, 10]) w (by simp only [List.length_append, List.length_cons, List.length_nil]; omega)
    rw [show [60, 112, 62] ++ a ++ [32, 60, 97, 32, 104, 114, 101, 102, 61, 34] ++ httpM true d e p ++ [34, 62] ++ httpM true d e p ++ [60, 47, 97, 62, 32] ++ b ++ [60, 47, 112, 62, 10] = paraHTML (httpOut a true d e p b) by simp [paraHTML, httpOut, aOpen]] at this
    exact this
  have f1 : ∀ w, (Op.stringOp .add ⟨#[60, 112, 62]⟩ (B.bs (httpTxt a true d e p b))).run Tryz.prog w = .ok (.string (B.bs ([60, 112, 62] ++ httpTxt a true d e p b))) w := fun w => addB ([60, 112, 62]) (httpTxt a true d e p b) w (by simp only [List.length_cons, List.length_nil]; omega)
  have f2 : ∀ w, (Op.stringOp .add (B.bs ([60, 112, 62] ++ httpTxt a true d e p b)) ⟨#[60, 47, 112, 62, 10]⟩).run Tryz.prog w = .ok (.string (B.bs (paraHTML (httpTxt a true d e p b)))) w := fun w => by
    have := addB ([60, 112, 62] ++ httpTxt a true d e p b) ([60, 47, 112, 62, 10]) w (by simp only [List.length_append, List.length_cons, List.length_nil]; omega)
    rw [show [60, 112, 62] ++ httpTxt a true d e p b ++ [60, 47, 112, 62, 10] = paraHTML (httpTxt a true d e p b) by simp [paraHTML]] at this
    exact this
  generalize B.bs (paraHTML (httpOut a true d e p b)) = y0 at *
  generalize B.bs (paraHTML (httpTxt a true d e p b)) = y1 at *
  generalize B.bs ([60, 112, 62] ++ a ++ [32, 60, 97, 32, 104, 114, 101, 102, 61, 34] ++ httpM true d e p ++ [34, 62] ++ httpM true d e p ++ [60, 47, 97, 62, 32] ++ b) = y2 at *
  generalize B.bs ([60, 112, 62] ++ a ++ [32, 60, 97, 32, 104, 114, 101, 102, 61, 34] ++ httpM true d e p ++ [34, 62] ++ httpM true d e p ++ [60, 47, 97, 62, 32]) = y3 at *
  generalize B.bs ([60, 112, 62] ++ a ++ [32, 60, 97, 32, 104, 114, 101, 102, 61, 34] ++ httpM true d e p ++ [34, 62] ++ httpM true d e p) = y4 at *
  generalize B.bs ([60, 112, 62] ++ a ++ [32, 60, 97, 32, 104, 114, 101, 102, 61, 34] ++ httpM true d e p ++ [34, 62]) = y5 at *
  generalize B.bs ([60, 112, 62] ++ a ++ [32, 60, 97, 32, 104, 114, 101, 102, 61, 34] ++ httpM true d e p) = y6 at *
  generalize B.bs ([60, 112, 62] ++ a ++ [32, 60, 97, 32, 104, 114, 101, 102, 61, 34]) = y7 at *
  generalize B.bs ([104, 116, 116, 112, 115, 58, 47, 47] ++ d ++ [46] ++ e ++ [47]) = y8 at *
  generalize B.bs ([104, 116, 116, 112, 58, 47, 47] ++ d ++ [46] ++ e ++ [47]) = y9 at *
  generalize B.bs ([104, 116, 116, 112, 115, 58, 47, 47] ++ d ++ [46] ++ e) = y10 at *
  generalize B.bs ([104, 116, 116, 112, 58, 47, 47] ++ d ++ [46] ++ e) = y11 at *
  generalize B.bs ([104, 116, 116, 112, 115, 58, 47, 47] ++ d ++ [46]) = y12 at *
  generalize B.bs ([104, 116, 116, 112, 58, 47, 47] ++ d ++ [46]) = y13 at *
  generalize B.bs ([104, 116, 116, 112, 115, 58, 47, 47] ++ d) = y14 at *
  generalize B.bs ([60, 112, 62] ++ httpTxt a true d e p b) = y15 at *
  generalize B.bs (a ++ [32] ++ httpM true d e p ++ [32]) = y16 at *
  generalize B.bs ([104, 116, 116, 112, 58, 47, 47] ++ d) = y17 at *
  generalize B.bs (a ++ [32] ++ httpM true d e p) = y18 at *
  generalize B.bs (httpTxt a true d e p b) = y19 at *
  generalize B.bs ([60, 112, 62] ++ a) = y20 at *
  generalize B.bs (a ++ [32]) = y21 at *
  generalize B.bs (httpM false d e p) = y22 at *
  generalize B.bs (httpM true d e p) = y23 at *
  clear lM lF lT
  go_enter Tryz.func8, Tryz.ntmps8
  go_wp2_with fail
  refine (HWa.out W).mono ?_
  rintro e1 w1 ⟨rfl, rfl⟩
  go_wp2_with fail
  refine (HWb.out W).mono ?_
  rintro e1 w1 ⟨rfl, rfl⟩
  go_wp2_with fail
  refine (HWd.out W).mono ?_
  rintro e1 w1 ⟨rfl, rfl⟩
  go_wp2_with fail
  refine (HWe.out W).mono ?_
  rintro e1 w1 ⟨rfl, rfl⟩
  go_wp2_with fail
  refine (HWp.out W).mono ?_
  rintro e1 w1 ⟨rfl, rfl⟩
  go_wp2_with fail
  refine (HTMLP_b autoO rfl _ _ W W (Below.refl _ _) HON.out).mono ?_
  rintro e1 w5 ⟨rfl, hb6⟩
  go_wp2_with fail
  refine (HTMLP_b plainO rfl _ _ w5 W hb6 HOFF.out).mono ?_
  rintro e1 w6 ⟨rfl, hb7⟩
  go_wp2
  go_ret
  exact ⟨rfl, hb7⟩

set_option maxRecDepth 100000 in
set_option maxHeartbeats 4000000 in
theorem FnAuto_w (a d e p b : List UInt8) (q : Bool) (W : World) (hla : a.length ≤ 9223372036854775807) (hld : d.length ≤ 9223372036854775807) (hle : e.length ≤ 9223372036854775807) (hlp : p.length ≤ 9223372036854775807) (hlb : b.length ≤ 9223372036854775807) :
    Calls Tryz.prog 8 #[.string (B.bs a), .string (B.bs d), .string (B.bs e), .string (B.bs p), .string (B.bs b), .bool q] W fun e w' => e = .returned (.bool true) ∧ Below W.heap.size W w' := by
  have hza : (B.bs a).size = a.length := rfl
  have hzd : (B.bs d).size = d.length := rfl
  have hze : (B.bs e).size = e.length := rfl
  have hzp : (B.bs p).size = p.length := rfl
  have hzb : (B.bs b).size = b.length := rfl
  by_cases hsa : 2147483647 < a.length
  · go_enter Tryz.func8, Tryz.ntmps8
    go_wp2
    go_ret
    exact ⟨rfl, Below.refl _ _⟩
  by_cases hsd : 2147483647 < d.length
  · go_enter Tryz.func8, Tryz.ntmps8
    go_wp2
    go_ret
    exact ⟨rfl, Below.refl _ _⟩
  by_cases hse : 2147483647 < e.length
  · go_enter Tryz.func8, Tryz.ntmps8
    go_wp2
    go_ret
    exact ⟨rfl, Below.refl _ _⟩
  by_cases hsp : 2147483647 < p.length
  · go_enter Tryz.func8, Tryz.ntmps8
    go_wp2
    go_ret
    exact ⟨rfl, Below.refl _ _⟩
  by_cases hsb : 2147483647 < b.length
  · go_enter Tryz.func8, Tryz.ntmps8
    go_wp2
    go_ret
    exact ⟨rfl, Below.refl _ _⟩
  have HWa := Lib.hid (word_w a W (by omega))
  have HWb := Lib.hid (word_w b W (by omega))
  have HWd := Lib.hid (word_w d W (by omega))
  have HWe := Lib.hid (word_w e W (by omega))
  have HWp := Lib.hid (path_w p W (by omega))
  cases hwa : wordB a
  · rw [hwa] at HWa
    go_enter Tryz.func8, Tryz.ntmps8
    go_wp2_with fail
    refine HWa.out.mono ?_
    rintro e1 w1 ⟨rfl, rfl⟩
    go_wp2
    go_ret
    exact ⟨rfl, Below.refl _ _⟩
  cases hwb : wordB b
  · rw [hwa] at HWa
    rw [hwb] at HWb
    go_enter Tryz.func8, Tryz.ntmps8
    go_wp2_with fail
    refine HWa.out.mono ?_
    rintro e1 w1 ⟨rfl, rfl⟩
    go_wp2_with fail
    refine HWb.out.mono ?_
    rintro e1 w1 ⟨rfl, rfl⟩
    go_wp2
    go_ret
    exact ⟨rfl, Below.refl _ _⟩
  cases hwd : wordB d
  · rw [hwa] at HWa
    rw [hwb] at HWb
    rw [hwd] at HWd
    go_enter Tryz.func8, Tryz.ntmps8
    go_wp2_with fail
    refine HWa.out.mono ?_
    rintro e1 w1 ⟨rfl, rfl⟩
    go_wp2_with fail
    refine HWb.out.mono ?_
    rintro e1 w1 ⟨rfl, rfl⟩
    go_wp2_with fail
    refine HWd.out.mono ?_
    rintro e1 w1 ⟨rfl, rfl⟩
    go_wp2
    go_ret
    exact ⟨rfl, Below.refl _ _⟩
  cases hwe : wordB e
  · rw [hwa] at HWa
    rw [hwb] at HWb
    rw [hwd] at HWd
    rw [hwe] at HWe
    go_enter Tryz.func8, Tryz.ntmps8
    go_wp2_with fail
    refine HWa.out.mono ?_
    rintro e1 w1 ⟨rfl, rfl⟩
    go_wp2_with fail
    refine HWb.out.mono ?_
    rintro e1 w1 ⟨rfl, rfl⟩
    go_wp2_with fail
    refine HWd.out.mono ?_
    rintro e1 w1 ⟨rfl, rfl⟩
    go_wp2_with fail
    refine HWe.out.mono ?_
    rintro e1 w1 ⟨rfl, rfl⟩
    go_wp2
    go_ret
    exact ⟨rfl, Below.refl _ _⟩
  cases hwp : pathB p
  · rw [hwa] at HWa
    rw [hwb] at HWb
    rw [hwd] at HWd
    rw [hwe] at HWe
    rw [hwp] at HWp
    go_enter Tryz.func8, Tryz.ntmps8
    go_wp2_with fail
    refine HWa.out.mono ?_
    rintro e1 w1 ⟨rfl, rfl⟩
    go_wp2_with fail
    refine HWb.out.mono ?_
    rintro e1 w1 ⟨rfl, rfl⟩
    go_wp2_with fail
    refine HWd.out.mono ?_
    rintro e1 w1 ⟨rfl, rfl⟩
    go_wp2_with fail
    refine HWe.out.mono ?_
    rintro e1 w1 ⟨rfl, rfl⟩
    go_wp2_with fail
    refine HWp.out.mono ?_
    rintro e1 w1 ⟨rfl, rfl⟩
    go_wp2
    go_ret
    exact ⟨rfl, Below.refl _ _⟩
  cases q
  · exact auto_false a d e p b W hwa hwb hwd hwe hwp
  · exact auto_true a d e p b W hwa hwb hwd hwe hwp

end Go.Proofs.YtcmpcjffmccllaaGreatDoor

namespace Go.Proofs.YtcmpcjffmccllaaGreatDoor.fnAuto
open Go.ChangeShapes Go.WideShapes Go.ChangeAt Go.RowKit

theorem spec_at {H : Type} {enc : TypeId × Value → H} {W : World} {args : Array Value} {ds : List (DataW H)} {p : List MemPlace}
    (h : DataW.TrodAll enc Tryz.prog W 0 (fun _ => true) true Tryz.f8.params.toList args.toList ds p) : Rows.fnAutoSpec.fn H ds = { results := [.lit (.bool true)], args := ds } := by
  rw [Tryz.params8] at h
  obtain ⟨v0, vs0, d0, ds0, p0, q0, hargs0, rfl, rfl, h0, r0⟩ := trodAll_cons h
  obtain ⟨v1, vs1, d1, ds1, p1, q1, hargs1, rfl, rfl, h1, r1⟩ := trodAll_cons r0
  obtain ⟨v2, vs2, d2, ds2, p2, q2, hargs2, rfl, rfl, h2, r2⟩ := trodAll_cons r1
  obtain ⟨v3, vs3, d3, ds3, p3, q3, hargs3, rfl, rfl, h3, r3⟩ := trodAll_cons r2
  obtain ⟨v4, vs4, d4, ds4, p4, q4, hargs4, rfl, rfl, h4, r4⟩ := trodAll_cons r3
  obtain ⟨v5, vs5, d5, ds5, p5, q5, hargs5, rfl, rfl, h5, r5⟩ := trodAll_cons r4
  obtain ⟨rfl, rfl, rfl⟩ := trodAll_nil r5
  rfl

set_option maxRecDepth 100000 in
theorem contract (H : Type) (enc : TypeId × Value → H) (W : World) (base : Nat) (args : Array Value) (ds gs : List (DataW H)) (before : List MemPlace)
    (hval : ∀ (j : Nat) t v, Tryz.f8.params[j]? = some t → args[j]? = some v → Value.okWide Tryz.prog W .any base t v)
    (hW : DataW.Whole enc Tryz.prog Tryz.f8.params.toList Rows.fnAutoSpec.vars false W args.toList ds gs before) (_hL : laidMetH Tryz.prog Rows.fnAutoRow.laid W) :
    Calls Tryz.prog 8 args W fun e W' => e = .returned (.bool true) ∧ Below W.heap.size W W' := by
  obtain ⟨p, q, hA0, hV, rfl, hfz, hnd⟩ := hW
  have hA : DataW.TrodAll enc Tryz.prog W 0 (fun _ => true) true Tryz.f8.params.toList args.toList ds p := hA0
  rw [Tryz.params8] at hA
  obtain ⟨v0, vs0, d0, ds0, p0, q0, hargs0, rfl, rfl, ⟨n0, h0⟩, r0⟩ := trodAll_cons hA
  obtain ⟨v1, vs1, d1, ds1, p1, q1, hargs1, rfl, rfl, ⟨n1, h1⟩, r1⟩ := trodAll_cons r0
  obtain ⟨v2, vs2, d2, ds2, p2, q2, hargs2, rfl, rfl, ⟨n2, h2⟩, r2⟩ := trodAll_cons r1
  obtain ⟨v3, vs3, d3, ds3, p3, q3, hargs3, rfl, rfl, ⟨n3, h3⟩, r3⟩ := trodAll_cons r2
  obtain ⟨v4, vs4, d4, ds4, p4, q4, hargs4, rfl, rfl, ⟨n4, h4⟩, r4⟩ := trodAll_cons r3
  obtain ⟨v5, vs5, d5, ds5, p5, q5, hargs5, rfl, rfl, ⟨n5, h5⟩, r5⟩ := trodAll_cons r4
  obtain ⟨rfl, rfl, rfl⟩ := trodAll_nil r5
  obtain rfl : args = #[v0, v1, v2, v3, v4, v5] := by cases args; simp_all
  obtain ⟨s0, rfl⟩ := okWide_string Tryz.underlying9 (hval 0 9 v0 rfl rfl)
  obtain ⟨s0', e0, _, hsz0⟩ := DataW.trod_string Tryz.underlying9 h0
  simp [Value.cells] at e0
  subst e0
  obtain ⟨s1, rfl⟩ := okWide_string Tryz.underlying9 (hval 1 9 v1 rfl rfl)
  obtain ⟨s1', e1, _, hsz1⟩ := DataW.trod_string Tryz.underlying9 h1
  simp [Value.cells] at e1
  subst e1
  obtain ⟨s2, rfl⟩ := okWide_string Tryz.underlying9 (hval 2 9 v2 rfl rfl)
  obtain ⟨s2', e2, _, hsz2⟩ := DataW.trod_string Tryz.underlying9 h2
  simp [Value.cells] at e2
  subst e2
  obtain ⟨s3, rfl⟩ := okWide_string Tryz.underlying9 (hval 3 9 v3 rfl rfl)
  obtain ⟨s3', e3, _, hsz3⟩ := DataW.trod_string Tryz.underlying9 h3
  simp [Value.cells] at e3
  subst e3
  obtain ⟨s4, rfl⟩ := okWide_string Tryz.underlying9 (hval 4 9 v4 rfl rfl)
  obtain ⟨s4', e4, _, hsz4⟩ := DataW.trod_string Tryz.underlying9 h4
  simp [Value.cells] at e4
  subst e4
  obtain ⟨sp, rfl⟩ := okWide_bool Tryz.underlying4 (hval 5 4 v5 rfl rfl)
  have hmx : maxLen = 9223372036854775807 := rfl
  have h := FnAuto_w s0.data.toList s1.data.toList s2.data.toList s3.data.toList s4.data.toList sp W (by rw [← B.size_data]; omega) (by rw [← B.size_data]; omega) (by rw [← B.size_data]; omega) (by rw [← B.size_data]; omega) (by rw [← B.size_data]; omega)
  rw [bs_list, bs_list, bs_list, bs_list, bs_list] at h
  exact h
end Go.Proofs.YtcmpcjffmccllaaGreatDoor.fnAuto
