/- The law FnCodePoint: its walk, and its contract over what its arguments read as. MADE BY wip/gen_cp.py -/
import Derived.Test.YtcmpcjffmccllaaGreatDoorCp
import Derived.Test.YtcmpcjffmccllaaGreatDoorRw
namespace Go.Proofs.YtcmpcjffmccllaaGreatDoor
open Go.RowKit Sl

theorem bs_inj {a b : List UInt8} (h : B.bs a = B.bs b) : a = b := by
  have := congrArg (fun x : ByteArray => x.data.toList) h
  simpa [B.bs_data] using this

theorem rune_ex (v : Nat) : ∃ u : List UInt8, (∀ r : Int, (fixRune v : Int) = r → B.bs u = Utf8.encode r) ∧ u.length ≤ 4 := by
  generalize (fixRune v : Int) = q
  obtain ⟨u, hu⟩ := bs_ex (Utf8.encode q)
  refine ⟨u, fun r hr => hr ▸ hu, ?_⟩
  have := encode_size q
  rw [← hu, B.bs_size] at this
  exact this

theorem encode_bad {r : Int} (h : Utf8.valid r = false) : Utf8.encode r = B.bs [239, 191, 189] := by
  unfold Utf8.encode
  rw [h]
  simp only [Bool.false_eq_true, if_false, Utf8.runeError]
  rfl

theorem valid_no {r : Int} (h : (55296 ≤ r ∧ r ≤ 57343)) : Utf8.valid r = false := by
  unfold Utf8.valid
  simp
  omega

theorem encode_65533 : Utf8.encode 65533 = B.bs [239, 191, 189] := by
  unfold Utf8.encode
  rw [show Utf8.valid 65533 = true from by decide]
  rfl

set_option maxRecDepth 100000 in
set_option maxHeartbeats 4000000 in
theorem cp_A0 (n : Nat) (W : World) (hn : n ≤ 9999999) (h1 : 33 ≤ n) (h2 : n ≤ 1114111) (h3 : n < 55296 ∨ 57343 < n) :
    Calls Tryz.prog 3 #[.int .u32 n, .bool false] W fun e w' => e = .returned (.bool true) ∧ Below W.heap.size W w' := by
  obtain ⟨u, hu, hul⟩ := rune_ex n
  have hue : Utf8.encode (n : Int) = B.bs u := (hu _ (fix_ok (by omega) (by omega))).symm
  have HPP := Lib.hid (RefOk.prints (decRef_ok (n := n) (by omega)) hu hul (Sl.old W))
  have hlr := (decRef_ok (n := n) (by omega)).len
  have HD1 := Lib.hid (fun w hs => digits_w 10 (.inl rfl) 6 n w (Sl.old W) (by decide) (by omega) (by omega) hs)
  have HD2 := Lib.hid (fun w hs => digits_w 16 (.inr rfl) 5 n w (Sl.old W) (by decide) (by omega) (by omega) hs)
  have hl10 := (digsF_len 10 6 n).2
  have hl16 := (digsF_len 16 5 n).2
  have hel := html_esc_len u
  have HE := Lib.hid (fun w => EscapeHTML_w u w (by omega))
  have a1 : ∀ w, (Op.stringOp .add ⟨#[38, 35]⟩ (B.bs (digsF 10 6 n))).run Tryz.prog w = .ok (.string (B.bs ([38, 35] ++ digsF 10 6 n))) w := fun w => addB [38, 35] _ w (by simp; omega)
  have a2 : ∀ w, (Op.stringOp .add (B.bs ([38, 35] ++ digsF 10 6 n)) ⟨#[59]⟩).run Tryz.prog w = .ok (.string (B.bs (decRef n))) w := fun w => by
    have := addB ([38, 35] ++ digsF 10 6 n) [59] w (by simp; omega)
    rw [show [38, 35] ++ digsF 10 6 n ++ [59] = decRef n by simp [decRef]] at this
    exact this
  have b1 : ∀ w, (Op.stringOp .add ⟨#[38, 35, 120]⟩ (B.bs (digsF 16 5 n))).run Tryz.prog w = .ok (.string (B.bs ([38, 35, 120] ++ digsF 16 5 n))) w := fun w => addB [38, 35, 120] _ w (by simp; omega)
  have b2 : ∀ w, (Op.stringOp .add (B.bs ([38, 35, 120] ++ digsF 16 5 n)) ⟨#[59]⟩).run Tryz.prog w = .ok (.string (B.bs (hexRef n))) w := fun w => by
    have := addB ([38, 35, 120] ++ digsF 16 5 n) [59] w (by simp; omega)
    rw [show [38, 35, 120] ++ digsF 16 5 n ++ [59] = hexRef n by simp [hexRef]] at this
    exact this
  have c1 : ∀ w, (Op.stringOp .add ⟨#[120]⟩ (B.bs (decRef n))).run Tryz.prog w = .ok (.string (B.bs ([120] ++ decRef n))) w := fun w => addB [120] _ w (by simp; omega)
  have c2 : ∀ w, (Op.stringOp .add (B.bs ([120] ++ decRef n)) ⟨#[120]⟩).run Tryz.prog w = .ok (.string (B.bs (cpTxt (decRef n)))) w := fun w => by
    have := addB ([120] ++ decRef n) [120] w (by simp; omega)
    rw [show [120] ++ decRef n ++ [120] = cpTxt (decRef n) by simp [cpTxt]] at this
    exact this
  have e1 : ∀ w, (Op.stringOp .add ⟨#[60, 112, 62, 120]⟩ (B.bs (htmlPairs.esc u))).run Tryz.prog w = .ok (.string (B.bs ([60, 112, 62, 120] ++ htmlPairs.esc u))) w := fun w => addB [60, 112, 62, 120] _ w (by simp; omega)
  have e2 : ∀ w, (Op.stringOp .add (B.bs ([60, 112, 62, 120] ++ htmlPairs.esc u)) ⟨#[120, 60, 47, 112, 62, 10]⟩).run Tryz.prog w = .ok (.string (B.bs (paraHTML (120 :: (htmlPairs.esc u ++ [120]))))) w := fun w => by
    have := addB ([60, 112, 62, 120] ++ htmlPairs.esc u) [120, 60, 47, 112, 62, 10] w (by simp; omega)
    rw [show [60, 112, 62, 120] ++ htmlPairs.esc u ++ [120, 60, 47, 112, 62, 10] = paraHTML (120 :: (htmlPairs.esc u ++ [120])) by simp [paraHTML]] at this
    exact this
  generalize B.bs (paraHTML (120 :: (htmlPairs.esc u ++ [120]))) = out at *
  generalize B.bs ([60, 112, 62, 120] ++ htmlPairs.esc u) = z1 at *
  generalize B.bs (htmlPairs.esc u) = z0 at *
  generalize B.bs (cpTxt (decRef n)) = T at *
  generalize B.bs ([120] ++ decRef n) = y1 at *
  generalize B.bs (hexRef n) = h9 at *
  generalize B.bs (decRef n) = d9 at *
  generalize B.bs ([38, 35, 120] ++ digsF 16 5 n) = h8 at *
  generalize B.bs ([38, 35] ++ digsF 10 6 n) = d8 at *
  generalize B.bs (digsF 16 5 n) = h7 at *
  generalize B.bs (digsF 10 6 n) = d7 at *
  clear hlr hl10 hl16 hel hu hul
  have g1 : decide ((9999999 : Int) < (n : Int)) = false := by simp; omega
  have g2 : 0 < n := by omega
  have g3 : decide ((n : Int) < 33) = false := by simp; omega
  have g4 : decide ((16777215 : Int) < (n : Int)) = false := by simp; omega
  have g5 : wrap64 (n : Int) = (n : Int) := wrap64_small (by omega) (by omega)
  have k1 : decide ((n : Int) ≤ 1114111) = true := by simp; omega
  have k4 : IntKind.i32.wrap (n : Int) = (n : Int) := wrap_i32 (by omega) (by omega)
  rcases h3 with h3 | h3
  · have k2 : decide ((n : Int) < 55296) = true := by simp; omega
    clear hn h1 h2 h3
    go_enter Tryz.func3, Tryz.ntmps3
    go_wp2_with fail
    refine (HE.out W).mono ?_
    rintro e w1 ⟨rfl, rfl⟩
    go_wp2_with fail
    refine (HD1.out W (Sat.old W)).mono ?_
    rintro e w2 ⟨rfl, hs2⟩
    have hb2 : Below W.heap.size W w2 := Sat.below (P := Sl.emp) (hs2.cast (emp_star _).symm)
    go_wp2_with fail
    refine (HTMLP_b plainO rfl _ _ w2 W hb2 HPP.out).mono ?_
    rintro e w5 ⟨rfl, hb5⟩
    go_wp2
    go_ret
    exact ⟨rfl, hb5⟩
  · have k2 : decide ((n : Int) < 55296) = false := by simp; omega
    have k3 : decide ((57343 : Int) < (n : Int)) = true := by simp; omega
    clear hn h1 h2 h3
    go_enter Tryz.func3, Tryz.ntmps3
    go_wp2_with fail
    refine (HE.out W).mono ?_
    rintro e w1 ⟨rfl, rfl⟩
    go_wp2_with fail
    refine (HD1.out W (Sat.old W)).mono ?_
    rintro e w2 ⟨rfl, hs2⟩
    have hb2 : Below W.heap.size W w2 := Sat.below (P := Sl.emp) (hs2.cast (emp_star _).symm)
    go_wp2_with fail
    refine (HTMLP_b plainO rfl _ _ w2 W hb2 HPP.out).mono ?_
    rintro e w5 ⟨rfl, hb5⟩
    go_wp2
    go_ret
    exact ⟨rfl, hb5⟩

set_option maxRecDepth 100000 in
set_option maxHeartbeats 4000000 in
theorem cp_A1 (n : Nat) (W : World) (hn : n ≤ 9999999) (h1 : 33 ≤ n) (h2 : n ≤ 1114111) (h3 : n < 55296 ∨ 57343 < n) :
    Calls Tryz.prog 3 #[.int .u32 n, .bool true] W fun e w' => e = .returned (.bool true) ∧ Below W.heap.size W w' := by
  obtain ⟨u, hu, hul⟩ := rune_ex n
  have hue : Utf8.encode (n : Int) = B.bs u := (hu _ (fix_ok (by omega) (by omega))).symm
  have HPP := Lib.hid (RefOk.prints (hexRef_ok (n := n) (by omega)) hu hul (Sl.old W))
  have hlr := (hexRef_ok (n := n) (by omega)).len
  have HD1 := Lib.hid (fun w hs => digits_w 10 (.inl rfl) 6 n w (Sl.old W) (by decide) (by omega) (by omega) hs)
  have HD2 := Lib.hid (fun w hs => digits_w 16 (.inr rfl) 5 n w (Sl.old W) (by decide) (by omega) (by omega) hs)
  have hl10 := (digsF_len 10 6 n).2
  have hl16 := (digsF_len 16 5 n).2
  have hel := html_esc_len u
  have HE := Lib.hid (fun w => EscapeHTML_w u w (by omega))
  have a1 : ∀ w, (Op.stringOp .add ⟨#[38, 35]⟩ (B.bs (digsF 10 6 n))).run Tryz.prog w = .ok (.string (B.bs ([38, 35] ++ digsF 10 6 n))) w := fun w => addB [38, 35] _ w (by simp; omega)
  have a2 : ∀ w, (Op.stringOp .add (B.bs ([38, 35] ++ digsF 10 6 n)) ⟨#[59]⟩).run Tryz.prog w = .ok (.string (B.bs (decRef n))) w := fun w => by
    have := addB ([38, 35] ++ digsF 10 6 n) [59] w (by simp; omega)
    rw [show [38, 35] ++ digsF 10 6 n ++ [59] = decRef n by simp [decRef]] at this
    exact this
  have b1 : ∀ w, (Op.stringOp .add ⟨#[38, 35, 120]⟩ (B.bs (digsF 16 5 n))).run Tryz.prog w = .ok (.string (B.bs ([38, 35, 120] ++ digsF 16 5 n))) w := fun w => addB [38, 35, 120] _ w (by simp; omega)
  have b2 : ∀ w, (Op.stringOp .add (B.bs ([38, 35, 120] ++ digsF 16 5 n)) ⟨#[59]⟩).run Tryz.prog w = .ok (.string (B.bs (hexRef n))) w := fun w => by
    have := addB ([38, 35, 120] ++ digsF 16 5 n) [59] w (by simp; omega)
    rw [show [38, 35, 120] ++ digsF 16 5 n ++ [59] = hexRef n by simp [hexRef]] at this
    exact this
  have c1 : ∀ w, (Op.stringOp .add ⟨#[120]⟩ (B.bs (hexRef n))).run Tryz.prog w = .ok (.string (B.bs ([120] ++ hexRef n))) w := fun w => addB [120] _ w (by simp; omega)
  have c2 : ∀ w, (Op.stringOp .add (B.bs ([120] ++ hexRef n)) ⟨#[120]⟩).run Tryz.prog w = .ok (.string (B.bs (cpTxt (hexRef n)))) w := fun w => by
    have := addB ([120] ++ hexRef n) [120] w (by simp; omega)
    rw [show [120] ++ hexRef n ++ [120] = cpTxt (hexRef n) by simp [cpTxt]] at this
    exact this
  have e1 : ∀ w, (Op.stringOp .add ⟨#[60, 112, 62, 120]⟩ (B.bs (htmlPairs.esc u))).run Tryz.prog w = .ok (.string (B.bs ([60, 112, 62, 120] ++ htmlPairs.esc u))) w := fun w => addB [60, 112, 62, 120] _ w (by simp; omega)
  have e2 : ∀ w, (Op.stringOp .add (B.bs ([60, 112, 62, 120] ++ htmlPairs.esc u)) ⟨#[120, 60, 47, 112, 62, 10]⟩).run Tryz.prog w = .ok (.string (B.bs (paraHTML (120 :: (htmlPairs.esc u ++ [120]))))) w := fun w => by
    have := addB ([60, 112, 62, 120] ++ htmlPairs.esc u) [120, 60, 47, 112, 62, 10] w (by simp; omega)
    rw [show [60, 112, 62, 120] ++ htmlPairs.esc u ++ [120, 60, 47, 112, 62, 10] = paraHTML (120 :: (htmlPairs.esc u ++ [120])) by simp [paraHTML]] at this
    exact this
  generalize B.bs (paraHTML (120 :: (htmlPairs.esc u ++ [120]))) = out at *
  generalize B.bs ([60, 112, 62, 120] ++ htmlPairs.esc u) = z1 at *
  generalize B.bs (htmlPairs.esc u) = z0 at *
  generalize B.bs (cpTxt (hexRef n)) = T at *
  generalize B.bs ([120] ++ hexRef n) = y1 at *
  generalize B.bs (hexRef n) = h9 at *
  generalize B.bs (decRef n) = d9 at *
  generalize B.bs ([38, 35, 120] ++ digsF 16 5 n) = h8 at *
  generalize B.bs ([38, 35] ++ digsF 10 6 n) = d8 at *
  generalize B.bs (digsF 16 5 n) = h7 at *
  generalize B.bs (digsF 10 6 n) = d7 at *
  clear hlr hl10 hl16 hel hu hul
  have g1 : decide ((9999999 : Int) < (n : Int)) = false := by simp; omega
  have g2 : 0 < n := by omega
  have g3 : decide ((n : Int) < 33) = false := by simp; omega
  have g4 : decide ((16777215 : Int) < (n : Int)) = false := by simp; omega
  have g5 : wrap64 (n : Int) = (n : Int) := wrap64_small (by omega) (by omega)
  have k1 : decide ((n : Int) ≤ 1114111) = true := by simp; omega
  have k4 : IntKind.i32.wrap (n : Int) = (n : Int) := wrap_i32 (by omega) (by omega)
  rcases h3 with h3 | h3
  · have k2 : decide ((n : Int) < 55296) = true := by simp; omega
    clear hn h1 h2 h3
    go_enter Tryz.func3, Tryz.ntmps3
    go_wp2_with fail
    refine (HE.out W).mono ?_
    rintro e w1 ⟨rfl, rfl⟩
    go_wp2_with fail
    refine (HD1.out W (Sat.old W)).mono ?_
    rintro e w2 ⟨rfl, hs2⟩
    have hb2 : Below W.heap.size W w2 := Sat.below (P := Sl.emp) (hs2.cast (emp_star _).symm)
    clear hb2
    go_wp2_with fail
    refine (HD2.out w2 hs2).mono ?_
    rintro e w3 ⟨rfl, hs3⟩
    have hb2 : Below W.heap.size W w3 := Sat.below (P := Sl.emp) (hs3.cast (emp_star _).symm)
    clear hs2
    go_wp2_with fail
    refine (HTMLP_b plainO rfl _ _ w3 W hb2 HPP.out).mono ?_
    rintro e w5 ⟨rfl, hb5⟩
    go_wp2
    go_ret
    exact ⟨rfl, hb5⟩
  · have k2 : decide ((n : Int) < 55296) = false := by simp; omega
    have k3 : decide ((57343 : Int) < (n : Int)) = true := by simp; omega
    clear hn h1 h2 h3
    go_enter Tryz.func3, Tryz.ntmps3
    go_wp2_with fail
    refine (HE.out W).mono ?_
    rintro e w1 ⟨rfl, rfl⟩
    go_wp2_with fail
    refine (HD1.out W (Sat.old W)).mono ?_
    rintro e w2 ⟨rfl, hs2⟩
    have hb2 : Below W.heap.size W w2 := Sat.below (P := Sl.emp) (hs2.cast (emp_star _).symm)
    clear hb2
    go_wp2_with fail
    refine (HD2.out w2 hs2).mono ?_
    rintro e w3 ⟨rfl, hs3⟩
    have hb2 : Below W.heap.size W w3 := Sat.below (P := Sl.emp) (hs3.cast (emp_star _).symm)
    clear hs2
    go_wp2_with fail
    refine (HTMLP_b plainO rfl _ _ w3 W hb2 HPP.out).mono ?_
    rintro e w5 ⟨rfl, hb5⟩
    go_wp2
    go_ret
    exact ⟨rfl, hb5⟩

set_option maxRecDepth 100000 in
set_option maxHeartbeats 4000000 in
theorem cp_B0 (n : Nat) (W : World) (hn : n ≤ 9999999) (h0 : n = 0) :
    Calls Tryz.prog 3 #[.int .u32 n, .bool false] W fun e w' => e = .returned (.bool true) ∧ Below W.heap.size W w' := by
  obtain ⟨u, hu, hul⟩ := rune_ex n
  subst h0
  have hu2 : u = [239, 191, 189] := bs_inj ((hu _ fix_zero).trans encode_65533)
  have HPP := Lib.hid (RefOk.prints (decRef_ok (n := 0) (by omega)) hu hul (Sl.old W))
  have hlr := (decRef_ok (n := 0) (by omega)).len
  have HD1 := Lib.hid (fun w hs => digits_w 10 (.inl rfl) 6 0 w (Sl.old W) (by decide) (by omega) (by omega) hs)
  have HD2 := Lib.hid (fun w hs => digits_w 16 (.inr rfl) 5 0 w (Sl.old W) (by decide) (by omega) (by omega) hs)
  have hl10 := (digsF_len 10 6 0).2
  have hl16 := (digsF_len 16 5 0).2
  have hel := html_esc_len u
  have hesc : htmlPairs.esc u = [239, 191, 189] := by rw [hu2]; rfl
  have a1 : ∀ w, (Op.stringOp .add ⟨#[38, 35]⟩ (B.bs (digsF 10 6 0))).run Tryz.prog w = .ok (.string (B.bs ([38, 35] ++ digsF 10 6 0))) w := fun w => addB [38, 35] _ w (by simp; omega)
  have a2 : ∀ w, (Op.stringOp .add (B.bs ([38, 35] ++ digsF 10 6 0)) ⟨#[59]⟩).run Tryz.prog w = .ok (.string (B.bs (decRef 0))) w := fun w => by
    have := addB ([38, 35] ++ digsF 10 6 0) [59] w (by simp; omega)
    rw [show [38, 35] ++ digsF 10 6 0 ++ [59] = decRef 0 by simp [decRef]] at this
    exact this
  have b1 : ∀ w, (Op.stringOp .add ⟨#[38, 35, 120]⟩ (B.bs (digsF 16 5 0))).run Tryz.prog w = .ok (.string (B.bs ([38, 35, 120] ++ digsF 16 5 0))) w := fun w => addB [38, 35, 120] _ w (by simp; omega)
  have b2 : ∀ w, (Op.stringOp .add (B.bs ([38, 35, 120] ++ digsF 16 5 0)) ⟨#[59]⟩).run Tryz.prog w = .ok (.string (B.bs (hexRef 0))) w := fun w => by
    have := addB ([38, 35, 120] ++ digsF 16 5 0) [59] w (by simp; omega)
    rw [show [38, 35, 120] ++ digsF 16 5 0 ++ [59] = hexRef 0 by simp [hexRef]] at this
    exact this
  have c1 : ∀ w, (Op.stringOp .add ⟨#[120]⟩ (B.bs (decRef 0))).run Tryz.prog w = .ok (.string (B.bs ([120] ++ decRef 0))) w := fun w => addB [120] _ w (by simp; omega)
  have c2 : ∀ w, (Op.stringOp .add (B.bs ([120] ++ decRef 0)) ⟨#[120]⟩).run Tryz.prog w = .ok (.string (B.bs (cpTxt (decRef 0)))) w := fun w => by
    have := addB ([120] ++ decRef 0) [120] w (by simp; omega)
    rw [show [120] ++ decRef 0 ++ [120] = cpTxt (decRef 0) by simp [cpTxt]] at this
    exact this
  have e1 : ∀ w, (Op.stringOp .add ⟨#[60, 112, 62, 120]⟩ (B.bs (htmlPairs.esc u))).run Tryz.prog w = .ok (.string (B.bs ([60, 112, 62, 120] ++ htmlPairs.esc u))) w := fun w => addB [60, 112, 62, 120] _ w (by simp; omega)
  have e2 : ∀ w, (Op.stringOp .add (B.bs ([60, 112, 62, 120] ++ htmlPairs.esc u)) ⟨#[120, 60, 47, 112, 62, 10]⟩).run Tryz.prog w = .ok (.string (B.bs (paraHTML (120 :: (htmlPairs.esc u ++ [120]))))) w := fun w => by
    have := addB ([60, 112, 62, 120] ++ htmlPairs.esc u) [120, 60, 47, 112, 62, 10] w (by simp; omega)
    rw [show [60, 112, 62, 120] ++ htmlPairs.esc u ++ [120, 60, 47, 112, 62, 10] = paraHTML (120 :: (htmlPairs.esc u ++ [120])) by simp [paraHTML]] at this
    exact this
  rw [hesc] at e1 e2 HPP
  have e1' : ∀ w, (Op.stringOp .add ⟨#[60, 112, 62, 120]⟩ ⟨#[239, 191, 189]⟩).run Tryz.prog w = .ok (.string (B.bs ([60, 112, 62, 120] ++ [239, 191, 189]))) w := e1
  clear e1 hesc hu2
  generalize B.bs (paraHTML (120 :: ([239, 191, 189] ++ [120]))) = out at *
  generalize B.bs ([60, 112, 62, 120] ++ [239, 191, 189]) = z1 at *
  generalize B.bs (cpTxt (decRef 0)) = T at *
  generalize B.bs ([120] ++ decRef 0) = y1 at *
  generalize B.bs (hexRef 0) = h9 at *
  generalize B.bs (decRef 0) = d9 at *
  generalize B.bs ([38, 35, 120] ++ digsF 16 5 0) = h8 at *
  generalize B.bs ([38, 35] ++ digsF 10 6 0) = d8 at *
  generalize B.bs (digsF 16 5 0) = h7 at *
  generalize B.bs (digsF 10 6 0) = d7 at *
  clear hlr hl10 hl16 hel hu hul
  go_enter Tryz.func3, Tryz.ntmps3
  go_wp2_with fail
  refine (HD1.out W (Sat.old W)).mono ?_
  rintro e w2 ⟨rfl, hs2⟩
  have hb2 : Below W.heap.size W w2 := Sat.below (P := Sl.emp) (hs2.cast (emp_star _).symm)
  go_wp2_with fail
  refine (HTMLP_b plainO rfl _ _ w2 W hb2 HPP.out).mono ?_
  rintro e w5 ⟨rfl, hb5⟩
  go_wp2
  go_ret
  exact ⟨rfl, hb5⟩

set_option maxRecDepth 100000 in
set_option maxHeartbeats 4000000 in
theorem cp_B1 (n : Nat) (W : World) (hn : n ≤ 9999999) (h0 : n = 0) :
    Calls Tryz.prog 3 #[.int .u32 n, .bool true] W fun e w' => e = .returned (.bool true) ∧ Below W.heap.size W w' := by
  obtain ⟨u, hu, hul⟩ := rune_ex n
  subst h0
  have hu2 : u = [239, 191, 189] := bs_inj ((hu _ fix_zero).trans encode_65533)
  have HPP := Lib.hid (RefOk.prints (hexRef_ok (n := 0) (by omega)) hu hul (Sl.old W))
  have hlr := (hexRef_ok (n := 0) (by omega)).len
  have HD1 := Lib.hid (fun w hs => digits_w 10 (.inl rfl) 6 0 w (Sl.old W) (by decide) (by omega) (by omega) hs)
  have HD2 := Lib.hid (fun w hs => digits_w 16 (.inr rfl) 5 0 w (Sl.old W) (by decide) (by omega) (by omega) hs)
  have hl10 := (digsF_len 10 6 0).2
  have hl16 := (digsF_len 16 5 0).2
  have hel := html_esc_len u
  have hesc : htmlPairs.esc u = [239, 191, 189] := by rw [hu2]; rfl
  have a1 : ∀ w, (Op.stringOp .add ⟨#[38, 35]⟩ (B.bs (digsF 10 6 0))).run Tryz.prog w = .ok (.string (B.bs ([38, 35] ++ digsF 10 6 0))) w := fun w => addB [38, 35] _ w (by simp; omega)
  have a2 : ∀ w, (Op.stringOp .add (B.bs ([38, 35] ++ digsF 10 6 0)) ⟨#[59]⟩).run Tryz.prog w = .ok (.string (B.bs (decRef 0))) w := fun w => by
    have := addB ([38, 35] ++ digsF 10 6 0) [59] w (by simp; omega)
    rw [show [38, 35] ++ digsF 10 6 0 ++ [59] = decRef 0 by simp [decRef]] at this
    exact this
  have b1 : ∀ w, (Op.stringOp .add ⟨#[38, 35, 120]⟩ (B.bs (digsF 16 5 0))).run Tryz.prog w = .ok (.string (B.bs ([38, 35, 120] ++ digsF 16 5 0))) w := fun w => addB [38, 35, 120] _ w (by simp; omega)
  have b2 : ∀ w, (Op.stringOp .add (B.bs ([38, 35, 120] ++ digsF 16 5 0)) ⟨#[59]⟩).run Tryz.prog w = .ok (.string (B.bs (hexRef 0))) w := fun w => by
    have := addB ([38, 35, 120] ++ digsF 16 5 0) [59] w (by simp; omega)
    rw [show [38, 35, 120] ++ digsF 16 5 0 ++ [59] = hexRef 0 by simp [hexRef]] at this
    exact this
  have c1 : ∀ w, (Op.stringOp .add ⟨#[120]⟩ (B.bs (hexRef 0))).run Tryz.prog w = .ok (.string (B.bs ([120] ++ hexRef 0))) w := fun w => addB [120] _ w (by simp; omega)
  have c2 : ∀ w, (Op.stringOp .add (B.bs ([120] ++ hexRef 0)) ⟨#[120]⟩).run Tryz.prog w = .ok (.string (B.bs (cpTxt (hexRef 0)))) w := fun w => by
    have := addB ([120] ++ hexRef 0) [120] w (by simp; omega)
    rw [show [120] ++ hexRef 0 ++ [120] = cpTxt (hexRef 0) by simp [cpTxt]] at this
    exact this
  have e1 : ∀ w, (Op.stringOp .add ⟨#[60, 112, 62, 120]⟩ (B.bs (htmlPairs.esc u))).run Tryz.prog w = .ok (.string (B.bs ([60, 112, 62, 120] ++ htmlPairs.esc u))) w := fun w => addB [60, 112, 62, 120] _ w (by simp; omega)
  have e2 : ∀ w, (Op.stringOp .add (B.bs ([60, 112, 62, 120] ++ htmlPairs.esc u)) ⟨#[120, 60, 47, 112, 62, 10]⟩).run Tryz.prog w = .ok (.string (B.bs (paraHTML (120 :: (htmlPairs.esc u ++ [120]))))) w := fun w => by
    have := addB ([60, 112, 62, 120] ++ htmlPairs.esc u) [120, 60, 47, 112, 62, 10] w (by simp; omega)
    rw [show [60, 112, 62, 120] ++ htmlPairs.esc u ++ [120, 60, 47, 112, 62, 10] = paraHTML (120 :: (htmlPairs.esc u ++ [120])) by simp [paraHTML]] at this
    exact this
  rw [hesc] at e1 e2 HPP
  have e1' : ∀ w, (Op.stringOp .add ⟨#[60, 112, 62, 120]⟩ ⟨#[239, 191, 189]⟩).run Tryz.prog w = .ok (.string (B.bs ([60, 112, 62, 120] ++ [239, 191, 189]))) w := e1
  clear e1 hesc hu2
  generalize B.bs (paraHTML (120 :: ([239, 191, 189] ++ [120]))) = out at *
  generalize B.bs ([60, 112, 62, 120] ++ [239, 191, 189]) = z1 at *
  generalize B.bs (cpTxt (hexRef 0)) = T at *
  generalize B.bs ([120] ++ hexRef 0) = y1 at *
  generalize B.bs (hexRef 0) = h9 at *
  generalize B.bs (decRef 0) = d9 at *
  generalize B.bs ([38, 35, 120] ++ digsF 16 5 0) = h8 at *
  generalize B.bs ([38, 35] ++ digsF 10 6 0) = d8 at *
  generalize B.bs (digsF 16 5 0) = h7 at *
  generalize B.bs (digsF 10 6 0) = d7 at *
  clear hlr hl10 hl16 hel hu hul
  go_enter Tryz.func3, Tryz.ntmps3
  go_wp2_with fail
  refine (HD1.out W (Sat.old W)).mono ?_
  rintro e w2 ⟨rfl, hs2⟩
  have hb2 : Below W.heap.size W w2 := Sat.below (P := Sl.emp) (hs2.cast (emp_star _).symm)
  clear hb2
  go_wp2_with fail
  refine (HD2.out w2 hs2).mono ?_
  rintro e w3 ⟨rfl, hs3⟩
  have hb2 : Below W.heap.size W w3 := Sat.below (P := Sl.emp) (hs3.cast (emp_star _).symm)
  clear hs2
  go_wp2_with fail
  refine (HTMLP_b plainO rfl _ _ w3 W hb2 HPP.out).mono ?_
  rintro e w5 ⟨rfl, hb5⟩
  go_wp2
  go_ret
  exact ⟨rfl, hb5⟩

set_option maxRecDepth 100000 in
set_option maxHeartbeats 4000000 in
theorem cp_C0 (n : Nat) (W : World) (hn : n ≤ 9999999) (h1 : 1114111 < n) :
    Calls Tryz.prog 3 #[.int .u32 n, .bool false] W fun e w' => e = .returned (.bool true) ∧ Below W.heap.size W w' := by
  obtain ⟨u, hu, hul⟩ := rune_ex n
  have hu2 : u = [239, 191, 189] := bs_inj ((hu _ (fix_big h1)).trans encode_65533)
  have HPP := Lib.hid (RefOk.prints (decRef_ok (n := n) (by omega)) hu hul (Sl.old W))
  have hlr := (decRef_ok (n := n) (by omega)).len
  have HD1 := Lib.hid (fun w hs => digits_w 10 (.inl rfl) 6 n w (Sl.old W) (by decide) (by omega) (by omega) hs)
  have HD2 := Lib.hid (fun w hs => digits_w 16 (.inr rfl) 5 n w (Sl.old W) (by decide) (by omega) (by omega) hs)
  have hl10 := (digsF_len 10 6 n).2
  have hl16 := (digsF_len 16 5 n).2
  have hel := html_esc_len u
  have hesc : htmlPairs.esc u = [239, 191, 189] := by rw [hu2]; rfl
  have a1 : ∀ w, (Op.stringOp .add ⟨#[38, 35]⟩ (B.bs (digsF 10 6 n))).run Tryz.prog w = .ok (.string (B.bs ([38, 35] ++ digsF 10 6 n))) w := fun w => addB [38, 35] _ w (by simp; omega)
  have a2 : ∀ w, (Op.stringOp .add (B.bs ([38, 35] ++ digsF 10 6 n)) ⟨#[59]⟩).run Tryz.prog w = .ok (.string (B.bs (decRef n))) w := fun w => by
    have := addB ([38, 35] ++ digsF 10 6 n) [59] w (by simp; omega)
    rw [show [38, 35] ++ digsF 10 6 n ++ [59] = decRef n by simp [decRef]] at this
    exact this
  have b1 : ∀ w, (Op.stringOp .add ⟨#[38, 35, 120]⟩ (B.bs (digsF 16 5 n))).run Tryz.prog w = .ok (.string (B.bs ([38, 35, 120] ++ digsF 16 5 n))) w := fun w => addB [38, 35, 120] _ w (by simp; omega)
  have b2 : ∀ w, (Op.stringOp .add (B.bs ([38, 35, 120] ++ digsF 16 5 n)) ⟨#[59]⟩).run Tryz.prog w = .ok (.string (B.bs (hexRef n))) w := fun w => by
    have := addB ([38, 35, 120] ++ digsF 16 5 n) [59] w (by simp; omega)
    rw [show [38, 35, 120] ++ digsF 16 5 n ++ [59] = hexRef n by simp [hexRef]] at this
    exact this
  have c1 : ∀ w, (Op.stringOp .add ⟨#[120]⟩ (B.bs (decRef n))).run Tryz.prog w = .ok (.string (B.bs ([120] ++ decRef n))) w := fun w => addB [120] _ w (by simp; omega)
  have c2 : ∀ w, (Op.stringOp .add (B.bs ([120] ++ decRef n)) ⟨#[120]⟩).run Tryz.prog w = .ok (.string (B.bs (cpTxt (decRef n)))) w := fun w => by
    have := addB ([120] ++ decRef n) [120] w (by simp; omega)
    rw [show [120] ++ decRef n ++ [120] = cpTxt (decRef n) by simp [cpTxt]] at this
    exact this
  have e1 : ∀ w, (Op.stringOp .add ⟨#[60, 112, 62, 120]⟩ (B.bs (htmlPairs.esc u))).run Tryz.prog w = .ok (.string (B.bs ([60, 112, 62, 120] ++ htmlPairs.esc u))) w := fun w => addB [60, 112, 62, 120] _ w (by simp; omega)
  have e2 : ∀ w, (Op.stringOp .add (B.bs ([60, 112, 62, 120] ++ htmlPairs.esc u)) ⟨#[120, 60, 47, 112, 62, 10]⟩).run Tryz.prog w = .ok (.string (B.bs (paraHTML (120 :: (htmlPairs.esc u ++ [120]))))) w := fun w => by
    have := addB ([60, 112, 62, 120] ++ htmlPairs.esc u) [120, 60, 47, 112, 62, 10] w (by simp; omega)
    rw [show [60, 112, 62, 120] ++ htmlPairs.esc u ++ [120, 60, 47, 112, 62, 10] = paraHTML (120 :: (htmlPairs.esc u ++ [120])) by simp [paraHTML]] at this
    exact this
  rw [hesc] at e1 e2 HPP
  have e1' : ∀ w, (Op.stringOp .add ⟨#[60, 112, 62, 120]⟩ ⟨#[239, 191, 189]⟩).run Tryz.prog w = .ok (.string (B.bs ([60, 112, 62, 120] ++ [239, 191, 189]))) w := e1
  clear e1 hesc hu2
  generalize B.bs (paraHTML (120 :: ([239, 191, 189] ++ [120]))) = out at *
  generalize B.bs ([60, 112, 62, 120] ++ [239, 191, 189]) = z1 at *
  generalize B.bs (cpTxt (decRef n)) = T at *
  generalize B.bs ([120] ++ decRef n) = y1 at *
  generalize B.bs (hexRef n) = h9 at *
  generalize B.bs (decRef n) = d9 at *
  generalize B.bs ([38, 35, 120] ++ digsF 16 5 n) = h8 at *
  generalize B.bs ([38, 35] ++ digsF 10 6 n) = d8 at *
  generalize B.bs (digsF 16 5 n) = h7 at *
  generalize B.bs (digsF 10 6 n) = d7 at *
  clear hlr hl10 hl16 hel hu hul
  have g1 : decide ((9999999 : Int) < (n : Int)) = false := by simp; omega
  have g2 : 0 < n := by omega
  have g3 : decide ((n : Int) < 33) = false := by simp; omega
  have g4 : decide ((16777215 : Int) < (n : Int)) = false := by simp; omega
  have g5 : wrap64 (n : Int) = (n : Int) := wrap64_small (by omega) (by omega)
  have k1 : decide ((n : Int) ≤ 1114111) = false := by simp; omega
  clear hn h1
  go_enter Tryz.func3, Tryz.ntmps3
  go_wp2_with fail
  refine (HD1.out W (Sat.old W)).mono ?_
  rintro e w2 ⟨rfl, hs2⟩
  have hb2 : Below W.heap.size W w2 := Sat.below (P := Sl.emp) (hs2.cast (emp_star _).symm)
  go_wp2_with fail
  refine (HTMLP_b plainO rfl _ _ w2 W hb2 HPP.out).mono ?_
  rintro e w5 ⟨rfl, hb5⟩
  go_wp2
  go_ret
  exact ⟨rfl, hb5⟩

set_option maxRecDepth 100000 in
set_option maxHeartbeats 4000000 in
theorem cp_C1 (n : Nat) (W : World) (hn : n ≤ 9999999) (h1 : 1114111 < n) :
    Calls Tryz.prog 3 #[.int .u32 n, .bool true] W fun e w' => e = .returned (.bool true) ∧ Below W.heap.size W w' := by
  obtain ⟨u, hu, hul⟩ := rune_ex n
  have hu2 : u = [239, 191, 189] := bs_inj ((hu _ (fix_big h1)).trans encode_65533)
  have HPP := Lib.hid (RefOk.prints (hexRef_ok (n := n) (by omega)) hu hul (Sl.old W))
  have hlr := (hexRef_ok (n := n) (by omega)).len
  have HD1 := Lib.hid (fun w hs => digits_w 10 (.inl rfl) 6 n w (Sl.old W) (by decide) (by omega) (by omega) hs)
  have HD2 := Lib.hid (fun w hs => digits_w 16 (.inr rfl) 5 n w (Sl.old W) (by decide) (by omega) (by omega) hs)
  have hl10 := (digsF_len 10 6 n).2
  have hl16 := (digsF_len 16 5 n).2
  have hel := html_esc_len u
  have hesc : htmlPairs.esc u = [239, 191, 189] := by rw [hu2]; rfl
  have a1 : ∀ w, (Op.stringOp .add ⟨#[38, 35]⟩ (B.bs (digsF 10 6 n))).run Tryz.prog w = .ok (.string (B.bs ([38, 35] ++ digsF 10 6 n))) w := fun w => addB [38, 35] _ w (by simp; omega)
  have a2 : ∀ w, (Op.stringOp .add (B.bs ([38, 35] ++ digsF 10 6 n)) ⟨#[59]⟩).run Tryz.prog w = .ok (.string (B.bs (decRef n))) w := fun w => by
    have := addB ([38, 35] ++ digsF 10 6 n) [59] w (by simp; omega)
    rw [show [38, 35] ++ digsF 10 6 n ++ [59] = decRef n by simp [decRef]] at this
    exact this
  have b1 : ∀ w, (Op.stringOp .add ⟨#[38, 35, 120]⟩ (B.bs (digsF 16 5 n))).run Tryz.prog w = .ok (.string (B.bs ([38, 35, 120] ++ digsF 16 5 n))) w := fun w => addB [38, 35, 120] _ w (by simp; omega)
  have b2 : ∀ w, (Op.stringOp .add (B.bs ([38, 35, 120] ++ digsF 16 5 n)) ⟨#[59]⟩).run Tryz.prog w = .ok (.string (B.bs (hexRef n))) w := fun w => by
    have := addB ([38, 35, 120] ++ digsF 16 5 n) [59] w (by simp; omega)
    rw [show [38, 35, 120] ++ digsF 16 5 n ++ [59] = hexRef n by simp [hexRef]] at this
    exact this
  have c1 : ∀ w, (Op.stringOp .add ⟨#[120]⟩ (B.bs (hexRef n))).run Tryz.prog w = .ok (.string (B.bs ([120] ++ hexRef n))) w := fun w => addB [120] _ w (by simp; omega)
  have c2 : ∀ w, (Op.stringOp .add (B.bs ([120] ++ hexRef n)) ⟨#[120]⟩).run Tryz.prog w = .ok (.string (B.bs (cpTxt (hexRef n)))) w := fun w => by
    have := addB ([120] ++ hexRef n) [120] w (by simp; omega)
    rw [show [120] ++ hexRef n ++ [120] = cpTxt (hexRef n) by simp [cpTxt]] at this
    exact this
  have e1 : ∀ w, (Op.stringOp .add ⟨#[60, 112, 62, 120]⟩ (B.bs (htmlPairs.esc u))).run Tryz.prog w = .ok (.string (B.bs ([60, 112, 62, 120] ++ htmlPairs.esc u))) w := fun w => addB [60, 112, 62, 120] _ w (by simp; omega)
  have e2 : ∀ w, (Op.stringOp .add (B.bs ([60, 112, 62, 120] ++ htmlPairs.esc u)) ⟨#[120, 60, 47, 112, 62, 10]⟩).run Tryz.prog w = .ok (.string (B.bs (paraHTML (120 :: (htmlPairs.esc u ++ [120]))))) w := fun w => by
    have := addB ([60, 112, 62, 120] ++ htmlPairs.esc u) [120, 60, 47, 112, 62, 10] w (by simp; omega)
    rw [show [60, 112, 62, 120] ++ htmlPairs.esc u ++ [120, 60, 47, 112, 62, 10] = paraHTML (120 :: (htmlPairs.esc u ++ [120])) by simp [paraHTML]] at this
    exact this
  rw [hesc] at e1 e2 HPP
  have e1' : ∀ w, (Op.stringOp .add ⟨#[60, 112, 62, 120]⟩ ⟨#[239, 191, 189]⟩).run Tryz.prog w = .ok (.string (B.bs ([60, 112, 62, 120] ++ [239, 191, 189]))) w := e1
  clear e1 hesc hu2
  generalize B.bs (paraHTML (120 :: ([239, 191, 189] ++ [120]))) = out at *
  generalize B.bs ([60, 112, 62, 120] ++ [239, 191, 189]) = z1 at *
  generalize B.bs (cpTxt (hexRef n)) = T at *
  generalize B.bs ([120] ++ hexRef n) = y1 at *
  generalize B.bs (hexRef n) = h9 at *
  generalize B.bs (decRef n) = d9 at *
  generalize B.bs ([38, 35, 120] ++ digsF 16 5 n) = h8 at *
  generalize B.bs ([38, 35] ++ digsF 10 6 n) = d8 at *
  generalize B.bs (digsF 16 5 n) = h7 at *
  generalize B.bs (digsF 10 6 n) = d7 at *
  clear hlr hl10 hl16 hel hu hul
  have g1 : decide ((9999999 : Int) < (n : Int)) = false := by simp; omega
  have g2 : 0 < n := by omega
  have g3 : decide ((n : Int) < 33) = false := by simp; omega
  have g4 : decide ((16777215 : Int) < (n : Int)) = false := by simp; omega
  have g5 : wrap64 (n : Int) = (n : Int) := wrap64_small (by omega) (by omega)
  have k1 : decide ((n : Int) ≤ 1114111) = false := by simp; omega
  clear hn h1
  go_enter Tryz.func3, Tryz.ntmps3
  go_wp2_with fail
  refine (HD1.out W (Sat.old W)).mono ?_
  rintro e w2 ⟨rfl, hs2⟩
  have hb2 : Below W.heap.size W w2 := Sat.below (P := Sl.emp) (hs2.cast (emp_star _).symm)
  clear hb2
  go_wp2_with fail
  refine (HD2.out w2 hs2).mono ?_
  rintro e w3 ⟨rfl, hs3⟩
  have hb2 : Below W.heap.size W w3 := Sat.below (P := Sl.emp) (hs3.cast (emp_star _).symm)
  clear hs2
  go_wp2_with fail
  refine (HTMLP_b plainO rfl _ _ w3 W hb2 HPP.out).mono ?_
  rintro e w5 ⟨rfl, hb5⟩
  go_wp2
  go_ret
  exact ⟨rfl, hb5⟩

set_option maxRecDepth 100000 in
set_option maxHeartbeats 4000000 in
theorem cp_D0 (n : Nat) (W : World) (hn : n ≤ 9999999) (h1 : 55296 ≤ n) (h2 : n ≤ 57343) :
    Calls Tryz.prog 3 #[.int .u32 n, .bool false] W fun e w' => e = .returned (.bool true) ∧ Below W.heap.size W w' := by
  obtain ⟨u, hu, hul⟩ := rune_ex n
  have hu2 : u = [239, 191, 189] := bs_inj ((hu _ (fix_ok (by omega) (by omega))).trans (encode_bad (valid_no (by omega))))
  have HPP := Lib.hid (RefOk.prints (decRef_ok (n := n) (by omega)) hu hul (Sl.old W))
  have hlr := (decRef_ok (n := n) (by omega)).len
  have HD1 := Lib.hid (fun w hs => digits_w 10 (.inl rfl) 6 n w (Sl.old W) (by decide) (by omega) (by omega) hs)
  have HD2 := Lib.hid (fun w hs => digits_w 16 (.inr rfl) 5 n w (Sl.old W) (by decide) (by omega) (by omega) hs)
  have hl10 := (digsF_len 10 6 n).2
  have hl16 := (digsF_len 16 5 n).2
  have hel := html_esc_len u
  have hesc : htmlPairs.esc u = [239, 191, 189] := by rw [hu2]; rfl
  have a1 : ∀ w, (Op.stringOp .add ⟨#[38, 35]⟩ (B.bs (digsF 10 6 n))).run Tryz.prog w = .ok (.string (B.bs ([38, 35] ++ digsF 10 6 n))) w := fun w => addB [38, 35] _ w (by simp; omega)
  have a2 : ∀ w, (Op.stringOp .add (B.bs ([38, 35] ++ digsF 10 6 n)) ⟨#[59]⟩).run Tryz.prog w = .ok (.string (B.bs (decRef n))) w := fun w => by
    have := addB ([38, 35] ++ digsF 10 6 n) [59] w (by simp; omega)
    rw [show [38, 35] ++ digsF 10 6 n ++ [59] = decRef n by simp [decRef]] at this
    exact this
  have b1 : ∀ w, (Op.stringOp .add ⟨#[38, 35, 120]⟩ (B.bs (digsF 16 5 n))).run Tryz.prog w = .ok (.string (B.bs ([38, 35, 120] ++ digsF 16 5 n))) w := fun w => addB [38, 35, 120] _ w (by simp; omega)
  have b2 : ∀ w, (Op.stringOp .add (B.bs ([38, 35, 120] ++ digsF 16 5 n)) ⟨#[59]⟩).run Tryz.prog w = .ok (.string (B.bs (hexRef n))) w := fun w => by
    have := addB ([38, 35, 120] ++ digsF 16 5 n) [59] w (by simp; omega)
    rw [show [38, 35, 120] ++ digsF 16 5 n ++ [59] = hexRef n by simp [hexRef]] at this
    exact this
  have c1 : ∀ w, (Op.stringOp .add ⟨#[120]⟩ (B.bs (decRef n))).run Tryz.prog w = .ok (.string (B.bs ([120] ++ decRef n))) w := fun w => addB [120] _ w (by simp; omega)
  have c2 : ∀ w, (Op.stringOp .add (B.bs ([120] ++ decRef n)) ⟨#[120]⟩).run Tryz.prog w = .ok (.string (B.bs (cpTxt (decRef n)))) w := fun w => by
    have := addB ([120] ++ decRef n) [120] w (by simp; omega)
    rw [show [120] ++ decRef n ++ [120] = cpTxt (decRef n) by simp [cpTxt]] at this
    exact this
  have e1 : ∀ w, (Op.stringOp .add ⟨#[60, 112, 62, 120]⟩ (B.bs (htmlPairs.esc u))).run Tryz.prog w = .ok (.string (B.bs ([60, 112, 62, 120] ++ htmlPairs.esc u))) w := fun w => addB [60, 112, 62, 120] _ w (by simp; omega)
  have e2 : ∀ w, (Op.stringOp .add (B.bs ([60, 112, 62, 120] ++ htmlPairs.esc u)) ⟨#[120, 60, 47, 112, 62, 10]⟩).run Tryz.prog w = .ok (.string (B.bs (paraHTML (120 :: (htmlPairs.esc u ++ [120]))))) w := fun w => by
    have := addB ([60, 112, 62, 120] ++ htmlPairs.esc u) [120, 60, 47, 112, 62, 10] w (by simp; omega)
    rw [show [60, 112, 62, 120] ++ htmlPairs.esc u ++ [120, 60, 47, 112, 62, 10] = paraHTML (120 :: (htmlPairs.esc u ++ [120])) by simp [paraHTML]] at this
    exact this
  rw [hesc] at e1 e2 HPP
  have e1' : ∀ w, (Op.stringOp .add ⟨#[60, 112, 62, 120]⟩ ⟨#[239, 191, 189]⟩).run Tryz.prog w = .ok (.string (B.bs ([60, 112, 62, 120] ++ [239, 191, 189]))) w := e1
  clear e1 hesc hu2
  generalize B.bs (paraHTML (120 :: ([239, 191, 189] ++ [120]))) = out at *
  generalize B.bs ([60, 112, 62, 120] ++ [239, 191, 189]) = z1 at *
  generalize B.bs (cpTxt (decRef n)) = T at *
  generalize B.bs ([120] ++ decRef n) = y1 at *
  generalize B.bs (hexRef n) = h9 at *
  generalize B.bs (decRef n) = d9 at *
  generalize B.bs ([38, 35, 120] ++ digsF 16 5 n) = h8 at *
  generalize B.bs ([38, 35] ++ digsF 10 6 n) = d8 at *
  generalize B.bs (digsF 16 5 n) = h7 at *
  generalize B.bs (digsF 10 6 n) = d7 at *
  clear hlr hl10 hl16 hel hu hul
  have g1 : decide ((9999999 : Int) < (n : Int)) = false := by simp; omega
  have g2 : 0 < n := by omega
  have g3 : decide ((n : Int) < 33) = false := by simp; omega
  have g4 : decide ((16777215 : Int) < (n : Int)) = false := by simp; omega
  have g5 : wrap64 (n : Int) = (n : Int) := wrap64_small (by omega) (by omega)
  have k1 : decide ((n : Int) ≤ 1114111) = true := by simp; omega
  have k2 : decide ((n : Int) < 55296) = false := by simp; omega
  have k3 : decide ((57343 : Int) < (n : Int)) = false := by simp; omega
  clear hn h1 h2
  go_enter Tryz.func3, Tryz.ntmps3
  go_wp2_with fail
  refine (HD1.out W (Sat.old W)).mono ?_
  rintro e w2 ⟨rfl, hs2⟩
  have hb2 : Below W.heap.size W w2 := Sat.below (P := Sl.emp) (hs2.cast (emp_star _).symm)
  go_wp2_with fail
  refine (HTMLP_b plainO rfl _ _ w2 W hb2 HPP.out).mono ?_
  rintro e w5 ⟨rfl, hb5⟩
  go_wp2
  go_ret
  exact ⟨rfl, hb5⟩

set_option maxRecDepth 100000 in
set_option maxHeartbeats 4000000 in
theorem cp_D1 (n : Nat) (W : World) (hn : n ≤ 9999999) (h1 : 55296 ≤ n) (h2 : n ≤ 57343) :
    Calls Tryz.prog 3 #[.int .u32 n, .bool true] W fun e w' => e = .returned (.bool true) ∧ Below W.heap.size W w' := by
  obtain ⟨u, hu, hul⟩ := rune_ex n
  have hu2 : u = [239, 191, 189] := bs_inj ((hu _ (fix_ok (by omega) (by omega))).trans (encode_bad (valid_no (by omega))))
  have HPP := Lib.hid (RefOk.prints (hexRef_ok (n := n) (by omega)) hu hul (Sl.old W))
  have hlr := (hexRef_ok (n := n) (by omega)).len
  have HD1 := Lib.hid (fun w hs => digits_w 10 (.inl rfl) 6 n w (Sl.old W) (by decide) (by omega) (by omega) hs)
  have HD2 := Lib.hid (fun w hs => digits_w 16 (.inr rfl) 5 n w (Sl.old W) (by decide) (by omega) (by omega) hs)
  have hl10 := (digsF_len 10 6 n).2
  have hl16 := (digsF_len 16 5 n).2
  have hel := html_esc_len u
  have hesc : htmlPairs.esc u = [239, 191, 189] := by rw [hu2]; rfl
  have a1 : ∀ w, (Op.stringOp .add ⟨#[38, 35]⟩ (B.bs (digsF 10 6 n))).run Tryz.prog w = .ok (.string (B.bs ([38, 35] ++ digsF 10 6 n))) w := fun w => addB [38, 35] _ w (by simp; omega)
  have a2 : ∀ w, (Op.stringOp .add (B.bs ([38, 35] ++ digsF 10 6 n)) ⟨#[59]⟩).run Tryz.prog w = .ok (.string (B.bs (decRef n))) w := fun w => by
    have := addB ([38, 35] ++ digsF 10 6 n) [59] w (by simp; omega)
    rw [show [38, 35] ++ digsF 10 6 n ++ [59] = decRef n by simp [decRef]] at this
    exact this
  have b1 : ∀ w, (Op.stringOp .add ⟨#[38, 35, 120]⟩ (B.bs (digsF 16 5 n))).run Tryz.prog w = .ok (.string (B.bs ([38, 35, 120] ++ digsF 16 5 n))) w := fun w => addB [38, 35, 120] _ w (by simp; omega)
  have b2 : ∀ w, (Op.stringOp .add (B.bs ([38, 35, 120] ++ digsF 16 5 n)) ⟨#[59]⟩).run Tryz.prog w = .ok (.string (B.bs (hexRef n))) w := fun w => by
    have := addB ([38, 35, 120] ++ digsF 16 5 n) [59] w (by simp; omega)
    rw [show [38, 35, 120] ++ digsF 16 5 n ++ [59] = hexRef n by simp [hexRef]] at this
    exact this
  have c1 : ∀ w, (Op.stringOp .add ⟨#[120]⟩ (B.bs (hexRef n))).run Tryz.prog w = .ok (.string (B.bs ([120] ++ hexRef n))) w := fun w => addB [120] _ w (by simp; omega)
  have c2 : ∀ w, (Op.stringOp .add (B.bs ([120] ++ hexRef n)) ⟨#[120]⟩).run Tryz.prog w = .ok (.string (B.bs (cpTxt (hexRef n)))) w := fun w => by
    have := addB ([120] ++ hexRef n) [120] w (by simp; omega)
    rw [show [120] ++ hexRef n ++ [120] = cpTxt (hexRef n) by simp [cpTxt]] at this
    exact this
  have e1 : ∀ w, (Op.stringOp .add ⟨#[60, 112, 62, 120]⟩ (B.bs (htmlPairs.esc u))).run Tryz.prog w = .ok (.string (B.bs ([60, 112, 62, 120] ++ htmlPairs.esc u))) w := fun w => addB [60, 112, 62, 120] _ w (by simp; omega)
  have e2 : ∀ w, (Op.stringOp .add (B.bs ([60, 112, 62, 120] ++ htmlPairs.esc u)) ⟨#[120, 60, 47, 112, 62, 10]⟩).run Tryz.prog w = .ok (.string (B.bs (paraHTML (120 :: (htmlPairs.esc u ++ [120]))))) w := fun w => by
    have := addB ([60, 112, 62, 120] ++ htmlPairs.esc u) [120, 60, 47, 112, 62, 10] w (by simp; omega)
    rw [show [60, 112, 62, 120] ++ htmlPairs.esc u ++ [120, 60, 47, 112, 62, 10] = paraHTML (120 :: (htmlPairs.esc u ++ [120])) by simp [paraHTML]] at this
    exact this
  rw [hesc] at e1 e2 HPP
  have e1' : ∀ w, (Op.stringOp .add ⟨#[60, 112, 62, 120]⟩ ⟨#[239, 191, 189]⟩).run Tryz.prog w = .ok (.string (B.bs ([60, 112, 62, 120] ++ [239, 191, 189]))) w := e1
  clear e1 hesc hu2
  generalize B.bs (paraHTML (120 :: ([239, 191, 189] ++ [120]))) = out at *
  generalize B.bs ([60, 112, 62, 120] ++ [239, 191, 189]) = z1 at *
  generalize B.bs (cpTxt (hexRef n)) = T at *
  generalize B.bs ([120] ++ hexRef n) = y1 at *
  generalize B.bs (hexRef n) = h9 at *
  generalize B.bs (decRef n) = d9 at *
  generalize B.bs ([38, 35, 120] ++ digsF 16 5 n) = h8 at *
  generalize B.bs ([38, 35] ++ digsF 10 6 n) = d8 at *
  generalize B.bs (digsF 16 5 n) = h7 at *
  generalize B.bs (digsF 10 6 n) = d7 at *
  clear hlr hl10 hl16 hel hu hul
  have g1 : decide ((9999999 : Int) < (n : Int)) = false := by simp; omega
  have g2 : 0 < n := by omega
  have g3 : decide ((n : Int) < 33) = false := by simp; omega
  have g4 : decide ((16777215 : Int) < (n : Int)) = false := by simp; omega
  have g5 : wrap64 (n : Int) = (n : Int) := wrap64_small (by omega) (by omega)
  have k1 : decide ((n : Int) ≤ 1114111) = true := by simp; omega
  have k2 : decide ((n : Int) < 55296) = false := by simp; omega
  have k3 : decide ((57343 : Int) < (n : Int)) = false := by simp; omega
  clear hn h1 h2
  go_enter Tryz.func3, Tryz.ntmps3
  go_wp2_with fail
  refine (HD1.out W (Sat.old W)).mono ?_
  rintro e w2 ⟨rfl, hs2⟩
  have hb2 : Below W.heap.size W w2 := Sat.below (P := Sl.emp) (hs2.cast (emp_star _).symm)
  clear hb2
  go_wp2_with fail
  refine (HD2.out w2 hs2).mono ?_
  rintro e w3 ⟨rfl, hs3⟩
  have hb2 : Below W.heap.size W w3 := Sat.below (P := Sl.emp) (hs3.cast (emp_star _).symm)
  clear hs2
  go_wp2_with fail
  refine (HTMLP_b plainO rfl _ _ w3 W hb2 HPP.out).mono ?_
  rintro e w5 ⟨rfl, hb5⟩
  go_wp2
  go_ret
  exact ⟨rfl, hb5⟩

set_option maxRecDepth 100000 in
set_option maxHeartbeats 4000000 in
theorem FnCodePoint_w (n : Nat) (hex : Bool) (W : World) (_hn : n < 4294967296) :
    Calls Tryz.prog 3 #[.int .u32 n, .bool hex] W fun e w' => e = .returned (.bool true) ∧ Below W.heap.size W w' := by
  by_cases h1 : 9999999 < n
  · have g1 : decide ((9999999 : Int) < (n : Int)) = true := by simp; omega
    clear h1
    go_enter Tryz.func3, Tryz.ntmps3
    go_wp2
    go_ret
    exact ⟨rfl, Below.refl _ _⟩
  by_cases h2 : 0 < n ∧ n < 33
  · have g1 : decide ((9999999 : Int) < (n : Int)) = false := by simp; omega
    have g2 : 0 < n := h2.1
    have g3 : decide ((n : Int) < 33) = true := by simp; omega
    clear h1 h2
    go_enter Tryz.func3, Tryz.ntmps3
    go_wp2
    go_ret
    exact ⟨rfl, Below.refl _ _⟩
  have h3 : n = 0 ∨ 1114111 < n ∨ (55296 ≤ n ∧ n ≤ 57343) ∨ (33 ≤ n ∧ n ≤ 1114111 ∧ (n < 55296 ∨ 57343 < n)) := by omega
  have hn9 : n ≤ 9999999 := by omega
  rcases h3 with h | h | ⟨ha, hb⟩ | ⟨ha, hb, hc⟩ <;> cases hex
  · exact cp_B0 n W hn9 h
  · exact cp_B1 n W hn9 h
  · exact cp_C0 n W hn9 h
  · exact cp_C1 n W hn9 h
  · exact cp_D0 n W hn9 ha hb
  · exact cp_D1 n W hn9 ha hb
  · exact cp_A0 n W hn9 ha hb hc
  · exact cp_A1 n W hn9 ha hb hc

end Go.Proofs.YtcmpcjffmccllaaGreatDoor

namespace Go.Proofs.YtcmpcjffmccllaaGreatDoor.fnCodePoint
open Go.ChangeShapes Go.WideShapes Go.ChangeAt Go.RowKit

theorem spec_at {H : Type} {enc : TypeId × Value → H} {W : World} {args : Array Value} {ds : List (DataW H)} {p : List MemPlace}
    (h : DataW.TrodAll enc Tryz.prog W 0 (fun _ => true) true Tryz.f3.params.toList args.toList ds p) : Rows.fnCodePointSpec.fn H ds = { results := [.lit (.bool true)], args := ds } := by
  rw [Tryz.params3] at h
  obtain ⟨v0, vs0, d0, ds0, p0, q0, hargs, rfl, rfl, h0, r0⟩ := trodAll_cons h
  obtain ⟨v1, vs1, d1, ds1, p1, q1, hargs1, rfl, rfl, h1, r1⟩ := trodAll_cons r0
  obtain ⟨rfl, rfl, rfl⟩ := trodAll_nil r1
  rfl

set_option maxRecDepth 100000 in
theorem contract (H : Type) (enc : TypeId × Value → H) (W : World) (base : Nat) (args : Array Value) (ds gs : List (DataW H)) (before : List MemPlace)
    (hval : ∀ (j : Nat) t v, Tryz.f3.params[j]? = some t → args[j]? = some v → Value.okWide Tryz.prog W .any base t v)
    (hW : DataW.Whole enc Tryz.prog Tryz.f3.params.toList Rows.fnCodePointSpec.vars false W args.toList ds gs before) (_hL : laidMetH Tryz.prog Rows.fnCodePointRow.laid W) :
    Calls Tryz.prog 3 args W fun e W' => e = .returned (.bool true) ∧ Below W.heap.size W W' := by
  obtain ⟨p, q, hA0, hV, rfl, hfz, hnd⟩ := hW
  have hA : DataW.TrodAll enc Tryz.prog W 0 (fun _ => true) true Tryz.f3.params.toList args.toList ds p := hA0
  rw [Tryz.params3] at hA
  obtain ⟨v0, vs0, d0, ds0, p0, q0, hargs, rfl, rfl, h0, r0⟩ := trodAll_cons hA
  obtain ⟨v1, vs1, d1, ds1, p1, q1, hargs1, rfl, rfl, ⟨n1, h1⟩, r1⟩ := trodAll_cons r0
  obtain ⟨rfl, rfl, rfl⟩ := trodAll_nil r1
  obtain rfl : args = #[v0, v1] := by cases args; simp_all
  obtain ⟨x, rfl, rfl, rfl, wx⟩ := open_int Tryz.underlying22 (hval 0 22 v0 rfl rfl) h0
  obtain ⟨sp, rfl⟩ := okWide_bool Tryz.underlying4 (hval 1 4 v1 rfl rfl)
  have bx := Go.bounds_u32 wx
  obtain ⟨X, rfl⟩ := Int.eq_ofNat_of_zero_le bx.1
  exact FnCodePoint_w X sp W (by omega)
end Go.Proofs.YtcmpcjffmccllaaGreatDoor.fnCodePoint
