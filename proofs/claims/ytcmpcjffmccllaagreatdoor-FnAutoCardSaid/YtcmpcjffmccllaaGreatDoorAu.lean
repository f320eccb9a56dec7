/- Automatic links: an address of electronic mail. -/
import Derived.Test.YtcmpcjffmccllaaGreatDoorI3
import Derived.Deep.RegionLaw
import Derived.Deep.DeepCutAuto
namespace Go.Proofs.YtcmpcjffmccllaaGreatDoor
open Go.RowKit Sl

def alnum (c : UInt8) : Bool := decide (65 ≤ c.toNat ∧ c.toNat ≤ 90) || decide (97 ≤ c.toNat ∧ c.toNat ≤ 122) || decide (48 ≤ c.toNat ∧ c.toNat ≤ 57)

def ldh (c : UInt8) : Bool := alnum c || decide (c.toNat = 45)

set_option maxRecDepth 100000 in
set_option maxHeartbeats 1000000 in
theorem alnum_w (c : UInt8) (w : World) : Calls Tryz.prog 131 #[.int .u8 c.toNat] w fun e w' => e = .returned (.bool (alnum c)) ∧ w = w' := by
  go_enter Tryz.func131, Tryz.ntmps131
  go_wp2
  all_goals
    go_ret
    refine ⟨ret_bool ?_, rfl⟩
    unfold alnum
    rw [Bool.eq_iff_iff]
    simp only [Bool.or_eq_true, decide_eq_true_eq, true_iff, Bool.false_eq_true, false_iff, eq_self]
    omega

set_option maxRecDepth 100000 in
set_option maxHeartbeats 1000000 in
theorem ldh_w (c : UInt8) (w : World) : Calls Tryz.prog 186 #[.int .u8 c.toNat] w fun e w' => e = .returned (.bool (ldh c)) ∧ w = w' := by
  have HA := Lib.hid (alnum_w c w)
  go_enter Tryz.func186, Tryz.ntmps186
  go_wp2_with fail
  refine HA.out.mono ?_
  rintro e w1 ⟨rfl, rfl⟩
  cases ha : alnum c
  · go_wp2
    all_goals
      go_ret
      refine ⟨ret_bool ?_, rfl⟩
      unfold ldh
      rw [ha, Bool.false_or]
      rw [Bool.eq_iff_iff]
      simp
      first | omega | skip
  · go_wp2
    go_ret
    exact ⟨by unfold ldh; rw [ha]; rfl, rfl⟩

/-- Where an address stands in a text: its name between A and I, the sign at I, the host up to D, the full stop at D, the rest up to K, a space behind it, and a space ahead of it. -/
structure MailAt (s : List UInt8) (A I D K : Nat) : Prop where
  a0 : 0 < A
  ai : A < I
  id : I + 1 < D
  dk : D + 1 < K
  len : K < s.length
  small : s.length ≤ 100000000
  sp : s[A - 1]? = some 32
  nm : ∀ k, A ≤ k → k < I → ∃ c, s[k]? = some c ∧ alnum c = true
  at_ : s[I]? = some 64
  host : ∀ k, I < k → k < D → ∃ c, s[k]? = some c ∧ alnum c = true
  dot : s[D]? = some 46
  tl : ∀ k, D < k → k < K → ∃ c, s[k]? = some c ∧ alnum c = true
  se : s[K]? = some 32

theorem alnum_ne {c : UInt8} (h : alnum c = true) : c ≠ 46 ∧ c ≠ 95 ∧ c ≠ 45 ∧ c ≠ 43 ∧ c ≠ 64 ∧ c ≠ 32 := by
  refine ⟨?_, ?_, ?_, ?_, ?_, ?_⟩ <;> (rintro rfl; revert h; decide)

theorem alnum_int {c : UInt8} (h : alnum c = true) : ((c.toNat : Int) == 46) = false ∧ ((c.toNat : Int) == 95) = false ∧ ((c.toNat : Int) == 45) = false := by
  unfold alnum at h
  simp only [Bool.or_eq_true, decide_eq_true_eq] at h
  refine ⟨?_, ?_, ?_⟩ <;> (simp only [beq_eq_false_iff_ne, ne_eq]; omega)

theorem link_mk {w : World} {d g i : Nat} {u t : List UInt8} {F : HP} (h : Sat w (row d 145 [.slice (some ⟨g, 0, none⟩) 1 1, .string (B.bs u), .string ⟨#[]⟩, .int .u8 0, .bool false] * (row g 133 [.iface 157 (.pointer (some ⟨i, 0, none⟩))] * (row i 138 [.string (B.bs t)] * F)))) :
    Sat w (TokAt (.iface 141 (.pointer (some ⟨d, 0, none⟩))) (.link u t) * F) := by
  have h2 := h.cast (show _ = (row d 145 [.slice (some ⟨g, 0, none⟩) 1 1, .string (B.bs u), .string ⟨#[]⟩, .int .u8 0, .bool false] * (row g 133 [.iface 157 (.pointer (some ⟨i, 0, none⟩))] * row i 138 [.string (B.bs t)])) * F from by ac_rfl)
  exact Sat.ex_mk (d, g, i) (by rw [pur_star rfl]; exact h2)

set_option maxRecDepth 100000 in
set_option maxHeartbeats 2000000 in
theorem parseAutoEmail_w (p : Option Addr) (s : List UInt8) (A I D K : Nat) (h : MailAt s A I D K) (w : World) (F : HP) (hs : Sat w F) :
    Calls Tryz.prog 171 #[.pointer p, .string (B.bs s), .int .i64 I] w fun e w' => ∃ d, e = .returned (.tuple #[.string (B.bs (s.take A)), .pointer (some ⟨d, 0, none⟩), .string (B.bs (s.drop K)), .bool true]) ∧
      Sat w' (TokAt (.iface 141 (.pointer (some ⟨d, 0, none⟩))) (.link ([109, 97, 105, 108, 116, 111, 58] ++ (s.take K).drop A) ((s.take K).drop A)) * F) := by
  have hz : (B.bs s).size = s.length := rfl
  obtain ⟨a0, ai, id, dk, hlen, hsm, hsp, hnm, hat, hho, hdot, htl, hse⟩ := h
  have hget : ∀ k c, s[k]? = some c → ∀ hh, (B.bs s)[k]'hh = c := fun k c hk hh => (List.getElem?_eq_some_iff.1 hk).2
  have xI := hget _ _ hat
  have xD := hget _ _ hdot
  have xK := hget _ _ hse
  have xA := hget _ _ hsp
  have HL := Lib.hid (fun c w => ldh_w c w)
  have HNM := Lib.hid (fun k h1 h2 => (hnm k h1 h2).imp fun c hc => (⟨hget k c hc.1, hc.2⟩ : (∀ hh, (B.bs s)[k]'hh = c) ∧ alnum c = true))
  have HHO := Lib.hid (fun k h1 h2 => (hho k h1 h2).imp fun c hc => (⟨hget k c hc.1, hc.2⟩ : (∀ hh, (B.bs s)[k]'hh = c) ∧ alnum c = true))
  have HTL := Lib.hid (fun k h1 h2 => (htl k h1 h2).imp fun c hc => (⟨hget k c hc.1, hc.2⟩ : (∀ hh, (B.bs s)[k]'hh = c) ∧ alnum c = true))
  have XD := Lib.hid xD
  have XK := Lib.hid xK
  have XA := Lib.hid xA
  clear hnm hho htl hat hdot hse hsp hget xD xK xA
  have HS := Lib.hid hs
  clear hs
  go_enter Tryz.func171, Tryz.ntmps171
  go_wp2
  go_loopw [10] (fun a wr => ∃ m : Nat, m ≤ I - A ∧ a = .int .i64 ((A + m : Nat) : Int) ∧ w = wr) (fun a _ => (intOf a).toNat)
  case atStart => exact ⟨I - A, Nat.le_refl _, by congr 2; omega, rfl⟩
  case round =>
    obtain ⟨m, hm, rfl, rfl⟩ := hrel
    cases m with
    | succ m =>
      obtain ⟨c, hix, hb⟩ := HNM.out (A + m) (by omega) (by omega)
      have hx := HL.out c w
      rw [show ldh c = true by unfold ldh; rw [hb]; rfl] at hx
      have HX := Lib.hid hx
      clear hx xI
      go_wp2_with fail
      refine HX.out.mono ?_
      rintro e w1 ⟨rfl, rfl⟩
      go_wp2
      go_roundw
      case rel => exact ⟨m, by omega, by go_num, by first | trivial | rfl⟩
      case measure => simp [intOf]; omega
    | zero =>
      have xA := XA.out
      have hx := HL.out 32 w
      rw [show ldh 32 = false by decide] at hx
      have HX := Lib.hid hx
      clear hx xI
      go_wp2_with fail
      refine HX.out.mono ?_
      rintro e w1 ⟨rfl, rfl⟩
      clear HX
      go_wp2
      clear xA
      go_loopw [11, 12] (fun a b wr => ∃ k : Nat, I < k ∧ k ≤ K ∧ a = .int .i64 (if k ≤ D then 0 else 1) ∧ b = .int .i64 (k : Int) ∧ w = wr) (fun _ b _ => s.length - (intOf b).toNat)
      case atStart => exact ⟨I + 1, by omega, by omega, by rw [if_pos (by omega)], by go_num, rfl⟩
      case round =>
        obtain ⟨k, hk1, hk2, rfl, rfl, rfl⟩ := hrel
        by_cases hkD : k ≤ D
        · rw [if_pos hkD]
          by_cases hlt : k < D
          · obtain ⟨c, hix, hb⟩ := HHO.out k hk1 hlt
            obtain ⟨n1, n2, n3⟩ := alnum_int hb
            have hx := HL.out c w
            rw [show ldh c = true by unfold ldh; rw [hb]; rfl] at hx
            have HX := Lib.hid hx
            clear hx
            go_wp2_with fail
            refine HX.out.mono ?_
            rintro e w1 ⟨rfl, rfl⟩
            clear HX
            go_wp2
            go_roundw
            case rel => exact ⟨k + 1, by omega, by omega, by rw [if_pos (by omega)], by go_num, by first | trivial | rfl⟩
            case measure => simp [intOf]; omega
          · obtain rfl : k = D := by omega
            have xD := XD.out
            obtain ⟨c, hix, hb⟩ := HHO.out (k - 1) (by omega) (by omega)
            obtain ⟨n1, n2, n3⟩ := alnum_int hb
            have hx := HL.out 46 w
            rw [show ldh 46 = false by decide] at hx
            have HX := Lib.hid hx
            clear hx
            go_wp2_with fail
            refine HX.out.mono ?_
            rintro e w1 ⟨rfl, rfl⟩
            clear HX
            go_wp2
            go_roundw
            case rel => exact ⟨k + 1, by omega, by omega, by rw [if_neg (by omega)], by go_num, by first | trivial | rfl⟩
            case measure => simp [intOf]; omega
        · rw [if_neg hkD]
          by_cases hlt : k < K
          · obtain ⟨c, hix, hb⟩ := HTL.out k (by omega) hlt
            obtain ⟨n1, n2, n3⟩ := alnum_int hb
            have hx := HL.out c w
            rw [show ldh c = true by unfold ldh; rw [hb]; rfl] at hx
            have HX := Lib.hid hx
            clear hx
            go_wp2_with fail
            refine HX.out.mono ?_
            rintro e w1 ⟨rfl, rfl⟩
            clear HX
            go_wp2
            go_roundw
            case rel => exact ⟨k + 1, by omega, by omega, by rw [if_neg (by omega)], by go_num, by first | trivial | rfl⟩
            case measure => simp [intOf]; omega
          · obtain rfl : k = K := by omega
            have xK := XK.out
            obtain ⟨c, hix, hb⟩ := HTL.out (k - 1) (by omega) (by omega)
            obtain ⟨n1, n2, n3⟩ := alnum_int hb
            have hx := HL.out 32 w
            rw [show ldh 32 = false by decide] at hx
            have HX := Lib.hid hx
            clear hx
            go_wp2_with fail
            refine HX.out.mono ?_
            rintro e w1 ⟨rfl, rfl⟩
            clear HX
            go_wp2
            have hcut : (B.bs s).extract A k = B.bs ((s.take k).drop A) := by rw [B.extract_bs, B.bs_data, List.drop_take]
            have e1 : (B.bs s).extract 0 A = B.bs (s.take A) := by rw [B.extract_bs, B.bs_data]; simp
            have e2 : (B.bs s).extract k s.length = B.bs (s.drop k) := by
              rw [B.extract_bs, B.bs_data]
              congr 1
              exact List.take_of_length_le (by rw [List.length_drop]; omega)
            have a1 : ∀ w, (Op.stringOp .add ⟨#[109, 97, 105, 108, 116, 111, 58]⟩ (B.bs ((s.take k).drop A))).run Tryz.prog w = .ok (.string (B.bs ([109, 97, 105, 108, 116, 111, 58] ++ (s.take k).drop A))) w := fun w => addB [109, 97, 105, 108, 116, 111, 58] _ w (by simp only [List.length_drop, List.length_take, List.length_cons, List.length_nil]; omega)
            have q1 : A ≤ k := by omega
            have q2 : k ≤ s.length := by omega
            have q3 : A ≤ s.length := by omega
            clear xK hix n1 n2 n3
            obtain ⟨u, hu⟩ : ∃ u, u = [109, 97, 105, 108, 116, 111, 58] ++ (s.take k).drop A := ⟨_, rfl⟩
            obtain ⟨t, ht⟩ : ∃ t, t = (s.take k).drop A := ⟨_, rfl⟩
            rw [← hu, ← ht] at a1
            rw [← ht] at hcut
            have fin : ∀ (W9 : World) (d : Nat), Sat W9 (TokAt (.iface 141 (.pointer (some ⟨d, 0, none⟩))) (.link u t) * F) → Sat W9 (TokAt (.iface 141 (.pointer (some ⟨d, 0, none⟩))) (.link ([109, 97, 105, 108, 116, 111, 58] ++ (s.take k).drop A) ((s.take k).drop A)) * F) := by
              intro W9 d h
              rw [hu, ht] at h
              exact h
            have FIN := Lib.hid fin
            clear hu ht fin
            go_region_law (fail)
            all_goals
              go_wp2
              go_region_law (fail)
              go_wp2
              refine bodyPost_ret (v := .tuple #[.string (B.bs (s.take A)), .pointer (some ⟨w.heap.size + 1 + 1, 0, none⟩), .string (B.bs (s.drop k)), .bool true]) (by simp [results, Tryz.results171, go_sem]) rfl ⟨w.heap.size + 1 + 1, rfl, ?_⟩
              have h5 := (((HS.out.new (d := w.heap.size) [.string (B.bs t)] 138 (by simp)).new (d := w.heap.size + 1) [.iface 157 (.pointer (some ⟨w.heap.size, 0, none⟩))] 133 (by simp)).new (d := w.heap.size + 1 + 1) [.slice (some ⟨w.heap.size + 1, 0, none⟩) 1 1, .string (B.bs u), .string ⟨#[]⟩, .int .u8 0, .bool false] 145 (by simp)).drew.drew
              exact FIN.out _ _ (link_mk (d := w.heap.size + 1 + 1) (g := w.heap.size + 1) (i := w.heap.size) (h5.cast (by ac_rfl)))
end Go.Proofs.YtcmpcjffmccllaaGreatDoor
