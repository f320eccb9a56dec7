/- References to characters by name; texts without backslashes and references. -/
import Derived.Test.YtmdabdpghcjplaaGreatDoorSb
import Derived.Test.YtmdabdpghcjplaaGreatDoorTl
namespace Go.Proofs.YtmdabdpghcjplaaGreatDoor
open Go.RowKit Sl

/-- The package's table of names, as far as is asked of it: its cells hold texts. -/
def Ents (w : World) : Prop := ∀ i, i < 12 → ∃ a b : List UInt8, w.cell? ⟨1, i * 2, none⟩ = some (.string (B.bs a)) ∧ w.cell? ⟨1, i * 2 + 1, none⟩ = some (.string (B.bs b)) ∧ b ≠ [] ∧ b.length ≤ 1000

set_option maxRecDepth 100000 in
set_option maxHeartbeats 1000000 in
theorem htmlEntity_w (s : ByteArray) (w : World) (h : Ents w) :
    Calls Tryz.prog 114 #[.string s] w fun e w' => (∃ (r : List UInt8) (ok : Bool), e = .returned (.tuple #[.string (B.bs r), .bool ok]) ∧ (ok = true → r ≠ [] ∧ r.length ≤ 1000)) ∧ w = w' := by
  go_enter Tryz.func114, Tryz.ntmps114
  go_wp2
  go_loopw [4] (fun i wr => ∃ k : Nat, k ≤ 12 ∧ i = .int .i64 k ∧ w = wr) (fun i _ => 12 - (intOf i).toNat)
  case atStart => exact ⟨0, by decide, rfl, rfl⟩
  case round =>
    obtain ⟨k, hk, rfl, rfl⟩ := hrel
    by_cases hlt : k < 12
    · obtain ⟨a, b, c0, c1, hb, hbl⟩ := h k hlt
      cases hq : ((B.bs a).toList == s.toList)
      · go_wp2
        go_roundw
        case rel => exact ⟨k + 1, by omega, by go_num, by first | trivial | rfl⟩
        case measure => simp [intOf]; omega
      · go_wp2
        go_ret2
        exact ⟨⟨b, true, rfl, fun _ => ⟨hb, hbl⟩⟩, rfl⟩
    · obtain rfl : k = 12 := by omega
      go_wp2
      go_ret2
      exact ⟨⟨[], false, rfl, fun h => by cases h⟩, rfl⟩

def IsB (e : Ending) : Prop := ∃ b : Bool, e = .returned (.bool b)

set_option maxRecDepth 100000 in
set_option maxHeartbeats 1000000 in
theorem isPunct_w (c : UInt8) (w : World) : Calls Tryz.prog 101 #[.int .u8 c.toNat] w fun e w' => IsB e ∧ w = w' := by
  go_enter Tryz.func101, Tryz.ntmps101
  go_wp2
  all_goals
    go_ret
    exact ⟨⟨_, rfl⟩, rfl⟩

end Go.Proofs.YtmdabdpghcjplaaGreatDoor

/- mdUnescaper: a text without backslashes and references: some text. -/
namespace Go.Proofs.YtmdabdpghcjplaaGreatDoor
open Go.RowKit Sl

set_option maxRecDepth 100000 in
set_option maxHeartbeats 2000000 in
theorem unescape_w (s : List UInt8) (w : World) (F : HP) (hs : s.length ≤ 1000000) (hE : ∀ w', Sat w' F → Ents w') (h : Sat w F) :
    Calls Tryz.prog 168 #[.agg #[], .string (B.bs s)] w fun e w' => (∃ r : List UInt8, e = .returned (.string (B.bs r)) ∧ (s = [] → r = []) ∧ r.length ≤ 1000 * s.length) ∧ Sat w' F := by
  have hz : (B.bs s).size = s.length := rfl
  have h1 := bldr_new ((h.alloc (.cells #[] 271)).right)
  obtain ⟨b, hb⟩ : ∃ b, b = w.heap.size + 1 := ⟨_, rfl⟩
  have h2 : Sat ((w.alloc (.cells #[] 271)).alloc (.cells #[.pointer none, .slice none 0 0] 58)) (Bldr b [] * F) := by
    rw [hb]
    have e : (w.alloc (.cells #[] 271)).heap.size = w.heap.size + 1 := by simp
    rw [← e]; exact h1
  have H2 := Lib.hid h2
  clear h1 h2 h
  go_enter Tryz.func168, Tryz.ntmps168
  go_wp2
  rw [← hb]
  clear hb
  go_loopw [6] (fun i wr => ∃ (k : Nat) (out : List UInt8), k ≤ s.length ∧ i = .int .i64 k ∧ out.length ≤ 1000 * k ∧ Sat wr (Bldr b out * F)) (fun i _ => s.length - (intOf i).toNat)
  case atStart => exact ⟨0, [], Nat.zero_le _, rfl, Nat.zero_le _, H2.out⟩
  case round =>
    obtain ⟨k, out, hk, rfl, hol, hsw⟩ := hrel
    by_cases hlt : k < s.length
    · generalize hc : s[k] = c
      have hix : ∀ h, (B.bs s)[k]'h = c := fun _ => hc
      have fin : ∀ (x : List UInt8) (k' : Nat) (w' : World), k < k' → k' ≤ s.length → x.length ≤ 1000 → Sat w' (Bldr b (out ++ x) * F) → ∃ (k2 : Nat) (out2 : List UInt8), k2 ≤ s.length ∧ Value.int .i64 (k' : Int) = .int .i64 k2 ∧ out2.length ≤ 1000 * k2 ∧ Sat w' (Bldr b out2 * F) :=
        fun x k' w' h1 h2 h3 h4 => ⟨k', out ++ x, h2, rfl, by rw [List.length_append]; have : 1000 * (k + 1) ≤ 1000 * k' := Nat.mul_le_mul_left _ h1; omega, h4⟩
      have FIN := Lib.hid fin
      clear fin
      have hEw := hE wr hsw.right
      have HS := Lib.hid hsw
      have hol2 : out.length ≤ 1000000000 := by have : 1000 * k ≤ 1000 * 1000000 := Nat.mul_le_mul_left _ (by omega); omega
      have hwb := fun (d : UInt8) => bldByte_w b out d wr F (by omega) HS.out
      have HWB := Lib.hid hwb
      clear hsw hwb H2
      by_cases h92 : c = 92
      · subst h92
        by_cases hk1 : k + 1 < s.length
        · generalize hc1 : s[k + 1] = c1
          have hix1 : ∀ h, (B.bs s)[k + 1]'h = c1 := fun _ => hc1
          go_wp2_with fail
          refine (isPunct_w c1 wr).mono ?_
          rintro e w' ⟨⟨pb, rfl⟩, rfl⟩
          cases pb
          · go_wp2_with fail
            refine (HWB.out 92).mono ?_
            rintro e w' ⟨rfl, h3⟩
            go_wp2
            exact ⟨FIN.out [92] (k + 1) w' (by omega) (by omega) (by simp) h3, by simp [intOf]; omega⟩
          · go_wp2_with fail
            refine (HWB.out c1).mono ?_
            rintro e w' ⟨rfl, h3⟩
            go_wp2
            exact ⟨FIN.out [c1] (k + 1 + 1) w' (by omega) (by omega) (by simp) h3, by simp [intOf]; omega⟩
        · go_wp2_with fail
          refine (HWB.out 92).mono ?_
          rintro e w' ⟨rfl, h3⟩
          go_wp2
          exact ⟨FIN.out [92] (k + 1) w' (by omega) (by omega) (by simp) h3, by simp [intOf]; omega⟩
      · have e92 : ((c.toNat : Int) == 92) = false := u8_ne (b := 92) h92
        by_cases h38 : c = 38
        · subst h38
          go_wp2_with fail
          go_loopw [7] (fun i wx => ∃ j : Nat, k + 1 ≤ j ∧ j ≤ s.length ∧ i = .int .i64 j ∧ wr = wx) (fun i _ => s.length - (intOf i).toNat)
          case atStart => exact ⟨k + 1, Nat.le_refl _, by omega, rfl, rfl⟩
          case round =>
            obtain ⟨j, hj1, hj2, rfl, rfl⟩ := hrel
            by_cases hjl : j < s.length
            · generalize hcj : s[j] = cj
              have hixj : ∀ h, (B.bs s)[j]'h = cj := fun _ => hcj
              by_cases h59 : cj = 59
              · subst h59
                have hjj : (j : Int) + 1 ≤ s.length := by omega
                go_wp2_with fail
                refine (htmlEntity_w _ wr hEw).mono ?_
                rintro e w' ⟨⟨r, ok, rfl, hr⟩, rfl⟩
                cases ok
                · go_wp2_with fail
                  refine (HWB.out 38).mono ?_
                  rintro e w' ⟨rfl, h3⟩
                  go_wp2
                  exact ⟨FIN.out [38] (k + 1) w' (by omega) (by omega) (by simp) h3, by simp [intOf]; omega⟩
                · obtain ⟨hr1, hr2⟩ := hr rfl
                  go_wp2_with fail
                  refine (bldStr_w b out r wr F hr1 (by omega) HS.out).mono ?_
                  rintro e w' ⟨rfl, h3⟩
                  go_wp2
                  exact ⟨FIN.out r (j + 1) w' (by omega) (by omega) hr2 h3, by simp [intOf]; omega⟩
              · have e59 : ((cj.toNat : Int) == 59) = false := u8_ne (b := 59) h59
                have e59b : ((cj.toNat : Int) != 59) = true := by simp only [bne, e59]; rfl
                go_wp2
                exact ⟨⟨j + 1, by omega, by omega, by first | rfl | go_num, trivial⟩, by simp [intOf]; omega⟩
            · obtain rfl : j = s.length := by omega
              go_wp2_with fail
              refine (HWB.out 38).mono ?_
              rintro e w' ⟨rfl, h3⟩
              go_wp2
              exact ⟨FIN.out [38] (k + 1) w' (by omega) (by omega) (by simp) h3, by simp [intOf]; omega⟩
        · have e38 : ((c.toNat : Int) == 38) = false := u8_ne (b := 38) h38
          go_wp2_with fail
          refine (HWB.out c).mono ?_
          rintro e w' ⟨rfl, h3⟩
          go_wp2
          exact ⟨FIN.out [c] (k + 1) w' (by omega) (by omega) (by simp) h3, by simp [intOf]; omega⟩
    · have hke : k = s.length := by omega
      have hbs := bldString_w b out wr F (by omega) hsw
      have hnil : s = [] → out = [] := fun e => List.eq_nil_of_length_eq_zero (by subst e; simp at hk; omega)
      have HBS := Lib.hid hbs
      have HNIL := Lib.hid hnil
      have HOL := Lib.hid hol
      clear hbs hnil hol hsw hE H2
      subst hke
      go_wp2_with fail
      refine HBS.out.mono ?_
      rintro e w' ⟨rfl, h3⟩
      have H3 := Lib.hid h3
      clear h3
      go_wp2
      go_ret
      exact ⟨⟨out, rfl, HNIL.out, HOL.out⟩, H3.out⟩

end Go.Proofs.YtmdabdpghcjplaaGreatDoor
