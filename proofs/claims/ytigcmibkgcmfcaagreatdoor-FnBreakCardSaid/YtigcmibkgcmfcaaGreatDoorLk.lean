/- The law FnBreak: its walk, where it is known what HTML makes of a break. -/
import Derived.Test.YtigcmibkgcmfcaaGreatDoorTm
import Derived.Test.YtigcmibkgcmfcaaGreatDoorKb
import Derived.Test.YtigcmibkgcmfcaaGreatDoorTop
import Derived.Deep.OwnRows
namespace Go.Proofs.YtigcmibkgcmfcaaGreatDoor
open Go.RowKit Sl

def hrOut : ByteArray := ⟨#[60, 104, 114, 32, 47, 62, 10]⟩
def markOf (x : Nat) : UInt8 := if x % 3 = 0 then 42 else if x % 3 = 1 then 45 else 95
def gaps (len : Nat) (zs : List Int) (n : Nat) : List Nat := (List.range n).map fun i => if i < len then (zs.getD i 0 % 5).toNat else 0

theorem gaps_succ (len : Nat) (zs : List Int) (n : Nat) : gaps len zs (n + 1) = gaps len zs n ++ [if n < len then (zs.getD n 0 % 5).toNat else 0] := by
  unfold gaps; rw [List.range_succ, List.map_append]; rfl
theorem marks_append (c : UInt8) (a b : List Nat) : marks c (a ++ b) = marks c a ++ marks c b := by unfold marks; rw [List.flatMap_append]
theorem gaps_length (len : Nat) (zs : List Int) (n : Nat) : (gaps len zs n).length = n := by simp [gaps]
theorem marks_length (c : UInt8) (ks : List Nat) (h : ∀ k ∈ ks, k ≤ 4) : (marks c ks).length ≤ 5 * ks.length := by
  induction ks with
  | nil => exact Nat.zero_le _
  | cons k ks ih =>
    rw [marks_cons]
    have h1 := h k (by simp)
    have h2 := ih fun j hj => h j (by simp [hj])
    simp
    omega

theorem gaps_le (len : Nat) (zs : List Int) (n : Nat) : ∀ k ∈ gaps len zs n, k ≤ 4 := by
  intro k hk
  unfold gaps at hk
  obtain ⟨i, _, rfl⟩ := List.mem_map.1 hk
  split <;> omega

theorem brk_of (x n len : Nat) (zs : List Int) : Brk (x / 3 % 4) (markOf x) (gaps len zs (3 + n % 40)) where
  hk := by omega
  hc := by unfold markOf; split; exact .inl rfl; split; exact .inr (.inl rfl); exact .inr (.inr rfl)
  n := by rw [gaps_length]; omega
  size := by
    have := marks_length (markOf x) _ (gaps_le len zs (3 + n % 40))
    rw [gaps_length] at this
    unfold brk
    rw [List.length_append, List.length_replicate]
    omega

set_option maxRecDepth 100000 in
set_option maxHeartbeats 2000000 in
theorem FnBreak_w (hP : ∀ k c ks, Brk k c ks → Prints (B.bs (brk k c ks)) hrOut) (x n : Nat) (hx : x < 256) (hn : n < 256) (a : Option Addr) (len cap : Nat) (zs : List Int) (W : World) (hlen : len ≤ 9223372036854775807)
    (hc : ∀ i, i < len → ∃ b off, a = some ⟨b, off, none⟩ ∧ W.cell? ⟨b, off + i, none⟩ = some (.int .u8 (zs.getD i 0)) ∧ 0 ≤ zs.getD i 0 ∧ zs.getD i 0 ≤ 255) :
    Calls Tryz.prog 3 #[.int .u8 x, .int .u8 n, .slice a len cap] W fun e w' => e = .returned (.bool true) ∧ Below W.heap.size W w' := by
  by_cases h1 : 60 < len
  · go_enter Tryz.func3, Tryz.ntmps3
    go_wp2
    all_goals
      go_ret
      exact ⟨rfl, Below.refl _ _⟩
  · have hd1 : decide ((2147483647 : Int) < (len : Int)) = false := by simp; omega
    have hd2 : decide ((60 : Int) < (len : Int)) = false := by simp; omega
    obtain ⟨q, hq1, hq2⟩ : ∃ q : Nat, (x : Int) / 3 % 4 = (q : Int) ∧ q = x / 3 % 4 := ⟨_, by omega, rfl⟩
    obtain ⟨r, hr1, hr2⟩ : ∃ r : Nat, (n : Int) % 40 = (r : Int) ∧ r = n % 40 := ⟨_, by omega, rfl⟩
    have hm : ((x : Int) % 3 = 0 ∧ (⟨#[42, 45, 95]⟩ : ByteArray).extract 0 1 = B.bs [markOf x]) ∨ ((x : Int) % 3 = 1 ∧ (⟨#[42, 45, 95]⟩ : ByteArray).extract 1 2 = B.bs [markOf x]) ∨ ((x : Int) % 3 = 2 ∧ (⟨#[42, 45, 95]⟩ : ByteArray).extract 2 3 = B.bs [markOf x]) := by
      have : x % 3 = 0 ∨ x % 3 = 1 ∨ x % 3 = 2 := by omega
      rcases this with h | h | h
      · exact .inl ⟨by omega, by simp [markOf, h]; rfl⟩
      · exact .inr (.inl ⟨by omega, by simp [markOf, h]; rfl⟩)
      · exact .inr (.inr ⟨by omega, by simp [markOf, h]; rfl⟩)
    have hbrk := brk_of x n len zs
    rw [← hq2, ← hr2] at hbrk
    have hr : r < 40 := by omega
    have hq : q < 4 := by omega
    clear hq2 hr2
    have HP := Lib.hid (hP _ _ _ hbrk)
    clear hP hbrk
    have ht := fun n w hn => times1_w 32 ⟨#[32]⟩ rfl n w hn
    generalize markOf x = c at *
    have h0 : B.bs (List.replicate q 32) = B.bs (brk q c (gaps len zs 0)) := by simp [brk, gaps, marks]
    have hsz : ∀ k, k ≤ 50 → (brk q c (gaps len zs k)).length ≤ 300 := by
      intro k hk
      have := marks_length c _ (gaps_le len zs k)
      rw [gaps_length] at this
      unfold brk
      rw [List.length_append, List.length_replicate]
      omega
    have hs1 : ∀ k, brk q c (gaps len zs k) ++ [c] ++ List.replicate (if k < len then (zs.getD k 0 % 5).toNat else 0) 32 = brk q c (gaps len zs (k + 1)) := by
      intro k
      rw [gaps_succ]
      unfold brk
      rw [marks_append]
      simp [marks]
    have HS := Lib.hid hs1
    clear hs1
    rcases hm with ⟨hm, hex⟩ | ⟨hm, hex⟩ | ⟨hm, hex⟩
    all_goals
      go_enter Tryz.func3, Tryz.ntmps3
      go_wp2_with fail
      refine (ht q W (by omega)).mono ?_
      rintro e w' ⟨rfl, rfl⟩
      rw [h0]
      go_wp2_with fail
      go_loopw [8, 31] (fun t i wr => ∃ k : Nat, k ≤ 3 + r ∧ i = .int .i64 k ∧ t = .string (B.bs (brk q c (gaps len zs k))) ∧ W = wr) (fun _ i _ => 3 + r - (intOf i).toNat)
      case atStart => exact ⟨0, Nat.zero_le _, rfl, rfl, rfl⟩
      case round =>
        obtain ⟨k, hk, rfl, rfl, rfl⟩ := hrel
        by_cases hlt : k < 3 + r
        · have hz := hsz k (by omega)
          have hadd := run_string_add_sum (P := Tryz.prog) W (B.bs (brk q c (gaps len zs k))) (B.bs [c]) (by rw [B.bs_size, B.bs_size]; simp; omega)
          rw [B.append] at hadd
          have hs2 := HS.out k
          by_cases hkl : k < len
          · obtain ⟨b, off, rfl, hcell, hlo, hhi⟩ := hc k hkl
            rw [if_pos hkl] at hs2
            have hzk : zs.getD k 0 = zs[k]?.getD 0 := by simp
            rw [hzk] at hcell hlo hhi hs2
            generalize hz : zs[k]?.getD 0 = z at hcell hlo hhi hs2
            obtain ⟨s, hs3, hs4⟩ : ∃ s : Nat, z % 5 = (s : Int) ∧ s = (z % 5).toNat := ⟨_, by omega, rfl⟩
            have hs5 : s < 5 := by omega
            rw [← hs4] at hs2
            clear hz hzk hs4 hc
            have hadd2 := run_string_add_sum (P := Tryz.prog) W (B.bs (brk q c (gaps len zs k) ++ [c])) (B.bs (List.replicate s 32)) (by rw [B.bs_size, B.bs_size]; simp; omega)
            rw [B.append, hs2] at hadd2
            go_wp2_with fail
            refine (ht s W (by omega)).mono ?_
            rintro e w' ⟨rfl, rfl⟩
            go_wp2
            go_roundw
            case rel =>
              try simp only [hr1]
              (repeat apply Exists.intro)
              exact ⟨⟨k + 1, by omega, by go_num, rfl, trivial⟩, rfl⟩
            case measure => simp [intOf]; omega
          · rw [if_neg hkl, List.replicate_zero, List.append_nil] at hs2
            rw [hs2] at hadd
            go_wp2
            go_roundw
            case rel =>
              exact ⟨k + 1, by omega, by go_num, by simp⟩
            case measure => simp [intOf]; omega
        · obtain rfl : k = 3 + r := by omega
          go_wp2_with fail
          refine (plain_w W).mono ?_
          rintro e w1 ⟨rfl, hb1⟩
          go_wp2_with fail
          refine (HTML_b plainO rfl _ _ HP.out w1).mono ?_
          rintro e w2 ⟨rfl, hb2⟩
          unfold hrOut
          go_wp2
          go_ret
          exact ⟨rfl, hb1.trans (hb2.mono hb1.size)⟩

end Go.Proofs.YtigcmibkgcmfcaaGreatDoor
