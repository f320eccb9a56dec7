/- The text of FnFenceLonger, in plain Lean. -/
import Derived.Test.YtmdabdpghcjplaaGreatDoorFd
import Derived.Test.YtmdabdpghcjplaaGreatDoorIy
namespace Go.Proofs.YtmdabdpghcjplaaGreatDoor
open Go.RowKit

/-- The lines between line feeds. -/
def splitLF : List UInt8 → List (List UInt8)
  | [] => [[]]
  | c :: t => if c = 10 then [] :: splitLF t else match splitLF t with
    | [] => [[c]]
    | a :: b => (c :: a) :: b

theorem splitLF_ne : ∀ s, splitLF s ≠ []
  | [] => by simp [splitLF]
  | c :: t => by
    unfold splitLF
    split
    · simp
    · split <;> simp

def flatLF (ts : List (List UInt8)) : List UInt8 := ts.flatMap (· ++ [10])

theorem splitLF_flat : ∀ s, flatLF (splitLF s) = s ++ [10]
  | [] => rfl
  | c :: t => by
    have ih := splitLF_flat t
    have hne := splitLF_ne t
    unfold splitLF
    by_cases hc : c = 10
    · rw [if_pos hc, hc]
      show [] ++ [10] ++ flatLF (splitLF t) = _
      rw [ih]; rfl
    · rw [if_neg hc]
      cases h : splitLF t with
      | nil => exact absurd h hne
      | cons a b =>
        rw [h] at ih
        show (c :: a) ++ [10] ++ flatLF b = _
        have ih2 : a ++ [10] ++ flatLF b = t ++ [10] := ih
        rw [List.cons_append, List.cons_append, ih2]; rfl

theorem splitLF_mem : ∀ (s : List UInt8) (t : List UInt8), t ∈ splitLF s → (10 : UInt8) ∉ t ∧ (∀ c ∈ t, c ∈ s) ∧ t.length ≤ s.length
  | [], t, h => by
    simp [splitLF] at h
    subst h; simp
  | c :: r, t, h => by
    unfold splitLF at h
    by_cases hc : c = 10
    · rw [if_pos hc] at h
      rcases List.mem_cons.1 h with rfl | h
      · simp
      · obtain ⟨h1, h2, h3⟩ := splitLF_mem r t h
        exact ⟨h1, fun x hx => List.mem_cons_of_mem _ (h2 x hx), by simp; omega⟩
    · rw [if_neg hc] at h
      cases e : splitLF r with
      | nil => exact absurd e (splitLF_ne r)
      | cons a b =>
        rw [e] at h
        simp only at h
        rcases List.mem_cons.1 h with rfl | h
        · obtain ⟨h1, h2, h3⟩ := splitLF_mem r a (by rw [e]; simp)
          refine ⟨?_, ?_, by simp; exact h3⟩
          · simp only [List.mem_cons, not_or]; exact ⟨fun e => hc e.symm, h1⟩
          · intro x hx
            rcases List.mem_cons.1 hx with rfl | hx
            · simp
            · exact List.mem_cons_of_mem _ (h2 x hx)
        · obtain ⟨h1, h2, h3⟩ := splitLF_mem r t (by rw [e]; exact List.mem_cons_of_mem _ h)
          exact ⟨h1, fun x hx => List.mem_cons_of_mem _ (h2 x hx), by simp; omega⟩

theorem splitLF_len : ∀ s, (splitLF s).length ≤ s.length + 1
  | [] => by simp [splitLF]
  | c :: t => by
    have ih := splitLF_len t
    unfold splitLF
    split
    · simp; omega
    · split
      · simp
      · next a b h => rw [h] at ih; simp at ih ⊢; omega

theorem lines_flat : ∀ (ts : List (List UInt8)), (∀ t ∈ ts, (10 : UInt8) ∉ t ∧ (13 : UInt8) ∉ t) → B.lines (flatLF ts) = ts.map fun t => (t, 10)
  | [], _ => B.lines_nil
  | a :: r, h => by
    have ha := h a (by simp)
    have ih := lines_flat r fun x hx => h x (List.mem_cons_of_mem _ hx)
    have e : flatLF (a :: r) = a ++ 10 :: flatLF r := by
      show a ++ [10] ++ flatLF r = _
      simp
    have h13 : (13 : UInt8) ∉ a ++ 10 :: flatLF r := by
      intro hc
      rcases List.mem_append.1 hc with hc | hc
      · exact ha.2 hc
      · rcases List.mem_cons.1 hc with hc | hc
        · exact absurd hc (by decide)
        · obtain ⟨t, ht, hc⟩ := List.mem_flatMap.1 hc
          rcases List.mem_append.1 hc with hc | hc
          · exact (h t (List.mem_cons_of_mem _ ht)).2 hc
          · simp at hc
    have hn : B.nextLine (a ++ 10 :: flatLF r) = ((a, 10), flatLF r) := by
      unfold B.nextLine
      rw [B.idx_none h13, B.idx_at ha.1, if_neg (by omega), if_pos (by omega)]
      simp
    rw [e, B.lines_cons (by simp), hn, ih]; rfl

/-- The text of the law. -/
def fenceTxt (k k' : Nat) (s : List UInt8) : List UInt8 := List.replicate k 126 ++ [10] ++ s ++ [10] ++ List.replicate k' 126 ++ [10]

theorem fenceTxt_eq (k k' : Nat) (s : List UInt8) : fenceTxt k k' s = flatLF (List.replicate k 126 :: (splitLF s ++ [List.replicate k' 126])) := by
  show _ = List.replicate k 126 ++ [10] ++ flatLF (splitLF s ++ [List.replicate k' 126])
  have : flatLF (splitLF s ++ [List.replicate k' 126]) = flatLF (splitLF s) ++ (List.replicate k' 126 ++ [10]) := by
    unfold flatLF
    rw [List.flatMap_append]; simp
  rw [this, splitLF_flat]
  unfold fenceTxt
  simp

theorem codeLines_len : ∀ (ts : List (List UInt8)) (m : Nat), (∀ t ∈ ts, t.length ≤ m) → (codeLines ts).length ≤ (6 * m + 1) * ts.length
  | [], _, _ => Nat.zero_le _
  | a :: r, m, h => by
    have ih := codeLines_len r m fun t ht => h t (List.mem_cons_of_mem _ ht)
    have h1 := html_esc_len a
    have h2 := h a (by simp)
    show (htmlPairs.esc a ++ [10] ++ codeLines r).length ≤ _
    have e : (a :: r).length = r.length + 1 := rfl
    rw [List.length_append, List.length_append, e, Nat.mul_succ]
    have e2 : ([10] : List UInt8).length = 1 := rfl
    omega

theorem fenceTxt_prints (k k' : Nat) (s : List UInt8) (G0 : Sl.HP) (hG : Tabled G0) (h3 : 3 ≤ k) (hkk : k ≤ k') (hk2 : k' ≤ 1000) (hs : s.length ≤ 500) (hc : ∀ c ∈ s, c = 10 ∨ (32 ≤ c ∧ c ≤ 125)) :
    PrintsG G0 (B.bs (fenceTxt k k' s)) (B.bs (codeHTML (splitLF s))) := by
  have hch : ∀ c ∈ s, c ≠ 13 ∧ c ≠ 126 ∧ c ≠ 0 := by
    intro c hm
    rcases hc c hm with rfl | ⟨h1, h2⟩
    · decide
    · have a1 : 32 ≤ c.toNat := h1
      have a2 : c.toNat ≤ 125 := h2
      refine ⟨?_, ?_, ?_⟩ <;> (rintro rfl; simp at a1 a2)
  have hlen : (codeHTML (splitLF s)).length ≤ 1000000000000 := by
    have h1 := codeLines_len (splitLF s) 500 (fun t ht => by have := (splitLF_mem s t ht).2.2; omega)
    have h2 := splitLF_len s
    unfold codeHTML
    simp only [List.length_append, List.length_singleton]
    have e1 : codeHead.length = 10 := rfl
    have e2 : codeFoot.length = 14 := rfl
    omega
  refine fence_prints (fenceTxt k k' s) k k' (splitLF s) G0 hG ⟨?_, h3, hkk, by omega, ?_, ?_⟩ ?_ ?_ hlen
  · rw [fenceTxt_eq, lines_flat]
    · simp
    · intro t ht
      rcases List.mem_cons.1 ht with rfl | ht
      · exact ⟨fun h => absurd (List.eq_of_mem_replicate h) (by decide), fun h => absurd (List.eq_of_mem_replicate h) (by decide)⟩
      · rcases List.mem_append.1 ht with ht | ht
        · obtain ⟨h1, h2, _⟩ := splitLF_mem s t ht
          exact ⟨h1, fun h => (hch _ (h2 _ h)).1 rfl⟩
        · obtain rfl : t = List.replicate k' 126 := by simpa using ht
          exact ⟨fun h => absurd (List.eq_of_mem_replicate h) (by decide), fun h => absurd (List.eq_of_mem_replicate h) (by decide)⟩
  · intro t ht
    obtain ⟨h1, h2, h4⟩ := splitLF_mem s t ht
    exact ⟨fun h => (hch _ (h2 _ h)).2.1 rfl, by omega⟩
  · have := splitLF_len s; omega
  · unfold fenceTxt
    simp only [List.length_append, List.length_replicate, List.length_singleton]
    omega
  · unfold fenceTxt
    intro h
    simp only [List.mem_append, List.mem_singleton, List.mem_replicate] at h
    rcases h with ((((h | h) | h) | h) | h) | h
    · exact absurd h.2 (by decide)
    · exact absurd h (by decide)
    · exact (hch _ h).2.2 rfl
    · exact absurd h (by decide)
    · exact absurd h.2 (by decide)
    · exact absurd h (by decide)

theorem alpha_mem {c : UInt8} (h : c ∈ alphaTo 126 95) : 32 ≤ c ∧ c ≤ 125 := by
  unfold alphaTo at h
  rw [List.mem_filter] at h
  obtain ⟨h1, h2⟩ := h
  obtain ⟨i, hi, rfl⟩ := List.mem_map.1 h1
  rw [List.mem_range] at hi
  have e : ((32 + i).toUInt8).toNat = 32 + i := by simp; omega
  have hne : i ≠ 94 := by
    rintro rfl
    simp at h2
  constructor
  · rw [UInt8.le_iff_toNat_le, e]; simp
  · rw [UInt8.le_iff_toNat_le, e]; simp; omega

end Go.Proofs.YtmdabdpghcjplaaGreatDoor

/- The law FnFenceLonger: its walk. -/
namespace Go.Proofs.YtmdabdpghcjplaaGreatDoor
open Go.RowKit Sl

theorem Ents.below {W w : World} (h : Ents W) (hb : Below W.heap.size W w) : Ents w := by
  intro i hi
  obtain ⟨a, b, h1, h2, h3, h4⟩ := h i hi
  exact ⟨a, b, (hb.cell (p := ⟨1, i * 2, none⟩) (World.block_lt_of_cell? W _ h1)).trans h1, (hb.cell (p := ⟨1, i * 2 + 1, none⟩) (World.block_lt_of_cell? W _ h2)).trans h2, h3, h4⟩

theorem tabled_old {W : World} (h : Ents W) : Tabled (Sl.old W) := fun _w F hs => h.below (Sat.below (P := F) (hs.cast (star_comm _ _)))

theorem add_bs (x y : List UInt8) (w : World) (h : x.length + y.length ≤ 1000000000) : (Op.stringOp .add (B.bs x) (B.bs y)).run Tryz.prog w = .ok (.string (B.bs (x ++ y))) w := by
  have := run_string_add_sum (P := Tryz.prog) w (B.bs x) (B.bs y) (by rw [B.bs_size, B.bs_size]; omega)
  rw [B.append] at this
  exact this

set_option maxRecDepth 100000 in
set_option maxHeartbeats 2000000 in
theorem FnFenceLonger_w (s : List UInt8) (more still : Nat) (W : World) (hm : more < 256) (hst : still < 256) (hs : s.length ≤ 9223372036854775807) (hE : Ents W) :
    Calls Tryz.prog 5 #[.string (B.bs s), .int .u8 more, .int .u8 still] W fun e w' => e = .returned (.bool true) ∧ Below W.heap.size W w' := by
  have hz : (B.bs s).size = s.length := rfl
  by_cases hbig : 2147483647 < s.length
  · go_enter Tryz.func5, Tryz.ntmps5
    go_wp2
    all_goals
      go_ret
      exact ⟨rfl, Below.refl _ _⟩
  have hd1 : decide (2147483647 < s.length) = false := by simp; omega
  have hG := tabled_old hE
  have hadd0 : ∀ w, (Op.stringOp .add (B.bs (alphaTo 126 95)) ⟨#[10]⟩).run Tryz.prog w = .ok (.string (B.bs (alphaTo 126 95 ++ [10]))) w := fun w => add_bs _ [10] w (by have := alphaTo_len 126 95; simp; omega)
  have hmem : ∀ c, (B.bs (alphaTo 126 95 ++ [10])).data.toList.contains c = true → c = 10 ∨ (32 ≤ c ∧ c ≤ 125) := by
    intro c h
    rw [B.bs_data, List.contains_iff_mem, List.mem_append] at h
    rcases h with h | h
    · exact .inr (alpha_mem h)
    · exact .inl (by simpa using h)
  have hw := only_w s (B.bs (alphaTo 126 95 ++ [10])) 500
  have HW := Lib.hid hw
  have HM := Lib.hid hmem
  clear hw hmem hE
  go_enter Tryz.func5, Tryz.ntmps5
  go_wp2_with fail
  refine (withoutByte_w 126 W _ (Sat.old W)).mono ?_
  rintro e w1 ⟨rfl, so⟩
  have hb1 : Below W.heap.size W w1 := Sat.below (P := Sl.emp) (so.cast (emp_star _).symm)
  generalize alphaTo 126 95 = al at *
  generalize B.bs (al ++ [10]) = alb at *
  go_wp2_with fail
  refine (HW.out w1 (by decide) (by omega)).mono ?_
  rintro e w' ⟨rfl, rfl⟩
  cases hok : (decide (s.length ≤ 500) && s.all fun c => alb.data.toList.contains c)
  · go_wp2
    go_ret
    exact ⟨rfl, hb1⟩
  rw [Bool.and_eq_true, decide_eq_true_eq, List.all_eq_true] at hok
  obtain ⟨hl, hall⟩ := hok
  have hch : ∀ c ∈ s, c = 10 ∨ (32 ≤ c ∧ c ≤ 125) := fun c hc => HM.out c (hall c hc)
  obtain ⟨r, hr1, hr2⟩ : ∃ r : Nat, (more : Int) % 20 = (r : Int) ∧ r = more % 20 := ⟨_, by omega, rfl⟩
  obtain ⟨j, hj1, hj2⟩ : ∃ j : Nat, (still : Int) % 20 = (j : Int) ∧ j = still % 20 := ⟨_, by omega, rfl⟩
  have hr : r < 20 := by omega
  have hj : j < 20 := by omega
  have hP1 := fenceTxt_prints (3 + r) (3 + r + j) s (Sl.old W) hG (by omega) (by omega) (by omega) hl hch
  have hP2 := fenceTxt_prints 3 3 s (Sl.old W) hG (by omega) (by omega) (by omega) hl hch
  have hne : (B.bs (codeHTML (splitLF s))).toList.isEmpty = false := by
    rw [Lib.toList_data, B.bs_data]; rfl
  generalize B.bs (codeHTML (splitLF s)) = out at hP1 hP2 hne
  have ht := fun n w hn => times1_w 126 ⟨#[126]⟩ rfl n w hn
  have HT := Lib.hid ht
  have a1 : ∀ w, (Op.stringOp .add (B.bs (List.replicate (3 + r) 126)) ⟨#[10]⟩).run Tryz.prog w = .ok (.string (B.bs (List.replicate (3 + r) 126 ++ [10]))) w := fun w => add_bs _ [10] w (by simp; omega)
  have a2 : ∀ w, (Op.stringOp .add (B.bs (List.replicate (3 + r) 126 ++ [10])) (B.bs s)).run Tryz.prog w = .ok (.string (B.bs (List.replicate (3 + r) 126 ++ [10] ++ s))) w := fun w => add_bs _ _ w (by simp; omega)
  have a3 : ∀ w, (Op.stringOp .add (B.bs (List.replicate (3 + r) 126 ++ [10] ++ s)) ⟨#[10]⟩).run Tryz.prog w = .ok (.string (B.bs (List.replicate (3 + r) 126 ++ [10] ++ s ++ [10]))) w := fun w => add_bs _ [10] w (by simp; omega)
  have a4 : ∀ w, (Op.stringOp .add (B.bs (List.replicate (3 + r) 126 ++ [10] ++ s ++ [10])) (B.bs (List.replicate (3 + r) 126))).run Tryz.prog w = .ok (.string (B.bs (List.replicate (3 + r) 126 ++ [10] ++ s ++ [10] ++ List.replicate (3 + r) 126))) w := fun w => add_bs _ _ w (by simp; omega)
  have a5 : ∀ w, (Op.stringOp .add (B.bs (List.replicate (3 + r) 126 ++ [10] ++ s ++ [10] ++ List.replicate (3 + r) 126)) (B.bs (List.replicate j 126))).run Tryz.prog w = .ok (.string (B.bs (List.replicate (3 + r) 126 ++ [10] ++ s ++ [10] ++ List.replicate (3 + r + j) 126))) w := fun w => by
    have := add_bs (List.replicate (3 + r) 126 ++ [10] ++ s ++ [10] ++ List.replicate (3 + r) 126) (List.replicate j 126) w (by simp; omega)
    rw [this, List.append_assoc _ (List.replicate (3 + r) 126), List.replicate_append_replicate]
  have a6 : ∀ w, (Op.stringOp .add (B.bs (List.replicate (3 + r) 126 ++ [10] ++ s ++ [10] ++ List.replicate (3 + r + j) 126)) ⟨#[10]⟩).run Tryz.prog w = .ok (.string (B.bs (fenceTxt (3 + r) (3 + r + j) s))) w := fun w => add_bs _ [10] w (by simp; omega)
  have b1 : ∀ w, (Op.stringOp .add ⟨#[126, 126, 126, 10]⟩ (B.bs s)).run Tryz.prog w = .ok (.string (B.bs ([126, 126, 126, 10] ++ s))) w := fun w => add_bs [126, 126, 126, 10] _ w (by simp; omega)
  have b2 : ∀ w, (Op.stringOp .add (B.bs ([126, 126, 126, 10] ++ s)) ⟨#[10, 126, 126, 126, 10]⟩).run Tryz.prog w = .ok (.string (B.bs (fenceTxt 3 3 s))) w := fun w => by
    have := add_bs ([126, 126, 126, 10] ++ s) [10, 126, 126, 126, 10] w (by simp; omega)
    rw [show [126, 126, 126, 10] ++ s ++ [10, 126, 126, 126, 10] = fenceTxt 3 3 s by simp [fenceTxt, List.replicate]] at this
    exact this
  generalize fenceTxt 3 3 s = T2 at *
  generalize fenceTxt (3 + r) (3 + r + j) s = T1 at *
  generalize List.replicate (3 + r) 126 ++ [10] ++ s ++ [10] ++ List.replicate (3 + r + j) 126 = x5 at *
  generalize List.replicate (3 + r) 126 ++ [10] ++ s ++ [10] ++ List.replicate (3 + r) 126 = x4 at *
  generalize List.replicate (3 + r) 126 ++ [10] ++ s ++ [10] = x3 at *
  generalize List.replicate (3 + r) 126 ++ [10] ++ s = x2 at *
  generalize List.replicate (3 + r) 126 ++ [10] = x1 at *
  generalize [126, 126, 126, 10] ++ s = y1 at *
  have HP1 := Lib.hid hP1
  have HP2 := Lib.hid hP2
  clear hP1 hP2 hch hall hr2 hj2 hG ht HW HM
  go_wp2_with fail
  refine (HT.out (3 + r) w1 (by omega)).mono ?_
  rintro e w' ⟨rfl, rfl⟩
  generalize List.replicate (3 + r) 126 = F1 at *
  go_wp2_with fail
  refine (HT.out j w1 (by omega)).mono ?_
  rintro e w' ⟨rfl, rfl⟩
  go_wp2_with fail
  refine (HTMLG_b plainO rfl _ _ w1 W hb1 HP1.out).mono ?_
  rintro e w2 ⟨rfl, hb2⟩
  go_wp2_with fail
  refine (HTMLG_b plainO rfl _ _ w2 W hb2 HP2.out).mono ?_
  rintro e w3 ⟨rfl, hb3⟩
  go_wp2
  go_ret
  exact ⟨rfl, hb3⟩

end Go.Proofs.YtmdabdpghcjplaaGreatDoor
