/- The chain of starters: what addLine does with a line behind the blocks that go on. -/
import Derived.Test.YtigcmibkgcmfcaaGreatDoorN9
import Derived.ScopeJumps
namespace Go.Proofs.YtigcmibkgcmfcaaGreatDoor
open Go.RowKit Sl

theorem least {p : Nat → Prop} (h : ∃ n, p n) : ∃ n, p n ∧ ∀ m, p m → n ≤ m := by
  obtain ⟨n, hn⟩ := h
  induction n using Nat.strongRecOn with
  | _ n ih =>
    by_cases hm : ∃ m, m < n ∧ p m
    · obtain ⟨m, hm, hp⟩ := hm
      exact ih m hm hp
    · exact ⟨n, hn, fun m hp => Nat.le_of_not_lt fun hlt => hm ⟨m, hlt, hp⟩⟩

open Classical in
noncomputable def leastOf (p : Nat → Prop) : Nat := if h : ∃ n, p n then (least h).choose else 0
theorem leastOf_spec {p : Nat → Prop} (h : ∃ n, p n) : p (leastOf p) ∧ ∀ m, p m → leastOf p ≤ m := by
  unfold leastOf
  rw [dif_pos h]
  exact (least h).choose_spec

/-- A scope with one label, and what holds at each jump under a count that every pass lowers. -/
theorem wp_scope_counted {P : Program} {a : Act} {w : World} {Q : Exit → Act → World → Prop} {c rest : Code} (l : Nat) (J : Nat → Act → World → Prop) (hf : findLabel c l = some rest)
    (first : c.wp P (Exit.jump l (fun a w => ∃ n, J n a w) Q) a w)
    (pass : ∀ n a w, J n a w → rest.wp P (Exit.jump l (fun a' w' => ∃ m, m < n ∧ J m a' w') Q) a w) : (Code.scope c).wp P Q a w := by
  refine wp_scope_jumps l (fun a w => ∃ n, J n a w) (fun a w => leastOf fun n => J n a w) hf first fun a w hJ => ?_
  obtain ⟨h1, h2⟩ := leastOf_spec hJ
  refine wp_mono (pass _ a w h1) ?_
  intro e a' w' he
  cases e with
  | goto l' =>
    obtain ⟨hl, m, hm, hj⟩ := he
    exact ⟨hl, ⟨m, hj⟩, Nat.lt_of_le_of_lt ((leastOf_spec ⟨m, hj⟩).2 m hj) hm⟩
  | _ => exact he

/-- The same, where the way from the scope's beginning may come to the label by itself. -/
theorem wp_scope_label {P : Program} {a : Act} {w : World} {Q : Exit → Act → World → Prop} {c R : Code} (l : Nat) (J : Nat → Act → World → Prop) (hf : findLabel c l = some (Code.skip.seq R))
    (key : ∀ n a w, J n a w → R.wp P (Exit.jump l (fun a' w' => ∃ m, m < n ∧ J m a' w') Q) a w)
    (first : (∀ n a w, J n a w → R.wp P (Exit.jump l (fun a w => ∃ n, J n a w) Q) a w) → c.wp P (Exit.jump l (fun a w => ∃ n, J n a w) Q) a w) : (Code.scope c).wp P Q a w := by
  refine wp_scope_counted l J hf (first fun n a w hJ => wp_mono (key n a w hJ) ?_) fun n a w hJ => wp_seq (wp_skip (key n a w hJ))
  intro e a' w' he
  cases e with
  | goto l' =>
    obtain ⟨hl, m, _, hj⟩ := he
    exact ⟨hl, m, hj⟩
  | _ => exact he

/-- The starters, in their order. -/
def starter : Nat → FuncId
  | 0 => 83
  | 1 => 84
  | 2 => 85
  | 3 => 86
  | 4 => 87
  | 5 => 88
  | 6 => 89
  | _ => 90

def Not (p : Nat) (S : HP) (k : Nat) (l : Ln) : Prop := ∀ w F, Sat w (S * F) → Calls Tryz.prog (starter k) #[.pointer (some ⟨p, 0, none⟩), l.agg] w fun e w' => e = .returned (.tuple #[l.agg, .bool false]) ∧ Sat w' (S * F)
def Does (p : Nat) (S S' : HP) (k : Nat) (l l' : Ln) : Prop := ∀ w F, Sat w (S * F) → Calls Tryz.prog (starter k) #[.pointer (some ⟨p, 0, none⟩), l.agg] w fun e w' => e = .returned (.tuple #[l'.agg, .bool true]) ∧ Sat w' (S' * F)
/-- A state, and the same with lineDepth one more. -/
def Deeper (p : Nat) (S S' : HP) : Prop := ∀ w F, Sat w (S * F) → ∃ (x : PSt) (R : HP), -1 ≤ x.depth ∧ x.depth ≤ 1000000000 ∧ Sat w (row p 92 x.cells * R) ∧ ∀ w', Sat w' (row p 92 { x with depth := x.depth + 1 }.cells * R) → Sat w' (S' * F)
def Para (p : Nat) (S S' : HP) (l : Ln) : Prop := ∀ w F, Sat w (S * F) → Calls Tryz.prog 60 #[.pointer (some ⟨p, 0, none⟩), l.agg] w fun e w' => (∃ v, e = .returned v) ∧ Sat w' (S' * F)

/-- What comes of a line behind the blocks that go on: n blocks are begun in it. -/
inductive Added (p : Nat) : Nat → HP → Ln → HP → Prop
  | stop {S S' : HP} {l l' : Ln} (k : Nat) (hk : k < 8) (hn : ∀ j, j < k → Not p S j l) (hd : Does p S S' k l l') (hok : l'.OK) (hb : l'.blank = true) : Added p 0 S l S'
  | next {n : Nat} {S S' S'' S3 : HP} {l l' : Ln} (k : Nat) (hk : k < 8) (hn : ∀ j, j < k → Not p S j l) (hd : Does p S S' k l l') (hok : l'.OK) (hb : l'.blank = false) (hp : Deeper p S' S'') (ha : Added p n S'' l' S3) : Added p (n + 1) S l S3
  | para {S S' : HP} {l : Ln} (hn : ∀ j, j < 8 → Not p S j l) (hp : Para p S S' l) : Added p 0 S l S'

end Go.Proofs.YtigcmibkgcmfcaaGreatDoor
