/- Inlines: plain texts next to each other are put together. -/
import Derived.Test.YtmdabdpghcjplaaGreatDoorI3
import Derived.Deep.RegionLaw
namespace Go.Proofs.YtmdabdpghcjplaaGreatDoor
open Go.RowKit Sl

def Tok.isPlain : Tok → Bool
  | .plain _ => true
  | _ => false

theorem tp_hit (d : Addr) (w : World) : (Instr.typeAssert (.iface 157 (.pointer (some d))) 133 157 true).run Tryz.prog w = .ok (.tuple #[.pointer (some d), .bool true]) w := by kernel_rfl

set_option maxRecDepth 100000 in
set_option maxHeartbeats 1000000 in
theorem toPlain_hit (d : Addr) (w : World) : Calls Tryz.prog 123 #[.iface 157 (.pointer (some d))] w fun e w' => e = .returned (.pointer (some d)) ∧ w = w' := by
  have h1 := tp_hit d
  go_enter Tryz.func123, Tryz.ntmps123
  go_wp2
  go_ret
  exact ⟨rfl, rfl⟩

theorem tp_miss {T : TypeId} (d : Addr) (hT : T = 177 ∨ T = 183) (w : World) : (Instr.typeAssert (.iface T (.pointer (some d))) 133 157 true).run Tryz.prog w = .ok (.tuple #[.pointer none, .bool false]) w := by
  rcases hT with rfl | rfl <;> kernel_rfl

set_option maxRecDepth 100000 in
set_option maxHeartbeats 1000000 in
theorem toPlain_miss {T : TypeId} (d : Nat) (hT : T = 177 ∨ T = 183) (w : World) : Calls Tryz.prog 123 #[.iface T (.pointer (some ⟨d, 0, none⟩))] w fun e w' => e = .returned (.pointer none) ∧ w = w' := by
  have h1 := tp_miss ⟨d, 0, none⟩ hT
  have hI : IsTok (.iface T (.pointer (some ⟨d, 0, none⟩))) := ⟨T, d, by rcases hT with h | h <;> simp [h], rfl⟩
  have h2 := hI.noOpen
  have h3 := hI.noEmph
  clear hI hT
  go_enter Tryz.func123, Tryz.ntmps123
  go_wp2
  go_ret
  exact ⟨rfl, rfl⟩

/-- What a token's object answers to toPlain. -/
theorem toPlain_w {v : Value} {t : Tok} {F : HP} (w : World) (hs : Sat w (TokAt v t * F)) :
    (t.isPlain = true ∧ ∃ d : Nat, v = .iface 157 (.pointer (some ⟨d, 0, none⟩)) ∧ ∀ w, Calls Tryz.prog 123 #[v] w fun e w' => e = .returned (.pointer (some ⟨d, 0, none⟩)) ∧ w = w') ∨
    (t.isPlain = false ∧ ∃ (T : TypeId) (d : Nat), v = .iface T (.pointer (some ⟨d, 0, none⟩)) ∧ ∀ w, Calls Tryz.prog 123 #[v] w fun e w' => e = .returned (.pointer none) ∧ w = w') := by
  cases t with
  | plain s =>
    obtain ⟨d, h⟩ := hs.ex
    obtain ⟨rfl, _⟩ := (h.cast (star_assoc _ _ _)).pur
    exact .inl ⟨rfl, d, rfl, fun w => toPlain_hit _ w⟩
  | esc s =>
    obtain ⟨d, h⟩ := hs.ex
    obtain ⟨rfl, _⟩ := (h.cast (star_assoc _ _ _)).pur
    exact .inr ⟨rfl, _, d, rfl, fun w => toPlain_miss d (.inl rfl) w⟩
  | code s =>
    obtain ⟨d, h⟩ := hs.ex
    obtain ⟨rfl, _⟩ := (h.cast (star_assoc _ _ _)).pur
    exact .inr ⟨rfl, _, d, rfl, fun w => toPlain_miss d (.inr rfl) w⟩

def txts (ts : List Tok) : List UInt8 := ts.flatMap Tok.txt

/-- mergePlain1 at a run of plain texts. -/
def Merges (P : Nat → Prop) : Prop := ∀ (w : World) (F : HP) (g off cap : Nat) (L vs : List Value) (ts : List Tok), P ts.length → 1 ≤ ts.length → ts.length ≤ 1000000000 → (∀ t ∈ ts, t.isPlain = true) → (∀ k v, vs[k]? = some v → L[off + k]? = some v) →
  Sat w (row g 133 L * (ToksAt vs ts * F)) →
    Calls Tryz.prog 124 #[.slice (some ⟨g, off, none⟩) ts.length cap] w fun e w' => ∃ d : Nat, e = .returned (.pointer (some ⟨d, 0, none⟩)) ∧ Sat w' (row g 133 L * (TokAt (.iface 157 (.pointer (some ⟨d, 0, none⟩))) (.plain (txts ts)) * F))

set_option maxRecDepth 100000 in
set_option maxHeartbeats 1000000 in
theorem merges_one : Merges (fun n => n = 1) := by
  intro w F g off cap L vs ts hP _ _ hpl hL hs
  have hlen := toksAt_len hs.swap
  match ts, hP with
  | [t], _ =>
    match vs, hlen with
    | [v], _ =>
      rw [toksAt_single] at hs
      have hl : L[off]? = some v := by have := hL 0 v rfl; simpa using this
      have c0 : w.cell? ⟨g, off, none⟩ = some v := hs.cell off hl
      rcases toPlain_w w hs.swap with ⟨_, d, rfl, hc⟩ | ⟨hf, _⟩
      · have HC := Lib.hid hc
        have ht : ∃ s, t = .plain s := by
          have := hpl t (by simp)
          cases t with
          | plain s => exact ⟨s, rfl⟩
          | esc s => cases this
          | code s => cases this
        obtain ⟨s, rfl⟩ := ht
        clear hc hpl hL hlen
        show Calls _ _ #[.slice (some ⟨g, off, none⟩) 1 cap] _ _
        go_enter Tryz.func124, Tryz.ntmps124
        go_wp2_with fail
        refine (HC.out w).mono ?_
        rintro e w' ⟨rfl, rfl⟩
        go_wp2
        go_ret
        refine ⟨d, rfl, ?_⟩
        rw [show txts [Tok.plain s] = s from List.append_nil _]
        exact hs
      · rw [hpl t (by simp)] at hf
        cases hf

end Go.Proofs.YtmdabdpghcjplaaGreatDoor
