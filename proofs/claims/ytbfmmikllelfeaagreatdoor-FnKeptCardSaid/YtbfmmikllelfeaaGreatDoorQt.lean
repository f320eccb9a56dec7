/- A region that draws its order: its head is quiet in a class of worlds (callees may make memory), its tail comes in one forced order. By the plan of the library's theorems on a still head and on a quiet region. -/
import Derived.StillTail
import Derived.Deep.Quiet
import Derived.BigQuiet
import Derived.WalkKit
import Derived.WalkSmall
import Derived.Deep.QuietTactic
namespace Go.Proofs.YtbfmmikllelfeaaGreatDoor
namespace Qt
section
variable {P : Program} {ops : Array Oper} {md : Region.Mode} {C : World → Prop}

/-- The first n operations in whatever order; then L. -/
def headAny (P : Program) (md : Region.Mode) (ops : Array Oper) (C : World → Prop) (n : Nat) (L : Array Bool → Act → Prop) : Nat → Array Bool → Act → Prop
  | 0, ls, a => L ls a
  | f + 1, ls, a => Region.ready md ops ls ≠ [] ∧ ∀ i ∈ Region.ready md ops ls, i < n ∧ qOp P ops C i (headAny P md ops C n L f (ls.setIfInBounds i true)) a

theorem wpAny_of_headAny {n g : Nat} {L : Array Bool → Act → Prop} {Q : Exit → Act → World → Prop} (hL : ∀ ls a w, C w → L ls a → wpAny P md ops Q g ls a w) (f : Nat) :
    ∀ (ls : Array Bool) (a : Act) (w : World), C w → headAny P md ops C n L f ls a → wpAny P md ops Q (f + g) ls a w := by
  induction f with
  | zero => intro ls a w hw h; rw [Nat.zero_add]; exact hL _ _ _ hw h
  | succ f ih =>
    intro ls a w hw h
    rw [show f + 1 + g = (f + g) + 1 by omega]
    exact ⟨fun h0 => absurd h0 h.1, fun i hi => wpOp_of_qOp hw (fun a' w' hw' h' => ih _ a' w' hw' h') (h.2 i hi).2⟩

theorem headAny_first {n i : Nat} {oi : Oper} {v : Value} {L : Array Bool → Act → Prop} (hi : ops[i]? = some oi) (hsel : ∀ (j : Nat) (o : Oper) cs b, ops[j]? = some o → o.op ≠ .select cs b)
    (hs : Region.sinkB md ops n = true) (hc : Region.chainB md ops n = true) (hn : n < ops.size) (hin : i < n)
    (hdone : ∀ ls a, L ls a → ∀ j ∈ Region.ready md ops ls, n ≤ j) (f : Nat) :
    ∀ (ls : Array Bool) (a : Act), HeadInv md ops n ls →
      (∀ j oj, ops[j]? = some oj → j ≠ i → ls.getD j true = false → (∀ e ∈ oj.after, Region.binds md e = true → e.on ≠ i) → oi.apart ops oj = true) →
      i ∈ Region.ready md ops ls → YieldsIn P ops C oi v a →
      headAny P md ops C n L f (ls.setIfInBounds i true) (a.put oi.dst v) → headAny P md ops C n L (f + 1) ls a := by
  have ahead : ∀ ls, HeadInv md ops n ls → i ∈ Region.ready md ops ls → ∀ j ∈ Region.ready md ops ls, j < n := fun ls inv hr j hj => by
    rcases Nat.lt_or_ge j n with h | h
    · exact h
    · exact absurd hj (tail_waits hs hc hn inv _ i rfl hin (mem_ready.1 hr).1 j h)
  induction f with
  | zero =>
    intro ls a inv _ hr hy H
    refine ⟨fun h => (by rw [h] at hr; cases hr), fun j hj => ⟨ahead ls inv hr j hj, ?_⟩⟩
    by_cases hji : j = i
    · subst hji; exact hy.qOp hi H
    · have := hdone _ _ H j (ready_mono hj hji)
      have := ahead ls inv hr j hj
      omega
  | succ f ih =>
    intro ls a inv hfree hr hy H
    refine ⟨fun h => (by rw [h] at hr; cases hr), fun j hj => ⟨ahead ls inv hr j hj, ?_⟩⟩
    by_cases hji : j = i
    · subst hji; exact hy.qOp hi H
    · have h1 := (H.2 j (ready_mono hj hji)).2
      obtain ⟨hjun, oj, hoj, hall⟩ := mem_ready.1 hj
      have hnot : ∀ e ∈ oj.after, Region.binds md e = true → e.on ≠ i := fun e he hb heq => by
        have h2 := hall e he hb
        rw [heq, getD_both (mem_ready.1 hr).1] at h2
        cases h2
      have h2 := qOp_put hoj (hfree j oj hoj hji hjun hnot) (fun cs b => hsel i oi cs b hi) (fun cs b => hsel j oj cs b hoj) hy h1
      have hfree' : ∀ k ok, ops[k]? = some ok → k ≠ i → (ls.setIfInBounds j true).getD k true = false →
          (∀ e ∈ ok.after, Region.binds md e = true → e.on ≠ i) → oi.apart ops ok = true := fun k ok hk hki hun hno => by
        refine hfree k ok hk hki ?_ hno
        by_cases hjk : j = k
        · subst hjk; exact hjun
        · rw [getD_set_ne true hjk] at hun; exact hun
      refine qOp_mono (fun a' h3 => ih (ls.setIfInBounds j true) a' (inv.set hj (ahead ls inv hr j hj)) hfree' (ready_mono hr (Ne.symm hji)) h3.1 ?_) h2
      rw [Array.setIfInBounds_comm _ _ hji]
      exact h3.2

theorem headAny_lex {n g : Nat} {Lq : Act → Prop} (hsel : Region.noSelect ops = true) (hs : Region.sinkB md ops n = true) (hc : Region.chainB md ops n = true) (hn : n < ops.size) (l : List Oper) :
    ∀ (k : Nat) (ls : Array Bool) (a : Act), (∀ j, j < l.length → l[j]? = ops[k + j]?) → k + l.length = n → HeadInv md ops n ls →
    Region.lexHead md ops g l.length k ls = true → wpQuiet P ops C Lq l a →
    headAny P md ops C n (fun ls' a' => Region.seqB md ops g n ls' = true ∧ Lq a') l.length ls a := by
  induction l with
  | nil =>
    intro k ls a _ hk _ hB h
    have : k = n := by simpa using hk
    subst this
    exact ⟨by simpa [Region.lexHead] using hB, h⟩
  | cons o l ih =>
    intro k ls a hl hk inv hB h
    have h0 : ops[k]? = some o := by simpa using (hl 0 (by simp)).symm
    simp only [List.length_cons, Region.lexHead, Bool.and_eq_true] at hB
    have hkn : k < n := by simp only [List.length_cons] at hk; omega
    have hr : k ∈ Region.ready md ops ls := by simpa using hB.1.1
    have hst : qOp P ops C k (wpQuiet P ops C Lq l) a := by unfold qOp; simp only [h0]; exact h
    obtain ⟨v, hy, hK⟩ := yieldsIn_of_qOp h0 hst
    refine headAny_first h0 (Region.noSelect_spec hsel) hs hc hn hkn (fun ls' a' hL => seqB_ready hL.1) l.length ls a inv (Region.free_spec h0 hB.1.2) hr hy ?_
    exact ih (k + 1) _ _ (fun j hj => by have := hl (j + 1) (by simp; omega); simpa [Nat.add_assoc, Nat.add_comm 1 j] using this) (by simp only [List.length_cons] at hk; omega) (inv.set hr hkn) hB.2 hK

theorem wp_region {id : Nat} {Q : Exit → Act → World → Prop} {a : Act} {w : World} {l : List Oper} (C : World → Prop) (n : Nat) (hm : P.follows .mixedOrders = true) (hB : Region.lexTailB .any l.toArray n = true)
    (hC : C w.drew) (h : wpQuiet P l.toArray C (fun a' => ∀ w', C w' → wpList P l.toArray Q (l.drop n) a' w') (l.take n) a) : (Code.region id l.toArray true).wp P Q a w := by
  simp only [Region.lexTailB, Bool.and_eq_true, decide_eq_true_eq] at hB
  obtain ⟨⟨⟨⟨hsel, hn⟩, hs⟩, hc⟩, hlex⟩ := hB
  have hn' : n < l.length := by simpa using hn
  have htl : (l.take n).length = n := by simp; omega
  have hdl : (l.drop n).length = l.toArray.size - n := by simp
  have inv0 : HeadInv .any l.toArray n (Array.replicate l.toArray.size false) :=
    ⟨by simp, fun j oj _ hl => (by rw [getD_replicate_false] at hl; cases hl), fun t _ ht => getD_in (by simpa using ht) (getD_replicate_false _ _)⟩
  have H := headAny_lex (md := .any) (g := l.toArray.size - n) hsel hs hc hn (l.take n) 0 _ a (fun j hj => by
    have hj' : j < n := by rw [htl] at hj; exact hj
    simp [hj']) (by simpa using htl) inv0 (by rw [htl]; exact hlex) h
  refine wp_region_any hm ?_
  have := wpAny_of_headAny (Q := Q) (g := l.toArray.size - n) (fun ls a' w' hw' hL => by
    have := wpAny_of_seq (md := .any) (Q' := Q) (l.drop n) n ls a' w' (fun j => by simp [List.getElem?_drop]) (by rw [hdl]; exact hL.1) (hL.2 w' hw')
    rwa [hdl] at this) _ _ _ _ hC H
  rw [htl, show n + (l.toArray.size - n) = l.toArray.size by omega] at this
  exact this
end

/-- The worlds that come of W with new blocks, draws, and writes to new blocks alone. -/
def Ext (W : World) : Type := { w' : World // RowKit.Below W.heap.size W w' }
instance (W : World) : Inhabited (Ext W) := ⟨⟨W, RowKit.Below.refl _ _⟩⟩
def Ext.w {W : World} (x : Ext W) : World := x.1
theorem Ext.below {W : World} (x : Ext W) : RowKit.Below W.heap.size W x.w := x.2
theorem Ext.cell {W : World} (x : Ext W) {b i : Nat} {v : Value} (h : W.cell? ⟨b, i, none⟩ = some v) : x.w.cell? ⟨b, i, none⟩ = some v :=
  (x.2.cell (p := ⟨b, i, none⟩) (World.block_lt_of_cell? W _ h)).trans h
theorem Ext.lt {W : World} (x : Ext W) {b : Nat} (h : b < W.heap.size) : b < x.w.heap.size := Nat.lt_of_lt_of_le h x.2.size
theorem Ext.start (W : World) : ∃ x : Ext W, W.drew = x.w := ⟨⟨W.drew, (RowKit.Below.refl _ _).drew⟩, rfl⟩
theorem Ext.on {W : World} (x : Ext W) {w' : World} (h : RowKit.Below x.w.heap.size x.w w') : ∃ y : Ext W, w' = y.w := ⟨⟨w', x.2.trans (h.mono x.2.size)⟩, rfl⟩
theorem Ext.draws {W : World} (x : Ext W) (n : Nat) : ∃ y : Ext W, x.w.drewN n = y.w := ⟨⟨x.w.drewN n, below_drewN x.2 n⟩, rfl⟩
theorem Ext.call {P : Program} {W : World} {f : FuncId} {args : Array Value} (x : Ext W) {v : Value} (h : Calls P f args x.w fun e w' => e = .returned v ∧ RowKit.Below x.w.heap.size x.w w') :
    Calls P f args x.w fun e w' => e = .returned v ∧ ∃ y : Ext W, w' = y.w := h.mono fun _ _ ⟨he, hb⟩ => ⟨he, x.on hb⟩
theorem Ext.quiet {P : Program} {W : World} {f : FuncId} {args : Array Value} (x : Ext W) {v : Value} (h : Calls P f args x.w fun e w' => e = .returned v ∧ ∃ m, w' = x.w.drewN m) :
    Calls P f args x.w fun e w' => e = .returned v ∧ ∃ y : Ext W, w' = y.w := h.mono fun _ _ ⟨he, m, hm⟩ => ⟨he, hm ▸ x.draws m⟩
end Qt
end Go.Proofs.YtbfmmikllelfeaaGreatDoor
