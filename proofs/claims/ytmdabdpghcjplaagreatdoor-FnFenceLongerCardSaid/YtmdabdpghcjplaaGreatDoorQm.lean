/- A region that draws its order: its first operation is a call that writes; then it is quiet; its tail comes in one forced order. -/
import Derived.Test.YtmdabdpghcjplaaGreatDoorQt
import Derived.RegionTactic
namespace Go.Proofs.YtmdabdpghcjplaaGreatDoor
namespace Qt
section
variable {P : Program}

theorem wp_call_region {id : Nat} {Q : Exit → Act → World → Prop} {a : Act} {w : World} {o : Oper} {l : List Oper} (n : Nat) (hm : P.follows .mixedOrders = true) (hB : Region.lexTailB .any (o :: l).toArray (n + 1) = true)
    (h0 : Region.ready .any (o :: l).toArray (Array.replicate (l.length + 1) false) = [0]) (hg : o.guard = none)
    (h : ∀ K : Act → World → Prop, (∀ (C : World → Prop) a' w', C w' → wpQuiet P (o :: l).toArray C (fun a'' => ∀ w'', C w'' → wpList P (o :: l).toArray Q (l.drop n) a'' w'') (l.take n) a' → K a' w') → o.wp P a w.drew K Q) :
    (Code.region id (o :: l).toArray true).wp P Q a w := by
  simp only [Region.lexTailB, Bool.and_eq_true, decide_eq_true_eq] at hB
  obtain ⟨⟨⟨⟨hsel, hn⟩, hs⟩, hc⟩, hlex⟩ := hB
  have hn' : n < l.length := by simpa using hn
  have htl : (l.take n).length = n := by simp; omega
  have hsz : (o :: l).toArray.size = l.length + 1 := rfl
  have hdl : (l.drop n).length = (o :: l).toArray.size - (n + 1) := by rw [hsz]; simp
  have inv0 : HeadInv .any (o :: l).toArray (n + 1) (Array.replicate (o :: l).toArray.size false) :=
    ⟨by simp, fun j oj _ hl => (by rw [getD_replicate_false] at hl; cases hl), fun t _ ht => getD_in (by simpa using ht) (getD_replicate_false _ _)⟩
  have hr0 : 0 ∈ Region.ready .any (o :: l).toArray (Array.replicate (o :: l).toArray.size false) := by rw [hsz, h0]; simp
  have inv1 := inv0.set hr0 (Nat.succ_pos n)
  simp only [Region.lexHead, Bool.and_eq_true] at hlex
  refine wp_region_any hm ?_
  show wpAny P .any (o :: l).toArray Q (l.length + 1) (Array.replicate (o :: l).toArray.size false) a w.drew
  refine wpAny_ready (rs := [0]) (by rw [hsz]; exact h0) (by simp) ?_
  refine AllReady.cons (o := o) rfl (fun K' hK => ?_) AllReady.nil
  rw [if_pos (by simp [Region.wanted, hg])]
  refine h K' fun C a' w' hC hq => hK a' w' ?_
  have H := headAny_lex (P := P) (C := C) (md := .any) (g := (o :: l).toArray.size - (n + 1)) hsel hs hc hn (l.take n) 1 _ a' (fun j hj => by
    have hj' : j < n := by rw [htl] at hj; exact hj
    rw [show 1 + j = j + 1 by omega]
    simp [hj']) (by rw [htl]; omega) inv1 (by rw [htl]; exact hlex.2) hq
  have := wpAny_of_headAny (Q := Q) (g := (o :: l).toArray.size - (n + 1)) (fun ls a2 w2 hw2 hL => by
    have := wpAny_of_seq (md := .any) (Q' := Q) (l.drop n) (n + 1) ls a2 w2 (fun j => by
      rw [show n + 1 + j = (n + j) + 1 by omega]
      simp [List.getElem?_drop]) (by rw [hdl]; exact hL.1) (hL.2 w2 hw2)
    rwa [hdl] at this) _ _ _ _ hC H
  rw [htl, show n + ((o :: l).toArray.size - (n + 1)) = l.length by rw [hsz]; omega] at this
  exact this
end
end Qt
end Go.Proofs.YtmdabdpghcjplaaGreatDoor
