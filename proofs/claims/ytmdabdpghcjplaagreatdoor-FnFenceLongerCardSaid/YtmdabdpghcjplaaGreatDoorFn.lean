/- newFence where a fence of tildes stands. -/
import Derived.Test.YtmdabdpghcjplaaGreatDoorFt
import Derived.Test.YtmdabdpghcjplaaGreatDoorN11
import Derived.Test.YtmdabdpghcjplaaGreatDoorKi
import Derived.Laws.RangeString
namespace Go.Proofs.YtmdabdpghcjplaaGreatDoor
open Go.RowKit Sl

def fenceCells (fence info : ByteArray) (n : Int) (ts : SV) : List Value := [.string fence, .string info, .int .i64 n, ts.v]

theorem bs_nil : B.bs [] = ⟨#[]⟩ := rfl

/-- A line of tildes alone. -/
structure Tildes (l : Ln) (k : Nat) : Prop where
  sp : l.spaces = 0
  rest : l.rest = List.replicate k 126
  pos : 0 < k

theorem Tildes.ch {l : Ln} {k : Nat} (h : Tildes l k) : l.ch = some 126 := by
  have := h.pos
  rw [Ln.ch_rest, h.rest]
  cases k with
  | zero => omega
  | succ k => rfl

theorem Tildes.stay {l : Ln} {k : Nat} (h : Tildes l k) (m : Nat) (hm : 0 < m) : l.trimSpace m m false = none := by
  obtain ⟨m, rfl⟩ : ∃ j, m = j + 1 := ⟨m - 1, by omega⟩
  unfold Ln.trimSpace Ln.trimGo Ln.step
  rw [if_neg (by rw [h.sp]; decide), h.ch]
  rfl

theorem Tildes.item {l : Ln} {k : Nat} (h : Tildes l k) : Ln.item 3 l = l := by
  unfold Ln.item
  rw [h.stay 1 (by decide)]

theorem Tildes.peek {l : Ln} {k : Nat} (h : Tildes l k) : l.peek = 126 := Ln.peek_of h.sp h.ch

theorem run_split {c : UInt8} {k k' : Nat} {r : List UInt8} (h : List.replicate k c = List.replicate k' c ++ r) (hr : r.head? ≠ some c) : k' = k ∧ r = [] := by
  cases r with
  | nil =>
    have := congrArg List.length h
    simp at this
    exact ⟨this.symm, rfl⟩
  | cons a t =>
    have : a ∈ List.replicate k c := by rw [h]; simp
    have := List.eq_of_mem_replicate this
    subst this
    simp at hr

set_option maxRecDepth 100000 in
set_option maxHeartbeats 2000000 in
theorem newFence_does (p g cap k : Nat) (T : TypeId) (bv st en : Value) (inn : SV) (l : Ln) (x : PSt) (F : HP) (w : World) (hx : x.stack = ⟨some ⟨g, 0, none⟩, 1, cap⟩) (hd : x.depth = 0) (hl : l.OK) (hsz : l.text.size ≤ 1000000)
    (ht : Tildes l k) (hk : 3 ≤ k) (hE : ∀ w', Sat w' F → Ents w')
    (hs : Sat w (row p 96 x.cells * (arr 122 4 x.stack.v 1 [.iface T bv, inn.v, st, en] * F))) :
    Calls Tryz.prog 93 #[.pointer (some ⟨p, 0, none⟩), l.agg] w fun e w' => e = .returned (.tuple #[Ln.zero.agg, .bool true]) ∧ ∃ (q g2 cap2 : Nat),
      Sat w' (row p 96 { x with stack := ⟨some ⟨g2, 0, none⟩, 2, cap2⟩ }.cells *
        (arr 122 4 (.slice (some ⟨g2, 0, none⟩) 2 cap2) 2 [.iface T bv, inn.v, st, en, .iface 252 (.pointer (some ⟨q, 0, none⟩)), .slice none 0 0, .int .i64 x.lineno, .int .i64 x.lineno] *
          (row q 254 (fenceCells (B.bs (List.replicate k 126)) ⟨#[]⟩ 0 ⟨none, 0, 0⟩) * F))) := by
  have h1 : Sat (w.alloc (.cells l.cells.toArray 105)) (row w.heap.size 105 l.cells * _) := hs.new _ _ rfl
  have h2 := h1.new (d := w.heap.size + 1) Ln.zero.cells 105 (by simp)
  have h3 := h2.new (d := w.heap.size + 2) [.string ⟨#[]⟩] 9 (by simp)
  have h4 := h3.new (d := w.heap.size + 3) [.string ⟨#[]⟩] 9 (by simp)
  have h5 := h4.new (d := w.heap.size + 4) [.int .i64 0] 3 (by simp)
  have h6 := h5.new (d := w.heap.size + 5) l.cells 105 (by simp)
  have h7 := h6.cast (show _ = row (w.heap.size + 5) 105 l.cells * (row (w.heap.size + 4) 3 [.int .i64 0] * (row (w.heap.size + 2) 9 [.string ⟨#[]⟩] * (row (w.heap.size + 3) 9 [.string ⟨#[]⟩] *
    (row (w.heap.size + 1) 105 Ln.zero.cells * (row w.heap.size 105 l.cells * (row p 96 x.cells * (arr 122 4 x.stack.v 1 [.iface T bv, inn.v, st, en] * F))))))) from by ac_rfl)
  have H7 := Lib.hid h7
  have HT := Lib.hid ht
  clear h1 h2 h3 h4 h5 h6 h7 hs ht
  unfold Ln.agg
  go_enter Tryz.func93, Tryz.ntmps93
  go_wp2_with fail
  refine (trimFence_w (w.heap.size + 5) (w.heap.size + 2) (w.heap.size + 3) (w.heap.size + 4) l l 126 _ _ 0 _ _ hl hsz HT.out.item HT.out.peek (.inr rfl) (fun w' h => hE w' h.drop1.drop1.drop1.drop1) H7.out).mono ?_
  rintro e w2 ⟨n, k', r, ⟨hr1, hr2⟩, hn, hres⟩
  rw [HT.out.rest] at hr1
  obtain ⟨rfl, rfl⟩ := run_split hr1 hr2
  obtain rfl := hn (HT.out.stay 1 (by decide))
  rcases hres with ⟨rfl, _, info, hinfo, s2⟩ | ⟨_, hno, _⟩
  · obtain rfl := hinfo rfl
    rw [bs_nil] at s2
    obtain ⟨FB, hFB⟩ : ∃ FB, FB = B.bs (List.replicate k' 126) := ⟨_, rfl⟩
    have hfs : 0 < FB.size := by rw [hFB, B.bs_size, List.length_replicate]; omega
    have hix : ∀ h, FB[0]'h = 126 := by
      subst hFB
      intro h
      have : (List.replicate k' (126 : UInt8))[0]'(by simp; omega) = 126 := by simp
      exact this
    rw [← hFB] at s2
    have HFB := Lib.hid hFB
    clear hFB
    have s3 := s2.drop1
    have a0 : w2.cell? ⟨w.heap.size + 2, 0, none⟩ = some (.string FB) := s3.swap.cell 0 rfl
    have a1 : w2.cell? ⟨w.heap.size + 3, 0, none⟩ = some (.string ⟨#[]⟩) := s3.third.cell 0 rfl
    have a2 : w2.cell? ⟨w.heap.size + 4, 0, none⟩ = some (.int .i64 0) := s3.cell 0 rfl
    have S3 := Lib.hid s3
    clear s2 s3 hn hr1 hr2 H7
    have hq0 : Sat (w2.iter ⟨#[]⟩ 0) _ := (S3.out.alloc _).right
    have hnx : ∀ ty, (Instr.next (.pointer (some ⟨w2.heap.size, 0, none⟩)) true ty).run Tryz.prog (w2.iter ⟨#[]⟩ 0) = _ := fun ty => run_next_end w2 ⟨#[]⟩ 0 ty (by decide)
    go_wp2_with fail
    generalize w2.iter ⟨#[]⟩ 0 = wi at *
    clear a0 a1 a2
    have a0 : wi.cell? ⟨w.heap.size + 2, 0, none⟩ = some (.string FB) := hq0.swap.cell 0 rfl
    have a1 : wi.cell? ⟨w.heap.size + 3, 0, none⟩ = some (.string ⟨#[]⟩) := hq0.third.cell 0 rfl
    have a2 : wi.cell? ⟨w.heap.size + 4, 0, none⟩ = some (.int .i64 0) := hq0.cell 0 rfl
    have s3 := (hq0.new (d := wi.heap.size) (fenceCells FB ⟨#[]⟩ 0 ⟨none, 0, 0⟩) 254 rfl).cast (show _ = row p 96 x.cells * (arr 122 4 x.stack.v 1 [.iface T bv, inn.v, st, en] *
      (row (w.heap.size + 1) 105 Ln.zero.cells * (row wi.heap.size 254 (fenceCells FB ⟨#[]⟩ 0 ⟨none, 0, 0⟩) * (F * (row (w.heap.size + 4) 3 [.int .i64 0] * (row (w.heap.size + 2) 9 [.string FB] * (row (w.heap.size + 3) 9 [.string ⟨#[]⟩] * row w.heap.size 105 l.cells))))))) from by ac_rfl)
    have H3 := Lib.hid s3
    clear s3 hq0 S3
    go_loopw [] (fun wr => wi = wr) (fun _ => 0)
    case atStart => rfl
    case round =>
      subst hrel
      go_wp2_with fail
      refine (addBlock_w p 1 252 _ x _ _ _ (by decide) (by rw [hd]; rfl) (by rw [hx]) H3.out).mono ?_
      rintro e w4 ⟨rfl, g2, cap2, s4⟩
      have s5 := s4.cast (show _ = (row (w.heap.size + 1) 105 Ln.zero.cells * (row p 96 { x with stack := ⟨some ⟨g2, 0, none⟩, 1 + 1, cap2⟩ }.cells *
        (arr 122 4 (.slice (some ⟨g2, 0, none⟩) (1 + 1) cap2) (1 + 1) ([.iface T bv, inn.v, st, en] ++ [.iface 252 (.pointer (some ⟨wi.heap.size, 0, none⟩)), .slice none 0 0, .int .i64 x.lineno, .int .i64 x.lineno]) *
          (row wi.heap.size 254 (fenceCells FB ⟨#[]⟩ 0 ⟨none, 0, 0⟩) * F)))) * (row (w.heap.size + 4) 3 [.int .i64 0] * (row (w.heap.size + 2) 9 [.string FB] * (row (w.heap.size + 3) 9 [.string ⟨#[]⟩] * row w.heap.size 105 l.cells))) from by ac_rfl)
      have s6 := s5.left
      clear s4 s5 H3 a0 a1 a2
      obtain ⟨b0, b1, b2, b3, b4, bf⟩ := line_cells s6
      have bl := s6.row_lt
      have S6 := Lib.hid s6
      clear s6
      go_wp2
      refine bodyPost_ret (v := .tuple #[Ln.zero.agg, .bool true]) (by simp [results, Tryz.results93, go_sem, Ln.agg, Ln.zero, *]) rfl ⟨rfl, wi.heap.size, g2, cap2, ?_⟩
      rw [← HFB.out]
      exact (((((S6.out.set 0 _).set 1 _).set 2 _).set 3 _).set 4 _).drop1
  · rcases hno with h | h
    · omega
    · exact absurd h (by decide)

end Go.Proofs.YtmdabdpghcjplaaGreatDoor
