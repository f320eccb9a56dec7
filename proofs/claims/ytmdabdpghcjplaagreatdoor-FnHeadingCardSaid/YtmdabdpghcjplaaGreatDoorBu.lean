/- bytes.Buffer, as this program's texts use it. -/
import Derived.Test.YtmdabdpghcjplaaGreatDoorM
import Derived.Test.YtmdabdpghcjplaaGreatDoorB
import Derived.Test.YtmdabdpghcjplaaGreatDoorSh
import Derived.Lib.BufferKept
namespace Go.Proofs.YtmdabdpghcjplaaGreatDoor
open Go.RowKit

/-- Block b is a buffer of the call's own, laid from block B on, and holds l. -/
def IsBuf (B b : Nat) (l : List UInt8) (w : World) : Prop := Lib.IsBuffer 74 5 B b (Lib.byteCells l) w

theorem IsBuf.size {B b : Nat} {l : List UInt8} {w : World} (h : IsBuf B b l w) : B ≤ w.heap.size := by
  have h1 := Lib.IsBuffer.lt h
  have h2 := h.1
  omega

theorem bufWrite_w (W : World) (b : Nat) (l : List UInt8) (s : ByteArray) (w : World) (hb : Below W.heap.size W w) (h : IsBuf W.heap.size b l w) (hl : l.length + s.size ≤ 1000000000000) :
    Calls Tryz.prog 247 #[.pointer (some ⟨b, 0, none⟩), .string s] w fun e w' => e = .returned (.tuple #[.int .i64 s.size, .nilIface]) ∧ IsBuf W.heap.size b (l ++ s.data.toList) w' ∧ Below W.heap.size W w' := by
  refine (Sh.Buffer_WriteString_kept W.heap.size b _ s w h hb.size (Lib.byteCells_one _) ?_).mono ?_
  · rw [Lib.byteCells_length]; omega
  · rintro e w' ⟨rfl, h1, h2, _⟩
    exact ⟨rfl, by unfold IsBuf; rw [Lib.byteCells_append]; exact h1, hb.trans h2⟩

end Go.Proofs.YtmdabdpghcjplaaGreatDoor
