/-
  The law FnKept returns true for every kind and every slice of texts: a block of HTML of any of the seven kinds is kept as it stands, alone and between two paragraphs.
  No condition: the statement is the given card, for every argument. (The law's own guards let the greatest texts by.)
-/
import Derived.Test.YtbfmmikllelfeaaGreatDoorTFnKept
import Derived.Test.YtbfmmikllelfeaaGreatDoorGo
namespace Go.Proofs.YtbfmmikllelfeaaGreatDoor.fnKept
open Go.ChangeShapes Go.WideShapes Go.ChangeAt Go.RowKit

set_option maxRecDepth 100000 in
theorem card : Rows.FnKeptCardSaid :=
  Claim7.holds_tied_plain_at .later [] _ _ _ _ said (fun _ h => by cases h) (by kernel_rfl) (fun _ h => by cases h) fnKept_row_tie rfl ⟨rfl, rfl⟩ (by kernel_rfl) rfl plain (goesBy_none no_goes rfl)
end Go.Proofs.YtbfmmikllelfeaaGreatDoor.fnKept
