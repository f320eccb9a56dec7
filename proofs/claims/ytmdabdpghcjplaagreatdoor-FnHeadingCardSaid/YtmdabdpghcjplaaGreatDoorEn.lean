/- The package's table of names, read off what the row lists. -/
import Derived.Test.YtmdabdpghcjplaaGreatDoorRw
import Derived.Test.YtmdabdpghcjplaaGreatDoorUn
import Derived.LaidSub
import Derived.Stop.Joined
namespace Go.Proofs.YtmdabdpghcjplaaGreatDoor
open Go.ChangeShapes Go.WideShapes Go.ChangeAt Go.RowKit

theorem cells_string : Tryz.prog.cellsOf 9 = 1 := by kernel_rfl
theorem cells_pair : Tryz.prog.cellsOf 269 = 2 := by kernel_rfl

/-- The rows of the table. -/
def entRows : List (DataW Unit) := match (Rows.laid_pub_paratext_pub_rscmarkdown_htmlEntities : DataW Unit) with
  | .agg l => l
  | _ => []

theorem entRows_eq : (Rows.laid_pub_paratext_pub_rscmarkdown_htmlEntities : DataW Unit) = .agg entRows := rfl

theorem entRows_at (i : Nat) (hi : i < 12) : ∃ A C : List UInt8, entRows[i]? = some (.agg [.lit (.string A), .lit (.string C)]) ∧ C ≠ [] ∧ C.length ≤ 1000 := by
  have : i = 0 ∨ i = 1 ∨ i = 2 ∨ i = 3 ∨ i = 4 ∨ i = 5 ∨ i = 6 ∨ i = 7 ∨ i = 8 ∨ i = 9 ∨ i = 10 ∨ i = 11 := by omega
  rcases this with rfl | rfl | rfl | rfl | rfl | rfl | rfl | rfl | rfl | rfl | rfl | rfl
  all_goals exact ⟨_, _, rfl, by decide, by decide⟩

theorem bs_toList (s : ByteArray) : B.bs s.data.toList = s := by
  obtain ⟨d⟩ := s
  simp [B.bs]

set_option maxRecDepth 100000 in
theorem ents_of_table {W : World} (h : laidMetH Tryz.prog [("pub-paratext/pub/rscmarkdown.htmlEntities", Rows.laid_pub_paratext_pub_rscmarkdown_htmlEntities)] W) : Ents W := by
  rw [MakeChecks.laidMetH_plain _ _ _ (by kernel_rfl)] at h
  obtain ⟨ps, ⟨g, t, cs, fuel, p, q, hg, ht, hv, hd, _, _⟩, _, _⟩ := h
  obtain rfl := Option.some.inj ((show Tryz.prog.globalNamed "pub-paratext/pub/rscmarkdown.htmlEntities" = some 1 by kernel_rfl).symm.trans hg)
  obtain rfl := Option.some.inj ((show (Tryz.prog.globals[1]?).map (·.type) = some 270 by kernel_rfl).symm.trans ht)
  obtain ⟨xs, m, _, ex, _, hl, hel⟩ := DataW.trod_array Tryz.underlying270 hd
  have e3 : xs.map (·.1) = entRows := (DataW.agg.inj ((Prod.mk.inj ex).1.symm.trans entRows_eq))
  intro i hi
  obtain ⟨A, C, hrow, hC, hCl⟩ := entRows_at i hi
  have hE := hel i hi
  rw [cells_pair, List.getElem?_eq_getElem (by omega)] at hE
  have e4 : (xs.map (·.1))[i]? = some (.agg [.lit (.string A), .lit (.string C)]) := by rw [e3]; exact hrow
  rw [List.getElem?_map, List.getElem?_eq_getElem (by omega : i < xs.length)] at e4
  have e5 : (xs[i]'(by omega)).1 = .agg [.lit (.string A), .lit (.string C)] := by simpa using e4
  obtain ⟨ys, m2, _, ey, _, hl2, hel2⟩ := DataW.trod_array Tryz.underlying269 hE
  have e6 : ys.map (·.1) = [.lit (.string A), .lit (.string C)] := by
    rw [ey] at e5
    exact DataW.agg.inj e5
  have h0 := hel2 0 (by decide)
  have h1 := hel2 1 (by decide)
  rw [cells_string, List.getElem?_eq_getElem (by omega)] at h0 h1
  obtain ⟨s0, c0, d0, _⟩ := DataW.trod_string Tryz.underlying9 h0
  obtain ⟨s1, c1, d1, _⟩ := DataW.trod_string Tryz.underlying9 h1
  have q0 : (ys.map (·.1))[0]? = some (.lit (.string A)) := by rw [e6]; rfl
  have q1 : (ys.map (·.1))[1]? = some (.lit (.string C)) := by rw [e6]; rfl
  rw [List.getElem?_map, List.getElem?_eq_getElem (by omega), d0] at q0
  rw [List.getElem?_map, List.getElem?_eq_getElem (by omega), d1] at q1
  have r0 : s0.data.toList = A := by simpa using q0
  have r1 : s1.data.toList = C := by simpa using q1
  have t0 : cs.toList[i * 2]? = some (.string s0) := by
    have h0 : (((cs.toList.drop (i * 2)).take 2 |>.drop (0 * 1)).take 1)[0]? = some (.string s0) := by rw [c0]; rfl
    simpa using h0
  have t1 : cs.toList[i * 2 + 1]? = some (.string s1) := by
    have h0 : (((cs.toList.drop (i * 2)).take 2 |>.drop (1 * 1)).take 1)[0]? = some (.string s1) := by rw [c1]; rfl
    simpa using h0
  refine ⟨A, C, ?_, ?_, hC, hCl⟩
  · rw [World.var?_cell hg hv, ← r0, bs_toList]; simpa using t0
  · rw [World.var?_cell hg hv, ← r1, bs_toList]; simpa using t1

end Go.Proofs.YtmdabdpghcjplaaGreatDoor
