/- The signs replaced in a link's address. -/
import Derived.Test.YtbfmmikllelfeaaGreatDoorI0
import Derived.Great.BuildSlice
namespace Go.Proofs.YtbfmmikllelfeaaGreatDoor
open Go.RowKit Sl

theorem parts_evalV (a : Act) (parts : Array (Nat × Operand)) (zs : List Value) (hparts : parts.toList = (zs.zipIdx 0).map fun x => (x.2, Operand.const x.1)) :
    (parts.map fun (i, x) => (i, a.eval x)).toList = (zs.zipIdx 0).map fun x => (x.2, x.1) := by
  rw [Array.toList_map, hparts, List.map_map]
  rfl

theorem size_strOne : (Tryz.prog.info? 9).map (·.size) = some 1 := by kernel_rfl

theorem zero_strOne : ((Tryz.prog.info? 9).bind (·.zero)).isSome = true := by kernel_rfl

/-- A slice literal of strings, every place written. -/
theorem wpList_buildStrs {ops : Array Oper} {rest : List Oper} {o : Oper} {a : Act} {w : World} {Q : Exit → Act → World → Prop} (hg : o.guard = none) (t : TypeId) (len : Nat) (parts : Array (Nat × Operand)) (ho : o.op = .buildSlice t len parts) (zs : List Value) (hzs : ∀ v ∈ zs, v.cells = #[v])
    (hu : Tryz.prog.underlying t = some (.slice 9)) (hlen : len = zs.length) (hpos : 0 < len) (hsmall : len ≤ 2 ^ 24) (hparts : parts.toList = (zs.zipIdx 0).map fun x => (x.2, Operand.const x.1))
    (h : wpList Tryz.prog ops Q rest (a.put o.dst (.slice (some ⟨w.heap.size, 0, none⟩) len len)) (w.alloc (.cells zs.toArray 9))) : wpList Tryz.prog ops Q (o :: rest) a w := by
  obtain ⟨ie, hie, hs⟩ := Option.map_eq_some_iff.1 size_strOne
  have hz := zero_strOne
  rw [hie, Option.bind_some] at hz
  obtain ⟨z, hzz⟩ := Option.isSome_iff_exists.1 hz
  refine wpList_buildSlice hg t 9 len parts ho _ ie z hu hie hzz (by rw [hs]; omega) (by rw [hs]; omega) ?_ h
  rw [parts_evalV a parts zs hparts, hs]
  exact Great.fill_flat _ _ hzs (by simp [hlen])

theorem linkCells_one : ∀ v ∈ linkPairs.cells, v.cells = #[v] := by
  intro v hv
  have : linkPairs.cells.all (fun v => match v with | .string _ => true | _ => false) = true := by kernel_rfl
  have := List.all_eq_true.1 this v hv
  cases v <;> first | rfl | cases this

set_option maxRecDepth 100000 in
set_option maxHeartbeats 400000 in
theorem linkEscaper_w (w : World) : Calls Tryz.prog 305 #[] w fun e w' => e = .returned (.slice (some ⟨w.heap.size, 0, none⟩) 340 340) ∧ w' = w.alloc (.cells linkPairs.cells.toArray 9) := by
  go_enter Tryz.func305, Tryz.ntmps305
  go_upto_region 1 with fail
  refine wp_region_list ?_
  refine wpList_buildStrs rfl _ 340 _ rfl linkPairs.cells linkCells_one (by kernel_rfl) (by kernel_rfl) (by decide) (by decide) (by kernel_rfl) ?_
  refine wpList_plain rfl fun K2 hK2 => ?_
  show K2 (Act.put _ _ _) _
  refine hK2 _ _ ?_
  rename_i hk
  refine hk _ _ ?_

  go_wp2
  go_ret
  exact ⟨rfl, rfl⟩
end Go.Proofs.YtbfmmikllelfeaaGreatDoor
