/-
  The walks of spec.lower, spec.entities, spec.strange.
-/
import Derived.Test.YtopmbledpalmdaaGreatDoorWalkC
import Derived.Test.YtopmbledpalmdaaGreatDoorSpec2
namespace Go.Proofs.YtopmbledpalmdaaGreatDoor
open Go.RowKit Go.Proofs

def refCells (e : Ref) : List Value := [.string ⟨e.name.toArray⟩, .string ⟨e.text.toArray⟩, .bool e.legacy]
def entCells : Array Value := (entitiesL.flatMap refCells).toArray
def strangeCells : Array Value := (strangeL.map fun x => Value.string ⟨x.toArray⟩).toArray

set_option maxRecDepth 100000 in
set_option maxHeartbeats 1600000 in
theorem strange_any (w : World) : Calls Tryz.prog 27 #[] w fun e w' => e = .returned (.slice (some ⟨w.heap.size, 0, none⟩) 18 18) ∧ w.alloc (.cells strangeCells 9) = w' := by
  go_enter Tryz.func27, Tryz.ntmps27
  go_wp2
  go_ret
  exact ⟨rfl, rfl⟩

theorem wp_of_run {P : Program} {o : Oper} {a : Act} {w w' : World} {v : Value} {K : Act → World → Prop} {Q : Exit → Act → World → Prop}
    (h : (execOp a.eval o).run P w = .ok (.value v) w') (hk : K (a.put o.dst v) w') : o.wp P a w K Q := by
  unfold Oper.wp
  rw [h]
  exact hk
set_option maxRecDepth 100000 in
set_option maxHeartbeats 1600000 in
theorem entities_any (w : World) : Calls Tryz.prog 26 #[] w fun e w' => e = .returned (.slice (some ⟨w.heap.size, 0, none⟩) 54 54) ∧ w.alloc (.cells entCells 46) = w' := by
  go_enter Tryz.func26, Tryz.ntmps26
  go_wp2_with fail
  refine wp_of_run (v := .slice (some ⟨w.heap.size, 0, none⟩) 54 54) (w' := w.alloc (.cells entCells 46)) (by kernel_rfl) ?_
  go_wp2
  go_ret
  exact ⟨rfl, rfl⟩
end Go.Proofs.YtopmbledpalmdaaGreatDoor
