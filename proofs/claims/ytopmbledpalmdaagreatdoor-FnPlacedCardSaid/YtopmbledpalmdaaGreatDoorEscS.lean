/-
  The escapers of package html/template, as plain functions on lists of bytes; the walks of the two tables.
-/
import Derived.Test.YtopmbledpalmdaaGreatDoorWalkF0
namespace Go.Proofs.YtopmbledpalmdaaGreatDoor
open Go.RowKit Go.Proofs

/-- htmlReplacementTable, htmlNospaceReplacementTable: what stands for a byte; [] where nothing does. -/
def replB (n : Nat) : Bs :=
  if n = 0 then [239, 191, 189] else if n = 34 then [38, 35, 51, 52, 59] else if n = 38 then [38, 97, 109, 112, 59] else if n = 39 then [38, 35, 51, 57, 59] else if n = 43 then [38, 35, 52, 51, 59]
  else if n = 60 then [38, 108, 116, 59] else if n = 62 then [38, 103, 116, 59] else []
def replN (n : Nat) : Bs :=
  if n = 0 then [38, 35, 120, 102, 102, 102, 100, 59] else if n = 9 then [38, 35, 57, 59] else if n = 10 then [38, 35, 49, 48, 59] else if n = 11 then [38, 35, 49, 49, 59] else if n = 12 then [38, 35, 49, 50, 59]
  else if n = 13 then [38, 35, 49, 51, 59] else if n = 32 then [38, 35, 51, 50, 59] else if n = 34 then [38, 35, 51, 52, 59] else if n = 38 then [38, 97, 109, 112, 59] else if n = 39 then [38, 35, 51, 57, 59]
  else if n = 43 then [38, 35, 52, 51, 59] else if n = 60 then [38, 108, 116, 59] else if n = 61 then [38, 35, 54, 49, 59] else if n = 62 then [38, 103, 116, 59] else if n = 96 then [38, 35, 57, 54, 59] else []
def tabCells (f : Nat → Bs) (n : Nat) : Array Value := ((List.range n).map fun i => Value.string ⟨(f i).toArray⟩).toArray

set_option maxRecDepth 100000 in
set_option maxHeartbeats 1600000 in
theorem tableB_any (w : World) : Calls Tryz.prog 43 #[] w fun e w' => e = .returned (.slice (some ⟨w.heap.size, 0, none⟩) 63 63) ∧ w.alloc (.cells (tabCells replB 63) 9) = w' := by
  go_enter Tryz.func43, Tryz.ntmps43
  go_wp2_with fail
  go_ret
  exact ⟨rfl, rfl⟩
set_option maxRecDepth 100000 in
set_option maxHeartbeats 1600000 in
theorem tableN_any (w : World) : Calls Tryz.prog 45 #[] w fun e w' => e = .returned (.slice (some ⟨w.heap.size, 0, none⟩) 97 97) ∧ w.alloc (.cells (tabCells replN 97) 9) = w' := by
  go_enter Tryz.func45, Tryz.ntmps45
  go_wp2_with fail
  go_ret
  exact ⟨rfl, rfl⟩
end Go.Proofs.YtopmbledpalmdaaGreatDoor
