/-
  Small lemmas for the walk of spec.Known: the cells of the two lists.
-/
import Derived.Test.YtopmbledpalmdaaGreatDoorWalkD
import Derived.Test.YtopmbledpalmdaaGreatDoorWalkE
namespace Go.Proofs.YtopmbledpalmdaaGreatDoor
open Go.RowKit Go.Proofs

theorem flat3 {α : Type} (f : α → List Value) (hf : ∀ x, (f x).length = 3) : ∀ (l : List α) (j i : Nat) (hj : j < l.length), i < 3 → (l.flatMap f)[j * 3 + i]? = (f l[j])[i]?
  | [], j, i, hj, _ => by simp at hj
  | x :: l, 0, i, _, hi => by
    simp only [List.flatMap_cons, Nat.zero_mul, Nat.zero_add, List.getElem_cons_zero]
    rw [List.getElem?_append_left (by rw [hf]; exact hi)]
  | x :: l, j + 1, i, hj, hi => by
    simp only [List.flatMap_cons, List.getElem_cons_succ]
    rw [List.getElem?_append_right (by rw [hf]; omega), hf, show (j + 1) * 3 + i - 3 = j * 3 + i by omega]
    exact flat3 f hf l j i (by simpa using hj) hi

theorem ent_len : entitiesL.length = 54 := rfl
theorem ent_cell (w : World) (E : Nat) (h : w.heap[E]? = some (.cells entCells 46 (0, 0))) (j : Nat) (hj : j < 54) :
    w.cell? ⟨E, j * 3, none⟩ = some (.string ⟨(entitiesL[j]'(by rw [ent_len]; exact hj)).name.toArray⟩) ∧ w.cell? ⟨E, j * 3 + 1, none⟩ = some (.string ⟨(entitiesL[j]'(by rw [ent_len]; exact hj)).text.toArray⟩) ∧
      w.cell? ⟨E, j * 3 + 2, none⟩ = some (.bool (entitiesL[j]'(by rw [ent_len]; exact hj)).legacy) := by
  have hf : ∀ x, (refCells x).length = 3 := fun _ => rfl
  have hc : ∀ i, i < 3 → w.cell? ⟨E, j * 3 + i, none⟩ = (refCells (entitiesL[j]'(by rw [ent_len]; exact hj)))[i]? := fun i hi => by
    rw [cell_of_row w E (j * 3 + i) entCells _ (0, 0) h]
    unfold entCells
    rw [List.getElem?_toArray]
    exact flat3 refCells hf entitiesL j i (by rw [ent_len]; exact hj) hi
  exact ⟨hc 0 (by omega), hc 1 (by omega), hc 2 (by omega)⟩
theorem ent_any (P : Ref → Bool) (j : Nat) (hj : j < 54) : (entitiesL.take (j + 1)).any P = ((entitiesL.take j).any P || P (entitiesL[j]'(by rw [ent_len]; exact hj))) := by
  rw [List.take_succ_eq_append_getElem (by rw [ent_len]; exact hj), List.any_append]
  simp
theorem strange_len : strangeL.length = 18 := rfl
theorem strange_cell (w : World) (E : Nat) (h : w.heap[E]? = some (.cells strangeCells 9 (0, 0))) (j : Nat) (hj : j < 18) :
    w.cell? ⟨E, j, none⟩ = some (.string ⟨(strangeL[j]'(by rw [strange_len]; exact hj)).toArray⟩) := by
  rw [cell_of_row w E j strangeCells _ (0, 0) h]
  unfold strangeCells
  rw [List.getElem?_toArray, List.getElem?_map, List.getElem?_eq_getElem (by rw [strange_len]; exact hj)]
  rfl
theorem strange_anyL (P : Bs → Bool) (j : Nat) (hj : j < 18) : (strangeL.take (j + 1)).any P = ((strangeL.take j).any P || P (strangeL[j]'(by rw [strange_len]; exact hj))) := by
  rw [List.take_succ_eq_append_getElem (by rw [strange_len]; exact hj), List.any_append]
  simp

end Go.Proofs.YtopmbledpalmdaaGreatDoor
