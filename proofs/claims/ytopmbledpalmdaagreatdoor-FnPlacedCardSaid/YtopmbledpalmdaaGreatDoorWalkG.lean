/-
  The walks of spec.charOf, spec.Coded, spec.numeric.
-/
import Derived.Test.YtopmbledpalmdaaGreatDoorWalkF
namespace Go.Proofs.YtopmbledpalmdaaGreatDoor
open Go.RowKit Go.Proofs

def c1Cells : Array Value := (c1Table.map fun x : Nat => Value.int .i64 ((x : Nat) : Int)).toArray
theorem c1_get (m : Nat) (hm : m < 32) : c1Cells[m]? = some (.int .i64 ((c1Table.getD m 0 : Nat) : Int)) := by
  have h : ∀ m : Fin 32, c1Cells[m.val]? = some (.int .i64 ((c1Table.getD m.val 0 : Nat) : Int)) := by
    intro m
    have hm := m.isLt
    unfold c1Cells
    rw [List.getElem?_toArray, List.getElem?_map, List.getD_eq_getElem?_getD, List.getElem?_eq_getElem (by exact hm)]
    rfl
  exact h ⟨m, hm⟩

set_option maxRecDepth 100000 in
set_option maxHeartbeats 800000 in
theorem charOf_any (n : Nat) (w : World) (hn : n ≤ 1114112) :
    Calls Tryz.prog 48 #[.int .i64 (n : Int)] w fun e w' => e = .returned (.int .i64 (charOfL n : Int)) ∧ Below w.heap.size w w' := by
  by_cases h1 : n = 0 ∨ 1114111 < n ∨ (55296 ≤ n ∧ n ≤ 57343)
  · have hv : (charOfL n : Int) = 65533 := by unfold charOfL; rw [if_pos h1]; rfl
    rw [hv]; clear hv
    rcases h1 with h1 | h1 | ⟨h1, h2⟩
    · subst h1
      go_enter Tryz.func48, Tryz.ntmps48
      go_wp2
      go_ret
      exact ⟨rfl, Below.refl _ _⟩
    · go_enter Tryz.func48, Tryz.ntmps48
      go_wp2
      go_ret
      exact ⟨rfl, Below.refl _ _⟩
    · go_enter Tryz.func48, Tryz.ntmps48
      go_wp2
      go_ret
      exact ⟨rfl, Below.refl _ _⟩
  by_cases h2 : 128 ≤ n ∧ n < 160
  · obtain ⟨m, rfl⟩ : ∃ m, n = 128 + m := ⟨n - 128, by omega⟩
    have hv : charOfL (128 + m) = c1Table.getD m 0 := by unfold charOfL; rw [if_neg h1, if_pos h2]; congr 1; omega
    rw [hv]; clear hv
    have hm : m < 32 := by omega
    have hc := c1_get m hm
    obtain ⟨y, hy⟩ : ∃ y, c1Table.getD m 0 = y := ⟨_, rfl⟩
    rw [hy] at hc ⊢
    clear hy h1 h2
    have hl : ∀ h, (c1Table.map fun x : Nat => Value.int .i64 ((x : Nat) : Int))[m]'h = .int .i64 (y : Int) := fun h => by
      unfold c1Cells at hc
      rw [List.getElem?_toArray, List.getElem?_eq_getElem h] at hc
      exact Option.some.inj hc
    have HL := Lib.hid hl; clear hl hc
    have h0 : (128 + (m : Int) == 0) = false := by simp; omega
    go_enter Tryz.func48, Tryz.ntmps48
    go_wp2
    go_ret
    exact ⟨congrArg Ending.returned (HL.out _), (Below.refl _ w).alloc (Nat.le_refl _) _⟩
  · have hv : charOfL n = n := by unfold charOfL; rw [if_neg h1, if_neg h2]
    rw [hv]; clear hv
    have h3 : n ≠ 0 := by omega
    have h4 : n < 128 ∨ 160 ≤ n := by omega
    have h5 : n < 55296 ∨ 57343 < n := by omega
    have h6 : n ≤ 1114111 := by omega
    clear h1 h2
    have h7 : ((n : Int) == 0) = false := by simp; omega
    clear h3
    rcases h4 with h4 | h4
    · go_enter Tryz.func48, Tryz.ntmps48
      go_wp2
      go_ret
      exact ⟨rfl, (Below.refl _ w).alloc (Nat.le_refl _) _⟩
    rcases h5 with h5 | h5
    · go_enter Tryz.func48, Tryz.ntmps48
      go_wp2
      go_ret
      exact ⟨rfl, (Below.refl _ w).alloc (Nat.le_refl _) _⟩
    · go_enter Tryz.func48, Tryz.ntmps48
      go_wp2
      go_ret
      exact ⟨rfl, (Below.refl _ w).alloc (Nat.le_refl _) _⟩

end Go.Proofs.YtopmbledpalmdaaGreatDoor
