/-
  htmlReplacer as a plain function on lists of bytes.
-/
import Derived.Test.YtopmbledpalmdaaGreatDoorEscS
import Derived.Lib.TrimUEq
import Derived.Lib.FieldsU
namespace Go.Proofs.YtopmbledpalmdaaGreatDoor
open Go.RowKit Go.Proofs

/-- The character in front, and how many bytes it takes (a bad byte: 65533, 1). -/
def runL (l : Bs) : Nat × Nat := Lib.decodeL l
def hexB (d : Nat) : UInt8 := if d < 10 then UInt8.ofNat (48 + d) else UInt8.ofNat (87 + d)
/-- zzHex of a number of four digits. -/
def hexL (r : Nat) : Bs := [hexB (r / 4096), hexB (r / 256 % 16), hexB (r / 16 % 16), hexB (r % 16)]
def nonB (r : Nat) : Bool := (decide (64976 ≤ r) && decide (r ≤ 65007)) || (decide (65520 ≤ r) && decide (r ≤ 65535))
/-- What stands for the character in front; none: it stays. -/
def replOf (tab : Nat → Bs) (n : Nat) (bad : Bool) (r : Nat) : Option Bs :=
  if r < n then (if tab r = [] then none else some (tab r))
  else if !bad && nonB r then some ([38, 35, 120] ++ hexL r ++ [59])
  else none
def encF (tab : Nat → Bs) (n : Nat) (bad : Bool) : Nat → Bs → Bs
  | 0, _ => []
  | f + 1, l => if l = [] then [] else (match replOf tab n bad (runL l).1 with | some t => t | none => l.take (runL l).2) ++ encF tab n bad f (l.drop (runL l).2)
def encL (tab : Nat → Bs) (n : Nat) (bad : Bool) (l : Bs) : Bs := encF tab n bad l.length l

theorem runL_pos (l : Bs) : 1 ≤ (runL l).2 := by
  unfold runL; rw [Lib.decodeL_N]; exact Lib.decodeN_ge1 _ _ _ _ _
theorem runL_le (l : Bs) (h : l ≠ []) : (runL l).2 ≤ l.length := by
  unfold runL; rw [Lib.decodeL_N]; exact Lib.decodeN_le_n' _ _ _ _ _ (List.length_pos_iff.2 h)
theorem runL_max (l : Bs) : (runL l).1 ≤ 1114111 := by
  unfold runL; rw [Lib.decodeL_N]; exact Lib.decodeN_rune_le _ _ _ _ _ (UInt8.toNat_lt _)
theorem encF_fuel (tab : Nat → Bs) (n : Nat) (bad : Bool) : ∀ (f g : Nat) (l : Bs), l.length ≤ f → l.length ≤ g → encF tab n bad f l = encF tab n bad g l
  | 0, 0, _, _, _ => rfl
  | 0, g + 1, l, hf, _ => by
    have : l = [] := List.eq_nil_of_length_eq_zero (by omega)
    subst this; rfl
  | f + 1, 0, l, _, hg => by
    have : l = [] := List.eq_nil_of_length_eq_zero (by omega)
    subst this; rfl
  | f + 1, g + 1, l, hf, hg => by
    simp only [encF]
    split
    · rfl
    · congr 1
      have := runL_pos l
      exact encF_fuel tab n bad f g _ (by rw [List.length_drop]; omega) (by rw [List.length_drop]; omega)
theorem encL_nil (tab : Nat → Bs) (n : Nat) (bad : Bool) : encL tab n bad [] = [] := rfl
theorem encL_step (tab : Nat → Bs) (n : Nat) (bad : Bool) (l : Bs) (h : l ≠ []) :
    encL tab n bad l = (match replOf tab n bad (runL l).1 with | some t => t | none => l.take (runL l).2) ++ encL tab n bad (l.drop (runL l).2) := by
  unfold encL
  obtain ⟨k, hk⟩ : ∃ k, l.length = k + 1 := ⟨l.length - 1, by have := List.length_pos_iff.2 h; omega⟩
  have hp := runL_pos l
  rw [hk]
  simp only [encF, if_neg h]
  congr 1
  exact encF_fuel tab n bad _ _ _ (by rw [List.length_drop]; omega) (Nat.le_refl _)
end Go.Proofs.YtopmbledpalmdaaGreatDoor
