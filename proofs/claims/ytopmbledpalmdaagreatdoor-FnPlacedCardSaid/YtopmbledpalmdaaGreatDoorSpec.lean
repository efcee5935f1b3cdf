/-
  The plain functions of package spec (the reading of snippets of HTML), over lists of bytes: no program in sight.
-/
import Derived.Lib.MapLaws
namespace Go.Proofs.YtopmbledpalmdaaGreatDoor
abbrev Bs := List UInt8

def isAlphaB (c : UInt8) : Bool := (decide (97 ≤ c.toNat) && decide (c.toNat ≤ 122)) || (decide (65 ≤ c.toNat) && decide (c.toNat ≤ 90))
def isAlnumB (c : UInt8) : Bool := isAlphaB c || (decide (48 ≤ c.toNat) && decide (c.toNat ≤ 57))
def isSpaceB (c : UInt8) : Bool := c.toNat == 32 || c.toNat == 10 || c.toNat == 9 || c.toNat == 12 || c.toNat == 13

/-- spec.size: how many bytes the character in front has; 0: it is none. -/
def sizeL : Bs → Nat
  | [] => 0
  | c :: r =>
    if c.toNat < 128 then 1
    else if 194 ≤ c.toNat ∧ c.toNat < 224 then
      match r with
      | c1 :: _ => if c1.toNat / 64 = 2 then 2 else 0
      | _ => 0
    else if 224 ≤ c.toNat ∧ c.toNat < 240 then
      match r with
      | c1 :: c2 :: _ => if c1.toNat / 64 = 2 ∧ c2.toNat / 64 = 2 then
          (let v := (c.toNat % 16 * 64 + c1.toNat % 64) * 64 + c2.toNat % 64
           if v < 2048 ∨ (55296 ≤ v ∧ v ≤ 57343) then 0 else 3) else 0
      | _ => 0
    else if 240 ≤ c.toNat ∧ c.toNat < 245 then
      match r with
      | c1 :: c2 :: c3 :: _ => if c1.toNat / 64 = 2 ∧ c2.toNat / 64 = 2 ∧ c3.toNat / 64 = 2 then
          (let v := ((c.toNat % 8 * 64 + c1.toNat % 64) * 64 + c2.toNat % 64) * 64 + c3.toNat % 64
           if v < 65536 ∨ 1114111 < v then 0 else 4) else 0
      | _ => 0
    else 0

/-- spec.Valid. -/
def validF : Nat → Bs → Bool
  | 0, l => l.isEmpty
  | f + 1, l => if l = [] then true else if sizeL l = 0 then false else validF f (l.drop (sizeL l))
def validL (l : Bs) : Bool := validF l.length l

theorem sizeL_le (l : Bs) : sizeL l ≤ l.length := by
  rcases l with _ | ⟨c, r⟩
  · simp [sizeL]
  · simp only [sizeL]
    split
    · simp
    · split
      · rcases r with _ | ⟨c1, r⟩
        · simp
        · simp only []; split <;> simp
      · split
        · rcases r with _ | ⟨c1, _ | ⟨c2, r⟩⟩
          · simp
          · simp
          · simp only []; split
            · split <;> simp
            · simp
        · split
          · rcases r with _ | ⟨c1, _ | ⟨c2, _ | ⟨c3, r⟩⟩⟩
            · simp
            · simp
            · simp
            · simp only []; split
              · split <;> simp
              · simp
          · simp
theorem validF_fuel : ∀ (f g : Nat) (l : Bs), l.length ≤ f → l.length ≤ g → validF f l = validF g l
  | 0, g, l, hf, _ => by
    have : l = [] := List.eq_nil_of_length_eq_zero (by omega)
    subst this
    cases g <;> rfl
  | f + 1, 0, l, _, hg => by
    have : l = [] := List.eq_nil_of_length_eq_zero (by omega)
    subst this
    rfl
  | f + 1, g + 1, l, hf, hg => by
    simp only [validF]
    split
    · rfl
    · split
      · rfl
      · exact validF_fuel f g _ (by rw [List.length_drop]; omega) (by rw [List.length_drop]; omega)
theorem validL_nil : validL [] = true := rfl
theorem validL_step (l : Bs) (h : l ≠ []) : validL l = if sizeL l = 0 then false else validL (l.drop (sizeL l)) := by
  unfold validL
  have hl : 0 < l.length := List.length_pos_iff.2 h
  obtain ⟨n, hn⟩ : ∃ n, l.length = n + 1 := ⟨l.length - 1, by omega⟩
  rw [hn]
  simp only [validF, if_neg h]
  split
  · rfl
  · exact validF_fuel _ _ _ (by rw [List.length_drop]; omega) (Nat.le_refl _)

def hasL (l : Bs) (c : UInt8) : Bool := l.any (fun x => x == c)
def hasAnyL (l b : Bs) : Bool := l.any (fun x => hasL b x)

structure Ent where
  name : Bs
  text : Bs
  legacy : Bool

def entL : List Ent := [
  ⟨[97, 109, 112], [38], true⟩, ⟨[108, 116], [60], true⟩, ⟨[103, 116], [62], true⟩, ⟨[113, 117, 111, 116], [34], true⟩, ⟨[65, 77, 80], [38], true⟩, ⟨[76, 84], [60], true⟩]

def wordL (l : Bs) : Bs := l.takeWhile isAlnumB
def lowB (c : UInt8) : UInt8 := if 65 ≤ c.toNat ∧ c.toNat ≤ 90 then c + 32 else c
def lowL (l : Bs) : Bs := l.map lowB

/-- spec.find, from the place on at which the suffix begins: how far the first one lies; the whole length, if there is none. -/
def findL (what : Bs) : Bs → Nat
  | [] => 0
  | c :: r => if what.isPrefixOf (c :: r) then 0 else findL what r + 1

def digV (c : UInt8) : Nat :=
  if 48 ≤ c.toNat ∧ c.toNat ≤ 57 then c.toNat - 48 else if 97 ≤ c.toNat ∧ c.toNat ≤ 102 then c.toNat - 87 else if 65 ≤ c.toNat ∧ c.toNat ≤ 70 then c.toNat - 55 else 99
end Go.Proofs.YtopmbledpalmdaaGreatDoor
