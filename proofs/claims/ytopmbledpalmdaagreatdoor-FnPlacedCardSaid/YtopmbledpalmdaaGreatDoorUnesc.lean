/-
  Plain laws of spec.Reference and spec.Unescaped.
-/
import Derived.Test.YtopmbledpalmdaaGreatDoorSpec2
namespace Go.Proofs.YtopmbledpalmdaaGreatDoor

theorem codedL_len (n : Nat) : (codedL n).length ≤ 5 := by
  unfold codedL
  repeat' split
  all_goals simp
theorem digitsL_len' (b : Nat) : ∀ (l : Bs) (v : Nat), (digitsL b v l).2 ≤ l.length
  | [], v => by simp [digitsL]
  | c :: r, v => by
    simp only [digitsL]
    split
    · have := digitsL_len' b r (min (v * b + digV c) 1114112)
      simp; omega
    · simp
theorem head_some_len (l : Bs) (n : Nat) (c : UInt8) (h : ((l.drop n).head? == some c) = true) : n < l.length := by
  have h1 : (l.drop n) ≠ [] := by intro e; rw [e] at h; simp at h
  have : 0 < (l.drop n).length := List.length_pos_iff.2 h1
  rw [List.length_drop] at this; omega

theorem numericL_ok (l : Bs) (t : Bs) (n : Nat) (h : numericL l = some (t, n)) : 1 ≤ n ∧ n ≤ l.length + 2 ∧ t.length ≤ 5 := by
  unfold numericL at h
  generalize hhx : (l.head? == some 120 || l.head? == some 88) = hx at h
  simp only at h
  by_cases hz : (digitsL (if hx = true then 16 else 10) 0 (if hx = true then l.drop 1 else l)).2 = 0
  · rw [if_pos hz] at h; cases h
  · rw [if_neg hz] at h
    injection h with h
    injection h with h1 h2
    subst h1
    have hd := digitsL_len' (if hx = true then 16 else 10) (if hx = true then l.drop 1 else l) 0
    have hl : (if hx = true then l.drop 1 else l).length + (if hx = true then 1 else 0) ≤ l.length := by
      cases hx
      · simp
      · have : 0 < l.length := by
          rcases l with _ | ⟨c, r⟩
          · simp at hhx
          · simp
        simp; omega
    generalize hD : (digitsL (if hx = true then 16 else 10) 0 (if hx = true then l.drop 1 else l)).2 = D at *
    refine ⟨?_, ?_, codedL_len _⟩
    · subst h2
      have e2 : 2 ≤ (if hx = true then 3 else 2) := by cases hx <;> simp
      generalize (if hx = true then 3 else 2) = A at *
      split <;> omega
    · subst h2
      by_cases h3 : ((l.drop ((if hx = true then 3 else 2) + D - 2)).head? == some 59) = true
      · rw [if_pos h3]
        have := head_some_len l _ 59 h3
        cases hx <;> simp at hl hd this ⊢ <;> omega
      · rw [if_neg h3]
        cases hx <;> simp at hl hd ⊢ <;> omega

theorem ent_text (e : Ref) (h : e ∈ entitiesL) : e.text.length ≤ 5 := by
  have h1 : ∀ e ∈ entitiesL, e.text.length ≤ 5 := by
    unfold entitiesL
    simp
  exact h1 e h

theorem refTry_ok (l w : Bs) (hw : w.length ≤ l.length) (b : Bs × Nat) (e : Ref) (he : e.text.length ≤ 5) (hb : b.2 ≤ l.length + 1 ∧ b.1.length ≤ 5) :
    (refTry l w b e).2 ≤ l.length + 1 ∧ (refTry l w b e).1.length ≤ 5 := by
  unfold refTry
  generalize hs : ((l.drop e.name.length).head? == some 59) = semi
  simp only
  by_cases h1 : (decide (w.length < e.name.length) || w.take e.name.length != e.name || (!semi && !e.legacy) || (semi && decide (e.name.length < w.length) && !e.legacy)) = true
  · rw [if_pos h1]; exact hb
  · rw [if_neg h1]
    have h2 : ¬ w.length < e.name.length := by
      intro h; exact h1 (by simp [h])
    by_cases h3 : e.name.length + 1 + (if semi = true then 1 else 0) ≤ b.2
    · rw [if_pos h3]; exact hb
    · rw [if_neg h3]
      refine ⟨?_, he⟩
      cases semi
      · simp; omega
      · have := head_some_len l _ 59 hs
        simp; omega

theorem fold_ok (l w : Bs) (hw : w.length ≤ l.length) : ∀ (es : List Ref), (∀ e ∈ es, e.text.length ≤ 5) → ∀ b : Bs × Nat, b.2 ≤ l.length + 1 ∧ b.1.length ≤ 5 → (es.foldl (refTry l w) b).2 ≤ l.length + 1 ∧ (es.foldl (refTry l w) b).1.length ≤ 5
  | [], _, _, hb => hb
  | e :: es, h, b, hb => fold_ok l w hw es (fun x hx => h x (List.mem_cons_of_mem _ hx)) _ (refTry_ok l w hw b e (h e (List.mem_cons_self ..)) hb)

theorem referenceL_ok (l : Bs) (a : Bool) (t : Bs) (n : Nat) (h : referenceL l a = some (t, n)) : 1 ≤ n ∧ n ≤ l.length + 1 ∧ t.length ≤ 5 := by
  rcases l with _ | ⟨c, r⟩
  · cases h
  · simp only [referenceL] at h
    split at h
    · have := numericL_ok r t n h
      simp; omega
    · have hf := fold_ok (c :: r) (wordL (c :: r)) (List.takeWhile_prefix _).length_le entitiesL ent_text ([], 0) (by simp)
      generalize entitiesL.foldl (refTry (c :: r) (wordL (c :: r))) ([], 0) = F at h hf
      generalize hC : (decide (F.2 = 0) || (a && ((c :: r).drop (F.2 - 2)).head? != some 59 && (match (c :: r).drop (F.2 - 1) with | [] => false | x :: _ => x == 61 || isAlnumB x))) = C at h
      cases C with
      | true => simp at h
      | false =>
        simp at h
        subst h
        have h2 : ¬ n = 0 := by intro h; subst h; simp at hC
        simp at hf ⊢
        omega

theorem unescF_fuel (a : Bool) : ∀ (f g : Nat) (l : Bs), l.length ≤ f → l.length ≤ g → unescF a f l = unescF a g l
  | 0, g, l, hf, _ => by
    have : l = [] := List.eq_nil_of_length_eq_zero (by omega)
    subst this
    cases g <;> rfl
  | f + 1, 0, l, _, hg => by
    have : l = [] := List.eq_nil_of_length_eq_zero (by omega)
    subst this
    rfl
  | f + 1, g + 1, [], _, _ => rfl
  | f + 1, g + 1, c :: r, hf, hg => by
    simp only [List.length_cons] at hf hg
    simp only [unescF]
    rw [unescF_fuel a f g r (by omega) (by omega)]
    split
    · split
      · rename_i t n h
        have := referenceL_ok r a t n h
        rw [unescF_fuel a f g _ (by rw [List.length_drop]; simp; omega) (by rw [List.length_drop]; simp; omega)]
      · rfl
    · rfl
theorem unescL_nil (a : Bool) : unescL a [] = [] := rfl
theorem unescL_plain (a : Bool) (c : UInt8) (r : Bs) (h : c ≠ 38) : unescL a (c :: r) = c :: unescL a r := by
  have : (c == 38) = false := by simp [h]
  simp only [unescL, List.length_cons, unescF, this, Bool.false_eq_true, if_false]
theorem unescL_none (a : Bool) (r : Bs) (h : referenceL r a = none) : unescL a (38 :: r) = 38 :: unescL a r := by
  simp only [unescL, List.length_cons, unescF, h]
  rfl
theorem unescL_some (a : Bool) (r t : Bs) (n : Nat) (h : referenceL r a = some (t, n)) : unescL a (38 :: r) = t ++ unescL a ((38 :: r).drop n) := by
  have h1 := referenceL_ok r a t n h
  simp only [unescL, List.length_cons, unescF, h]
  rw [show ((38 : UInt8) == 38) = true from rfl, if_pos rfl, unescF_fuel a _ _ ((38 :: r).drop n) (by rw [List.length_drop]; simp; omega) (Nat.le_refl _)]
theorem unescL_len (a : Bool) : ∀ (f : Nat) (l : Bs), l.length ≤ f → (unescL a l).length ≤ 5 * l.length
  | 0, l, hf => by
    have : l = [] := List.eq_nil_of_length_eq_zero (by omega)
    subst this
    simp [unescL_nil]
  | f + 1, [], _ => by simp [unescL_nil]
  | f + 1, c :: r, hf => by
    simp only [List.length_cons] at hf
    by_cases hc : c = 38
    · subst hc
      cases h : referenceL r a with
      | none =>
        rw [unescL_none a r h]
        have := unescL_len a f r (by omega)
        simp; omega
      | some x =>
        obtain ⟨t, n⟩ := x
        have h1 := referenceL_ok r a t n h
        rw [unescL_some a r t n h]
        have := unescL_len a f ((38 :: r).drop n) (by rw [List.length_drop]; simp; omega)
        rw [List.length_drop] at this
        simp only [List.length_append, List.length_cons] at this ⊢
        omega
    · rw [unescL_plain a c r hc]
      have := unescL_len a f r (by omega)
      simp; omega
end Go.Proofs.YtopmbledpalmdaaGreatDoor
