/-
  The tokens of a snippet, as a relation on what is left of the text (texts never one behind the other): no program in sight.
-/
import Derived.Test.YtopmbledpalmdaaGreatDoorMem6
import Derived.Test.YtopmbledpalmdaaGreatDoorMem7
namespace Go.Proofs.YtopmbledpalmdaaGreatDoor

/-- A text behind the tokens. -/
def addTok (ts : List Tok) (u : Bs) (ts' : List Tok) : Prop :=
  (u = [] ∧ ts' = ts) ∨ (u ≠ [] ∧ (∀ x, ts.getLast? = some x → x.ty ≠ 1) ∧ ts' = ts ++ [⟨1, u, []⟩])

def titleL : Bs := [116, 105, 116, 108, 101]

inductive SnipL : Bs → List Tok → List Tok → Prop
  | done {ts : List Tok} : SnipL [] ts ts
  | start {l r r2 : Bs} {c : UInt8} {ts ts1 R : List Tok} {at_ : List (Bs × Bs)} (h : l.drop (findL [60] l) = 60 :: c :: r) (hc : isAlphaB c = true) (ht : addTok ts (unescL false (l.take (findL [60] l))) ts1)
      (ha : AttrsL ((c :: r).drop (wordL (c :: r)).length) [] at_ r2) (hn : lowL (wordL (c :: r)) ≠ titleL) (hr : SnipL r2 (ts1 ++ [⟨2, lowL (wordL (c :: r)), at_⟩]) R) : SnipL l ts R
  | title {l r r2 q : Bs} {c : UInt8} {ts ts1 ts2 R : List Tok} {at_ : List (Bs × Bs)} (h : l.drop (findL [60] l) = 60 :: c :: r) (hc : isAlphaB c = true) (ht : addTok ts (unescL false (l.take (findL [60] l))) ts1)
      (ha : AttrsL ((c :: r).drop (wordL (c :: r)).length) [] at_ r2) (hn : lowL (wordL (c :: r)) = titleL)
      (ht2 : addTok (ts1 ++ [⟨2, titleL, at_⟩]) (unescL false (r2.take (findL ttl (lowL r2)))) ts2) (h62 : r2.drop (findL ttl (lowL r2) + 7) = 62 :: q) (hr : SnipL (r2.drop (findL ttl (lowL r2))) ts2 R) : SnipL l ts R
  | stop {l r r2 : Bs} {c : UInt8} {ts ts1 R : List Tok} {at_ : List (Bs × Bs)} (h : l.drop (findL [60] l) = 60 :: 47 :: c :: r) (hc : isAlphaB c = true) (ht : addTok ts (unescL false (l.take (findL [60] l))) ts1)
      (ha : AttrsL ((c :: r).drop (wordL (c :: r)).length) [] at_ r2) (hr : SnipL r2 (ts1 ++ [⟨3, lowL (wordL (c :: r)), at_⟩]) R) : SnipL l ts R

theorem AttrsL.suffix {l E : Bs} {acc R : List (Bs × Bs)} (h : AttrsL l acc R E) : ∃ m, 1 ≤ m ∧ m ≤ l.length ∧ E = l.drop m := by
  induction h with
  | @stop l r acc h =>
    refine ⟨blanksL l + 1, by omega, ?_, ?_⟩
    · have := congrArg List.length h
      rw [List.length_drop] at this
      simp at this; omega
    · rw [← List.drop_drop, h]; rfl
  | @more l r w q v E c n acc R h hc hw hw0 hq hv hr ih =>
    obtain ⟨m, hm1, hm2, hm3⟩ := ih
    have h1 := congrArg List.length h
    rw [List.length_drop] at h1
    have h2 := congrArg List.length hq
    rw [List.length_drop, List.length_drop] at h2
    rw [List.length_drop, List.length_drop] at hm2
    simp only [List.length_cons] at h1 h2
    have hd : q = l.drop (blanksL l + w.length + blanksL ((c :: r).drop w.length) + 1) := by
      rw [← List.drop_drop, ← List.drop_drop, ← List.drop_drop, h, hq]; rfl
    refine ⟨blanksL l + w.length + blanksL ((c :: r).drop w.length) + 1 + blanksL q + n + m, by omega, by omega, ?_⟩
    rw [hm3, ← List.drop_drop, ← List.drop_drop, ← List.drop_drop, ← hd]

theorem addTok_pair {ts : List (Tok × Value)} {u : Bs} {ts1 : List Tok} (h : addTok (ts.map Prod.fst) u ts1) : ∃ ts' : List (Tok × Value), ts'.map Prod.fst = ts1 ∧ addText ts u ts' ∧ ts'.length ≤ ts.length + 1 := by
  rcases h with ⟨h1, rfl⟩ | ⟨h1, h2, rfl⟩
  · exact ⟨ts, rfl, .inl ⟨h1, rfl⟩, by omega⟩
  · refine ⟨ts ++ [(⟨1, u, []⟩, .slice none 0 0)], by simp, .inr ⟨h1, ?_, rfl⟩, by simp⟩
    intro x hx
    exact h2 x.1 (by rw [List.getLast?_map, hx]; rfl)
end Go.Proofs.YtopmbledpalmdaaGreatDoor
