/-
  The tokens of the reader in memory; the walk of (*snippet).text.
-/
import Derived.Test.YtopmbledpalmdaaGreatDoorMem3
import Derived.Deep.Onto
import Derived.Deep.AppendLies
namespace Go.Proofs.YtopmbledpalmdaaGreatDoor
open Go.RowKit Go.Proofs

theorem infoTok : (Tryz.prog.info? 29).map (fun i => (i.zero, i.size, i.bytes)) = some (some (.agg #[.int .i64 0, .string ⟨#[]⟩, .slice none 0 0]), 3, 48) := by kernel_rfl
theorem infoAttr : (Tryz.prog.info? 31).map (fun i => (i.zero, i.size, i.bytes)) = some (some (.agg #[.string ⟨#[]⟩, .string ⟨#[]⟩]), 2, 32) := by kernel_rfl

/-- A token's cells; its attributes' cells. -/
def tcells (ts : List (Tok × Value)) : List Value := ts.flatMap fun x => [.int .i64 (x.1.ty : Int), .string ⟨x.1.data.toArray⟩, x.2]
def acells (l : List (Bs × Bs)) : List Value := l.flatMap fun x => [.string ⟨x.1.toArray⟩, .string ⟨x.2.toArray⟩]
theorem tcells_len (ts : List (Tok × Value)) : (tcells ts).length = ts.length * 3 := by
  induction ts with
  | nil => rfl
  | cons a r ih => simp only [tcells, List.flatMap_cons, List.length_append, List.length_cons, List.length_nil] at ih ⊢; omega
theorem tcells_snoc (ts : List (Tok × Value)) (x : Tok × Value) : tcells ts ++ [.int .i64 (x.1.ty : Int), .string ⟨x.1.data.toArray⟩, x.2] = tcells (ts ++ [x]) := by
  simp [tcells]
theorem acells_len (l : List (Bs × Bs)) : (acells l).length = l.length * 2 := by
  induction l with
  | nil => rfl
  | cons a r ih => simp only [acells, List.flatMap_cons, List.length_append, List.length_cons, List.length_nil] at ih ⊢; omega
theorem acells_snoc (l : List (Bs × Bs)) (x : Bs × Bs) : acells l ++ [.string ⟨x.1.toArray⟩, .string ⟨x.2.toArray⟩] = acells (l ++ [x]) := by
  simp [acells]
theorem tcells_at : ∀ (ts : List (Tok × Value)) (j : Nat) (x : Tok × Value), ts[j]? = some x → (tcells ts)[j * 3]? = some (.int .i64 (x.1.ty : Int)) ∧ (tcells ts)[j * 3 + 1]? = some (.string ⟨x.1.data.toArray⟩) ∧ (tcells ts)[j * 3 + 2]? = some x.2
  | [], j, x, h => by simp at h
  | a :: r, 0, x, h => by simp at h; subst h; exact ⟨rfl, rfl, rfl⟩
  | a :: r, j + 1, x, h => by
    have ih := tcells_at r j x (by simpa using h)
    rw [show (j + 1) * 3 = j * 3 + 3 by omega]
    exact ih

/-- A token's attributes lie in a row of their own. -/
def AttrIs (W : World) (base : Nat) (x : Tok × Value) : Prop := W.ownsRow base 31 2 x.2 x.1.attr.length (acells x.1.attr)
/-- The reader and its tokens, all in blocks from base on. -/
def SM (W : World) (base X : Nat) (s : ByteArray) (p : Nat) (ts : List (Tok × Value)) : Prop :=
  base ≤ X ∧ ∃ ov, SX W X s p ov false ∧ W.ownsRow base 29 3 ov ts.length (tcells ts) ∧ ∀ x ∈ ts, AttrIs W base x

theorem row_at {W : World} {base : Nat} {e : TypeId} {size n : Nat} {v : Value} {xs : List Value} (h : W.ownsRow base e size v n xs) {g : Nat} (hg : v.ownBlock = some g) : ∃ cur : Array Value, W.heap[g]? = some (.cells cur e (0, 0)) := by
  rcases h.2 with ⟨rfl, _⟩ | ⟨g', cap, cur, rfl, _, hgg, _⟩
  · simp [Value.ownBlock] at hg
  · simp [Value.ownBlock] at hg; subst hg; exact ⟨cur, hgg⟩
/-- Rows of different kinds do not share a block. -/
theorem rows_apart {W : World} {b1 b2 : Nat} {e1 e2 : TypeId} {s1 s2 n1 n2 : Nat} {v1 v2 : Value} {x1 x2 : List Value} (h1 : W.ownsRow b1 e1 s1 v1 n1 x1) (h2 : W.ownsRow b2 e2 s2 v2 n2 x2) (hne : e1 ≠ e2) : v1.ownBlock = none ∨ v1.ownBlock ≠ v2.ownBlock := by
  cases hv : v1.ownBlock with
  | none => exact .inl rfl
  | some g =>
    refine .inr fun h => ?_
    obtain ⟨c1, hc1⟩ := row_at h1 hv
    obtain ⟨c2, hc2⟩ := row_at h2 h.symm
    rw [hc1] at hc2
    injection hc2 with hc2
    injection hc2 with _ hc2 _
    exact hne hc2
theorem row_apart_X {W : World} {X : Nat} {s : ByteArray} {p : Nat} {ov : Value} {bad : Bool} (hx : SX W X s p ov bad) {b : Nat} {e : TypeId} {sz n : Nat} {v : Value} {xs : List Value} (h : W.ownsRow b e sz v n xs) (hne : e ≠ 35) : v.ownBlock ≠ some X := by
  intro hv
  obtain ⟨c, hc⟩ := row_at h hv
  unfold SX at hx
  rw [hx] at hc
  injection hc with hc
  injection hc with _ hc _
  exact hne hc.symm

/-- What turns the reader's block alone keeps its tokens. -/
theorem SM.kept {W W' : World} {base X : Nat} {s : ByteArray} {p p' : Nat} {ts : List (Tok × Value)} {ov : Value} (hbx : base ≤ X) (hx : SX W X s p ov false) (ho : W.ownsRow base 29 3 ov ts.length (tcells ts)) (ha : ∀ x ∈ ts, AttrIs W base x) (hx' : SX W' X s p' ov false) (hg : W.grownBy W' (some X)) : SM W' base X s p' ts :=
  ⟨hbx, ov, hx', ho.kept hg (.inr (row_apart_X hx ho (by decide))), fun x hm => (ha x hm).kept hg (.inr (row_apart_X hx (ha x hm) (by decide)))⟩
theorem only_under {W W' : World} {X base : Nat} (hg : W.grownBy W' (some X)) (hb : base ≤ X) (hbw : base ≤ W.heap.size) : Below base W W' :=
  (Below.refl base W).grown hg hbw fun k hk => by cases hk; exact hb
theorem SM.drewN {W : World} {base X : Nat} {s : ByteArray} {p : Nat} {ts : List (Tok × Value)} (h : SM W base X s p ts) (n : Nat) : SM (W.drewN n) base X s p ts := h

/-- Behind a new token. -/
theorem SM.more {W W2 W3 : World} {base X : Nat} {s : ByteArray} {p : Nat} {ts : List (Tok × Value)} {ov ov' : Value} {x : Tok × Value} (hbx : base ≤ X) (hx : SX W X s p ov false) (ho : W.ownsRow base 29 3 ov ts.length (tcells ts)) (ha : ∀ x ∈ ts, AttrIs W base x) (hax : AttrIs W base x)
    (ho2 : W2.ownsRow base 29 3 ov' (ts.length + 1) (tcells (ts ++ [x]))) (hg : W.grownBy W2 ov.ownBlock) (h3 : W3 = W2.setCell ⟨X, 2, none⟩ ov') : SM W3 base X s p (ts ++ [x]) := by
  subst h3
  have hx2 : SX W2 X s p ov false := by
    unfold SX at hx ⊢
    rw [hg.block X (SX.lt hx) (row_apart_X hx ho (by decide)).symm]
    exact hx
  have ha2 : ∀ y ∈ ts ++ [x], AttrIs W2 base y := by
    intro y hy
    have hy' : AttrIs W base y := by
      rcases List.mem_append.1 hy with h | h
      · exact ha y h
      · rw [List.mem_singleton.1 h]; exact hax
    exact hy'.kept hg (rows_apart hy' ho (by decide))
  have hg3 : W2.grownBy (W2.setCell ⟨X, 2, none⟩ ov') (some X) := only_set (only_refl _ _) _ _
  exact ⟨hbx, ov', hx2.set2 ov', by rw [List.length_append]; exact ho2.kept hg3 (.inr (row_apart_X hx2 ho2 (by decide))), fun y hy => (ha2 y hy).kept hg3 (.inr (row_apart_X hx2 (ha2 y hy) (by decide)))⟩

set_option maxRecDepth 1000000 in
set_option maxHeartbeats 1600000 in
theorem xtext_none (s : ByteArray) (base X p : Nat) (ts : List (Tok × Value)) (W : World) (hm : SM W base X s p ts) (hl : ts.length ≤ 1000000000000) :
    Calls Tryz.prog 14 #[.pointer (some ⟨X, 0, none⟩), .string ⟨#[]⟩] W fun e w' => e = .returned (.tuple #[]) ∧ w' = W := by
  obtain ⟨hbx, ov, hx, ho, ha⟩ := hm
  have hshape : (ov = .slice none 0 0 ∧ ts.length = 0) ∨ ∃ g cap, ov = .slice (some ⟨g, 0, none⟩) ts.length cap := by
    rcases ho.2 with ⟨h, h0⟩ | ⟨g, cap, cur, h, _⟩
    · exact .inl ⟨h, h0⟩
    · exact .inr ⟨g, cap, h⟩
  clear ho ha
  have c2 := hx.c2
  clear hx
  rcases hshape with ⟨rfl, _⟩ | ⟨g, cap, rfl⟩
  all_goals
    go_enter Tryz.func14, Tryz.ntmps14
    go_wp2_with fail
    go_end0
    exact ⟨rfl, rfl⟩
end Go.Proofs.YtopmbledpalmdaaGreatDoor
