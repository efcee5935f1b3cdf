/-
  The reader of snippets in memory: its block, and what keeps it.
-/
import Derived.Test.YtopmbledpalmdaaGreatDoorWalkK
import Derived.Test.YtopmbledpalmdaaGreatDoorSpec3
namespace Go.Proofs.YtopmbledpalmdaaGreatDoor
open Go.RowKit Go.Proofs

/-- The reader: its text, its place, its tokens' slice, its flag. -/
def SX (W : World) (X : Nat) (s : ByteArray) (p : Nat) (ov : Value) (bad : Bool) : Prop := W.heap[X]? = some (.cells #[.string s, .int .i64 (p : Int), ov, .bool bad] 35 (0, 0))
section
variable {W W' : World} {X : Nat} {s : ByteArray} {p : Nat} {ov : Value} {bad : Bool}
theorem SX.lt (h : SX W X s p ov bad) : X < W.heap.size := by
  rcases Nat.lt_or_ge X W.heap.size with hlt | hge
  · exact hlt
  · unfold SX at h; rw [Array.getElem?_eq_none hge] at h; cases h
theorem SX.c0 (h : SX W X s p ov bad) : W.cell? ⟨X, 0, none⟩ = some (.string s) := cell_of_row W X 0 _ _ (0, 0) h
theorem SX.c1 (h : SX W X s p ov bad) : W.cell? ⟨X, 1, none⟩ = some (.int .i64 (p : Int)) := cell_of_row W X 1 _ _ (0, 0) h
theorem SX.c2 (h : SX W X s p ov bad) : W.cell? ⟨X, 2, none⟩ = some ov := cell_of_row W X 2 _ _ (0, 0) h
theorem SX.c3 (h : SX W X s p ov bad) : W.cell? ⟨X, 3, none⟩ = some (.bool bad) := cell_of_row W X 3 _ _ (0, 0) h
theorem SX.fz (h : SX W X s p ov bad) (i : Nat) : W.frozen? ⟨X, i, none⟩ = false := by
  unfold SX at h
  simp [World.frozen?, h]
theorem SX.drewN (h : SX W X s p ov bad) (n : Nat) : SX (W.drewN n) X s p ov bad := h
theorem SX.drew (h : SX W X s p ov bad) : SX W.drew X s p ov bad := h
theorem SX.alloc (h : SX W X s p ov bad) (o : Obj) : SX (W.alloc o) X s p ov bad := (Below.heap_alloc W o X h.lt).trans h
theorem SX.below (h : SX W X s p ov bad) (hb : Below W.heap.size W W') : SX W' X s p ov bad := (hb.block X h.lt).trans h
theorem SX.far (h : SX W X s p ov bad) {q : Addr} (hq : X ≠ q.block) (u : Value) : SX (W.setCell q u) X s p ov bad := (Below.heap_setCell W q u X hq).trans h
theorem SX.set1 (h : SX W X s p ov bad) (p' : Nat) : SX (W.setCell ⟨X, 1, none⟩ (.int .i64 (p' : Int))) X s p' ov bad := by
  unfold SX at h ⊢
  simp [World.setCell, Array.getElem?_modify, h]
theorem SX.set1' (h : SX W X s p ov bad) (p' : Nat) (z : Int) (hz : z = (p' : Int)) : SX (W.setCell ⟨X, 1, none⟩ (.int .i64 z)) X s p' ov bad := by
  subst hz; exact h.set1 p'
theorem SX.set2 (h : SX W X s p ov bad) (ov' : Value) : SX (W.setCell ⟨X, 2, none⟩ ov') X s p ov' bad := by
  unfold SX at h ⊢
  simp [World.setCell, Array.getElem?_modify, h]
theorem SX.set3 (h : SX W X s p ov bad) (b' : Bool) : SX (W.setCell ⟨X, 3, none⟩ (.bool b')) X s p ov b' := by
  unfold SX at h ⊢
  simp [World.setCell, Array.getElem?_modify, h]
end

/-- Where the reader stands: for a measure. -/
def pAt (W : World) (X : Nat) : Nat := match W.cell? ⟨X, 1, none⟩ with | some (.int _ n) => n.toNat | _ => 0
theorem SX.pAt {W : World} {X : Nat} {s : ByteArray} {p : Nat} {ov : Value} {bad : Bool} (h : SX W X s p ov bad) : pAt W X = p := by
  unfold Go.Proofs.YtopmbledpalmdaaGreatDoor.pAt; rw [h.c1]; simp

/-- Only block X has turned (and new blocks have come). -/
theorem only_refl (W : World) (X : Nat) : W.grownBy W (some X) := ⟨rfl, rfl, rfl, Nat.le_refl _, fun _ _ _ => rfl⟩
theorem only_drewN {a w : World} {row : Option Nat} (h : a.grownBy w row) (n : Nat) : a.grownBy (w.drewN n) row := ⟨h.os, h.tape, h.output, h.size, h.block⟩
theorem only_drew {a w : World} {row : Option Nat} (h : a.grownBy w row) : a.grownBy w.drew row := ⟨h.os, h.tape, h.output, h.size, h.block⟩
theorem only_alloc {a w : World} {row : Option Nat} (h : a.grownBy w row) (o : Obj) : a.grownBy (w.alloc o) row :=
  ⟨h.os, h.tape, h.output, Nat.le_trans h.size (by simp), fun i hi hne => (Below.heap_alloc w o i (Nat.lt_of_lt_of_le hi h.size)).trans (h.block i hi hne)⟩
theorem only_set {a w : World} {g : Nat} (h : a.grownBy w (some g)) (i : Nat) (u : Value) : a.grownBy (w.setCell ⟨g, i, none⟩ u) (some g) :=
  ⟨h.os, h.tape, h.output, by simpa [World.setCell] using h.size, fun k hk hne => (Below.heap_setCell w ⟨g, i, none⟩ u k (by
    rintro rfl
    exact hne rfl)).trans (h.block k hk hne)⟩
theorem only_trans {a b c : World} {row : Option Nat} (h : a.grownBy b row) (k : b.grownBy c row) : a.grownBy c row :=
  ⟨k.os.trans h.os, k.tape.trans h.tape, k.output.trans h.output, Nat.le_trans h.size k.size, fun i hi hne => (k.block i (Nat.lt_of_lt_of_le hi h.size) hne).trans (h.block i hi hne)⟩
theorem only_below {a w w' : World} {row : Option Nat} (h : a.grownBy w row) (hb : Below w.heap.size w w') : a.grownBy w' row :=
  only_trans h ⟨hb.os, hb.tape, hb.output, hb.size, fun i hi _ => hb.block i hi⟩

/-- What a method of the reader does that turns the reader alone. -/
def SXTo (W : World) (X : Nat) (s : ByteArray) (p : Nat) (ov : Value) (bad : Bool) (W' : World) : Prop := SX W' X s p ov bad ∧ W.grownBy W' (some X)

set_option maxRecDepth 1000000 in
set_option maxHeartbeats 1600000 in
theorem blanks_any (s : ByteArray) (X p : Nat) (ov : Value) (bad : Bool) (W : World) (hx : SX W X s p ov bad) (hp : p ≤ s.size) (hs : s.size ≤ 140737488355328) :
    Calls Tryz.prog 30 #[.pointer (some ⟨X, 0, none⟩)] W fun e w' => e = .returned (.tuple #[]) ∧ SXTo W X s (p + blanksL (sfx s p)) ov bad w' := by
  obtain ⟨K, hK⟩ : ∃ K, p + blanksL (sfx s p) = K := ⟨_, rfl⟩
  rw [hK]
  have HK := Lib.hid hK; clear hK
  have HX := Lib.hid hx; clear hx
  go_enter Tryz.func30, Tryz.ntmps30
  go_wp2_with fail
  go_loopw [] (fun wr => ∃ k : Nat, k ≤ s.size ∧ SX wr X s k ov bad ∧ k + blanksL (sfx s k) = K ∧ W.grownBy wr (some X)) (fun wr => s.size - pAt wr X)
  case atStart => exact ⟨p, hp, HX.out, HK.out, only_refl _ _⟩
  case round =>
    obtain ⟨k, hk, hx, hr, hg⟩ := hrel
    have c0 := hx.c0
    have c1 := hx.c1
    have z1 := hx.fz 1
    have hpa := hx.pAt
    have HX1 := Lib.hid hx; clear hx
    have HP := Lib.hid hpa; clear hpa
    by_cases hlt : k < s.size
    · have hc := sfx_cons s k hlt
      have h1 := fun W => isSpace_any s[k] W
      have d1 : decide ((k : Int) < (s.size : Int)) = true := by simp; omega
      have d2 : decide (k < s.size) = true := by simp; omega
      cases hb : isSpaceB s[k] with
      | true =>
        rw [hb] at h1
        have hn : k + 1 + blanksL (sfx s (k + 1)) = K := by
          rw [hc] at hr; simp only [blanksL, List.takeWhile_cons, hb] at hr; simp at hr; simp only [blanksL]; omega
        have HN := Lib.hid hn; clear hn hr hc hb
        have H1 := Lib.hid h1; clear h1
        go_wp2_with fail
        go_quiet ((go_at_call 39; exact Calls.quiet_of_same ((H1.out _).mono fun _ _ ⟨he, hw⟩ => ⟨he, hw.symm⟩)))
        go_wp2_with fail
        have hsx := (HX1.out.drewN nq).set1' (k + 1) ((k : Int) + 1) (by omega)
        go_roundw
        case rel => exact ⟨k + 1, by omega, hsx, HN.out, only_set (only_drewN hg _) _ _⟩
        case measure => rw [hsx.pAt, HP.out]; omega
      | false =>
        rw [hb] at h1
        have hn : k = K := by
          rw [hc] at hr; simp only [blanksL, List.takeWhile_cons, hb] at hr; simp at hr; exact hr
        have HN := Lib.hid hn; clear hn hr hc hb
        have H1 := Lib.hid h1; clear h1
        go_wp2_with fail
        go_quiet ((go_at_call 39; exact Calls.quiet_of_same ((H1.out _).mono fun _ _ ⟨he, hw⟩ => ⟨he, hw.symm⟩)))
        go_wp2_with fail
        go_end0
        exact ⟨rfl, by rw [← HN.out]; exact HX1.out.drewN _, only_drewN hg _⟩
    · have hc := sfx_end s k (by omega)
      have hn : k = K := by
        rw [hc] at hr; simpa [blanksL] using hr
      have d1 : decide ((k : Int) < (s.size : Int)) = false := by simp; omega
      have d2 : decide (k < s.size) = false := by simp; omega
      have HN := Lib.hid hn; clear hn hr hc
      go_wp2_with fail
      go_quiet (fail)
      go_wp2_with fail
      go_end0
      exact ⟨rfl, by rw [← HN.out]; exact HX1.out.drewN _, only_drewN hg _⟩
end Go.Proofs.YtopmbledpalmdaaGreatDoor
