/-
  (*strings.Builder).WriteString at a builder that bears its own address: walked here (the shelf's contract does not lie at this dump).
-/
import Derived.Test.YtopmbledpalmdaaGreatDoorWalkF0
import Derived.Test.YtopmbledpalmdaaGreatDoorShelf
import Derived.Lib.AppendStr
namespace Go.Proofs.YtopmbledpalmdaaGreatDoor
open Go.RowKit Go.Proofs

theorem infoU8b : (Tryz.prog.info? 5).map (fun i => (i.zero, i.size, i.bytes)) = some (some (.int .u8 0), 1, 1) := by kernel_rfl

theorem row_at' {W : World} {base : Nat} {e : TypeId} {size n : Nat} {v : Value} {xs : List Value} (h : W.ownsRow base e size v n xs) {g : Nat} (hg : v.ownBlock = some g) : ∃ cur : Array Value, W.heap[g]? = some (.cells cur e (0, 0)) := by
  rcases h.2 with ⟨rfl, _⟩ | ⟨g', cap, cur, rfl, _, hgg, _⟩
  · simp [Value.ownBlock] at hg
  · simp [Value.ownBlock] at hg; subst hg; exact ⟨cur, hgg⟩
theorem below_own' {W W' w : World} {B : Nat} {e : TypeId} {size n : Nat} {v : Value} {xs : List Value} (hb : Below B w W) (hBw : B ≤ W.heap.size) (h : W.ownsRow B e size v n xs) (hg : W.grownBy W' v.ownBlock) : Below B w W' ∧ B ≤ W'.heap.size :=
  ⟨hb.grown hg hBw fun k hk => (h.lt k hk).1, by have := hg.size; omega⟩

set_option maxRecDepth 1000000 in
set_option maxHeartbeats 1600000 in
theorem copyCheck_any (b : Nat) (w : World) (c0 : w.cell? ⟨b, 0, none⟩ = some (.pointer (some ⟨b, 0, none⟩))) :
    Calls Tryz.prog 60 #[.pointer (some ⟨b, 0, none⟩)] w fun e w' => e = .returned (.tuple #[]) ∧ w = w' := by
  go_enter Tryz.func60, Tryz.ntmps60
  go_wp2_with fail
  obtain ⟨j, hj⟩ : ∃ j, Tryz.prog.info? 64 = some j := ⟨_, rfl⟩
  rw [Lib.run_neq_ptr_same w _ Tryz.underlying62 hj]
  go_wp2_with fail
  go_end0
  exact ⟨rfl, rfl⟩

set_option maxRecDepth 1000000 in
set_option maxHeartbeats 1600000 in
theorem write_any (B b : Nat) (l : Bs) (s : ByteArray) (w : World) (h : Lib.BuilderAt 64 5 B b (.pointer (some ⟨b, 0, none⟩)) (Lib.byteCells l) w) (hlen : l.length + s.size ≤ 100000000000000) (hBw : B ≤ w.heap.size) :
    Calls Tryz.prog 51 #[.pointer (some ⟨b, 0, none⟩), .string s] w fun e w' => e = .returned (.tuple #[.int .i64 (s.size : Int), .nilIface]) ∧ Lib.BuilderAt 64 5 B b (.pointer (some ⟨b, 0, none⟩)) (Lib.byteCells (l ++ s.data.toList)) w' ∧ Below B w w' := by
  obtain ⟨hBb, v, hbk, hown, hne⟩ := h
  have c0 : w.cell? ⟨b, 0, none⟩ = some (.pointer (some ⟨b, 0, none⟩)) := cell_of_row w b 0 _ _ (0, 0) hbk
  have c1 : w.cell? ⟨b, 1, none⟩ = some v := cell_of_row w b 1 _ _ (0, 0) hbk
  obtain ⟨i0, hi0, hz0, hz1, hz2⟩ := info_parts infoU8b
  rw [Lib.byteCells_length] at hown
  have HI := Lib.hid hi0; clear hi0
  have HZ0 := Lib.hid hz0; clear hz0
  have HZ1 := Lib.hid hz1; clear hz1
  have HZ2 := Lib.hid hz2; clear hz2
  have HO := Lib.hid hown; clear hown
  have HBK := Lib.hid hbk
  have hbl : b < w.heap.size := (Array.getElem?_eq_some_iff.1 hbk).1
  clear hbk
  go_enter Tryz.func51, Tryz.ntmps51
  have h1 := copyCheck_any b w c0
  have H1 := Lib.hid h1; clear h1
  go_wp2_with fail
  refine H1.out.mono ?_
  rintro e w1 ⟨rfl, rfl⟩
  go_wp2_with (at_builtin; go_must (refine Lib.wpList_append_own_string _ rfl (.tmp 12) (.tmp 13) 49 9 rfl B 5 i0 Tryz.underlying49 Tryz.underlying9 HI.out HZ0.out HZ1.out HZ2.out _ l.length (Lib.byteCells l) rfl HO.out s rfl ?c3 ?c4 hBw ?_))
  case c3 => simp only [maxLen]; omega
  case c4 => omega
  intro v' w2 hown2 hgrow2 hsh
  have hbk2 : w2.heap[b]? = some (.cells #[.pointer (some ⟨b, 0, none⟩), v] 64 (0, 0)) := (hgrow2.block b hbl (fun h => hne h.symm)).trans HBK.out
  have c12 : w2.cell? ⟨b, 1, none⟩ = some v := cell_of_row w2 b 1 _ _ (0, 0) hbk2
  have z12 : w2.frozen? ⟨b, 1, none⟩ = false := by simp [World.frozen?, hbk2]
  have hl2 : b < w2.heap.size := (Array.getElem?_eq_some_iff.1 hbk2).1
  have hb2 := below_own' (Below.refl B w) hBw HO.out hgrow2
  have hshape : v' = .slice none 0 0 ∨ ∃ g cap, v' = .slice (some ⟨g, 0, none⟩) (l.length + s.size) cap := by
    rcases hown2.2 with ⟨h, _⟩ | ⟨g, cap, cur, h, _⟩
    · exact .inl h
    · exact .inr ⟨g, cap, h⟩
  have hne2 : v'.ownBlock ≠ some b := fun h => by
    obtain ⟨c, hc⟩ := row_at' hown2 h
    rw [hbk2] at hc
    injection hc with hc
    injection hc with _ hc _
    exact absurd hc (by decide)
  have hfin : Lib.BuilderAt 64 5 B b (.pointer (some ⟨b, 0, none⟩)) (Lib.byteCells (l ++ s.data.toList)) (w2.setCell ⟨b, 1, none⟩ v') := by
    refine ⟨hBb, v', ?_, ?_, hne2⟩
    · simp [World.setCell, Array.getElem?_modify, hbk2]
    · rw [Lib.byteCells_length, List.length_append, Lib.byteCells_append, ← Lib.strCells_eq, show s.data.toList.length = s.size by simp]
      exact hown2.kept (row := some b) ⟨rfl, rfl, rfl, by simp [World.setCell], fun k hk hne => Below.heap_setCell w2 ⟨b, 1, none⟩ v' k (by rintro rfl; exact hne rfl)⟩ (.inr hne2)
  have hfb : Below B w (w2.setCell ⟨b, 1, none⟩ v') := hb2.1.setCell (p := ⟨b, 1, none⟩) hBb _
  have HF := Lib.hid hfin; clear hfin
  have HB2 := Lib.hid hfb; clear hfb hb2 hown2 hgrow2 hne2 hbk2
  rcases hshape with rfl | ⟨g, cap, rfl⟩
  all_goals
    go_wp2_with fail
    go_ret2
    exact ⟨rfl, HF.out, HB2.out⟩
end Go.Proofs.YtopmbledpalmdaaGreatDoor
