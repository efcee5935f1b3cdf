/-
  The walk of (*snippet).text with a text.
-/
import Derived.Test.YtopmbledpalmdaaGreatDoorMem4
namespace Go.Proofs.YtopmbledpalmdaaGreatDoor
open Go.RowKit Go.Proofs

theorem agg3 (W : World) (a b c : Value) (t : TypeId) : ∀ (j : Nat) (u : Value), [a, b, c][j]? = some u → (W.alloc (.cells #[a, b, c] t)).cell? ((⟨W.heap.size, 0, none⟩ : Addr).add j) = some u := by
  intro j u h
  have hadd : (⟨W.heap.size, 0, none⟩ : Addr).add j = ⟨W.heap.size, j, none⟩ := by unfold Addr.add; split <;> simp_all
  rw [hadd, cell_of_row (W.alloc (.cells #[a, b, c] t)) W.heap.size j #[a, b, c] t (0, 0) (heap_alloc_new W _)]
  simpa using h

set_option maxRecDepth 1000000 in
set_option maxHeartbeats 1600000 in
theorem xtext_more (s u : ByteArray) (base X p : Nat) (ts : List (Tok × Value)) (W : World) (hm : SM W base X s p ts) (hl : ts.length ≤ 1000000000000) (hu : 0 < u.size) (hlast : ∀ x, ts.getLast? = some x → x.1.ty ≠ 1) :
    Calls Tryz.prog 14 #[.pointer (some ⟨X, 0, none⟩), .string u] W fun e w' => e = .returned (.tuple #[]) ∧ SM w' base X s p (ts ++ [(⟨1, u.data.toList, []⟩, .slice none 0 0)]) ∧ Below base W w' := by
  obtain ⟨hbx, ov, hx, ho, ha⟩ := hm
  obtain ⟨i0, hi0, hz0, hz1, hz2⟩ := info_parts infoTok
  have HI := Lib.hid hi0; clear hi0
  have HZ0 := Lib.hid hz0; clear hz0
  have HZ1 := Lib.hid hz1; clear hz1
  have HZ2 := Lib.hid hz2; clear hz2
  have hne : u.toList.isEmpty = false := by
    rw [ByteArray.toList_eq]
    cases hl : u.data.toList with
    | nil =>
      have h0 : u.data.toList.length = 0 := by rw [hl]; rfl
      have h1 : u.data.toList.length = u.size := by simp
      omega
    | cons _ _ => rfl
  have hXlt := hx.lt
  have c2 := hx.c2
  have z2 := hx.fz 2
  have HC2 := Lib.hid c2
  have HZZ := Lib.hid z2
  have HX := Lib.hid hx; clear hx
  rcases Nat.eq_zero_or_pos ts.length with h0 | hpos
  · have hshape : (ov = .slice none 0 0) ∨ ∃ g cap, ov = .slice (some ⟨g, 0, none⟩) 0 cap := by
      rcases ho.2 with ⟨h, _⟩ | ⟨g, cap, cur, h, _⟩
      · exact .inl h
      · exact .inr ⟨g, cap, by rw [h, h0]⟩
    have HM := Lib.hid h0
    have HO := Lib.hid ho; clear ho
    have HA := Lib.hid ha; clear ha
    have hov0 := hshape
    rcases hshape with hov | ⟨g, cap, hov⟩
    all_goals
      rw [hov] at c2
      clear hov hov0 hlast h0
      go_enter Tryz.func14, Tryz.ntmps14
      go_upto_region 1 with fail
      clear c2
      have c2 := HC2.out
      go_wp2_with (at_builtin; refine wpList_append_own _ rfl (.tmp 15) (.tmp 18) 23 rfl base 29 i0 (.agg #[.int .i64 0, .string ⟨#[]⟩, .slice none 0 0]) 3 48 Tryz.underlying23 HI.out HZ0.out HZ1.out HZ2.out rfl (by decide) ov ts.length (tcells ts) rfl (HO.out.alloc _) ⟨W.heap.size, 0, none⟩ 1 1 [.int .i64 1, .string u, .slice none 0 0] rfl rfl ?c1 ?c2 ?c3 ?c4 ?c5 ?_)
      case c1 => exact agg3 W _ _ _ _
      case c2 =>
        intro v hv
        simp only [List.mem_cons, List.not_mem_nil, or_false] at hv
        rcases hv with rfl | rfl | rfl <;> rfl
      case c3 => simp only [maxLen]; omega
      case c4 => omega
      case c5 => simp; omega
      intro v' w2 hown2 hgrow2 _
      have hz : w2.frozen? ⟨X, 2, none⟩ = false := by
        rw [World.frozen?_of_block (a := ⟨X, 2, none⟩) (hgrow2.block X (by simp; omega) (row_apart_X HX.out HO.out (by decide)).symm)]
        exact (HX.out.alloc _).fz 2
      have hcl : w2.cell? ⟨X, 2, none⟩ = some ov := by
        rw [World.cell?_of_block (a := ⟨X, 2, none⟩) (hgrow2.block X (by simp; omega) (row_apart_X HX.out HO.out (by decide)).symm)]
        exact (HX.out.alloc _).c2
      have hown3 : w2.ownsRow base 29 3 v' (ts.length + 1) (tcells (ts ++ [(⟨1, u.data.toList, []⟩, .slice none 0 0)])) := by
        rw [← tcells_snoc]
        rw [show (⟨u.data.toList.toArray⟩ : ByteArray) = u by cases u; simp]
        exact hown2
      obtain ⟨g2, cap2, rfl, _, _⟩ := hown3.form (by omega)
      have HO3 := Lib.hid hown3; clear hown3 hown2
      have HG2 := Lib.hid hgrow2; clear hgrow2
      go_wp2_with fail
      go_end0
      refine ⟨rfl, SM.more hbx (HX.out.alloc _) (HO.out.alloc _) (fun y hy => (HA.out y hy).alloc _) (World.ownsRow_nil _ _ _ _) HO3.out HG2.out rfl, ?_⟩
      have hb2 := below_own ((Below.refl base W).alloc (by omega) (.cells #[.int .i64 1, .string u, .slice none 0 0] 29)) (by simp; omega) (HO.out.alloc _) HG2.out
      exact hb2.1.trans (only_under (only_set (only_refl _ _) _ _) hbx hb2.2)
  · obtain ⟨g, cap, hov, hbg, hglt⟩ := ho.form hpos
    have hlt := List.getLast?_eq_getElem? (l := ts)
    obtain ⟨x, hxl⟩ : ∃ x, ts[ts.length - 1]? = some x := ⟨_, List.getElem?_eq_getElem (by omega)⟩
    have hty := hlast x (by rw [hlt]; exact hxl)
    have htc := (tcells_at ts (ts.length - 1) x hxl).1
    have hcell : W.cell? ⟨g, (ts.length - 1) * 3, none⟩ = some (.int .i64 (x.1.ty : Int)) := by
      rw [hov] at ho
      rw [ho.cellAt _ (by omega), htc]
    have hty1 : ((x.1.ty : Int) == 1) = false := by simp; omega
    have HO := Lib.hid ho; clear ho
    have HA := Lib.hid ha; clear ha
    have HOV := Lib.hid hov
    rw [hov] at c2
    obtain ⟨m, hm⟩ : ∃ m, ts.length = m + 1 := ⟨ts.length - 1, by omega⟩
    have hlm : m + 1 ≤ 1000000000000 := by omega
    rw [hm] at hcell c2
    have HM := Lib.hid hm
    rw [Nat.add_sub_cancel] at hcell
    have hwr : IntKind.i64.wrap (((m + 1 : Nat) : Int) - 1) = (m : Int) := by rw [IntWalk.i64_in _ (by omega)]; omega
    have hge : decide ((0 : Int) ≤ (m : Int)) = true := by simp
    have hml : (m : Int) < ((m + 1 : Nat) : Int) := by omega
    have hml : (m : Int) < ((m + 1 : Nat) : Int) := by omega
    clear hlast hlt hxl htc hty hov hm hpos
    go_enter Tryz.func14, Tryz.ntmps14
    go_upto_region 1 with fail
    clear c2
    have c2 := HC2.out
    go_wp2_with (at_builtin; refine wpList_append_own _ rfl (.tmp 15) (.tmp 18) 23 rfl base 29 i0 (.agg #[.int .i64 0, .string ⟨#[]⟩, .slice none 0 0]) 3 48 Tryz.underlying23 HI.out HZ0.out HZ1.out HZ2.out rfl (by decide) ov ts.length (tcells ts) rfl (HO.out.alloc _) ⟨W.heap.size, 0, none⟩ 1 1 [.int .i64 1, .string u, .slice none 0 0] rfl rfl ?c1 ?c2 ?c3 ?c4 ?c5 ?_)
    case c1 => exact agg3 W _ _ _ _
    case c2 =>
      intro v hv
      simp only [List.mem_cons, List.not_mem_nil, or_false] at hv
      rcases hv with rfl | rfl | rfl <;> rfl
    case c3 => simp only [maxLen]; omega
    case c4 => omega
    case c5 => simp; omega
    intro v' w2 hown2 hgrow2 _
    have hz : w2.frozen? ⟨X, 2, none⟩ = false := by
      rw [World.frozen?_of_block (a := ⟨X, 2, none⟩) (hgrow2.block X (by simp; omega) (row_apart_X HX.out HO.out (by decide)).symm)]
      exact (HX.out.alloc _).fz 2
    have hcl : w2.cell? ⟨X, 2, none⟩ = some ov := by
      rw [World.cell?_of_block (a := ⟨X, 2, none⟩) (hgrow2.block X (by simp; omega) (row_apart_X HX.out HO.out (by decide)).symm)]
      exact (HX.out.alloc _).c2
    have hown3 : w2.ownsRow base 29 3 v' (ts.length + 1) (tcells (ts ++ [(⟨1, u.data.toList, []⟩, .slice none 0 0)])) := by
      rw [← tcells_snoc]
      rw [show (⟨u.data.toList.toArray⟩ : ByteArray) = u by cases u; simp]
      exact hown2
    obtain ⟨g2, cap2, rfl, _, _⟩ := hown3.form (by omega)
    have HO3 := Lib.hid hown3; clear hown3 hown2
    have HG2 := Lib.hid hgrow2; clear hgrow2
    go_wp2_with fail
    go_end0
    refine ⟨rfl, SM.more hbx (HX.out.alloc _) (HO.out.alloc _) (fun y hy => (HA.out y hy).alloc _) (World.ownsRow_nil _ _ _ _) HO3.out HG2.out rfl, ?_⟩
    have hb2 := below_own ((Below.refl base W).alloc (by omega) (.cells #[.int .i64 1, .string u, .slice none 0 0] 29)) (by simp; omega) (HO.out.alloc _) HG2.out
    exact hb2.1.trans (only_under (only_set (only_refl _ _) _ _) hbx hb2.2)
end Go.Proofs.YtopmbledpalmdaaGreatDoor
