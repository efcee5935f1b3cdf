/-
  The walk of laws.FnPlaced.
-/
import Derived.Test.YtopmbledpalmdaaGreatDoorLawC
import Derived.Test.YtopmbledpalmdaaGreatDoorEsc
import Derived.Test.YtopmbledpalmdaaGreatDoorMem8
namespace Go.Proofs.YtopmbledpalmdaaGreatDoor
open Go.RowKit Go.Proofs

set_option maxRecDepth 1000000 in
set_option maxHeartbeats 1600000 in
theorem placed_small (s : ByteArray) (W : World) (h : 2147483647 < s.size ∨ plainL s.data.toList = false ∨ s.data.toList = []) :
    Calls Tryz.prog 3 #[.string s] W fun e w' => e = .returned (.bool true) ∧ W = w' := by
  by_cases hbig : 2147483647 < s.size
  · have t1 : decide ((2147483647 : Int) < (s.size : Int)) = true := by simp; omega
    clear h
    go_enter Tryz.func3, Tryz.ntmps3
    go_wp2_with fail
    go_ret
    exact ⟨rfl, rfl⟩
  · have t1 : decide ((2147483647 : Int) < (s.size : Int)) = false := by simp; omega
    have h1 := plain_any s W (by omega)
    have t2 : plainL s.data.toList = false ∨ (plainL s.data.toList = true ∧ s = ⟨#[]⟩) := by
      cases hp : plainL s.data.toList with
      | false => exact .inl rfl
      | true =>
        refine .inr ⟨rfl, ?_⟩
        rcases h with h | h | h
        · exact absurd h hbig
        · rw [hp] at h; cases h
        · apply ByteArray.ext; apply Array.toList_inj.1; simpa using h
    clear h
    rcases t2 with hp | ⟨hp, rfl⟩
    · rw [hp] at h1
      have H1 := Lib.hid h1; clear h1 hp
      go_enter Tryz.func3, Tryz.ntmps3
      go_wp2_with fail
      refine H1.out.mono ?_
      rintro e w1 ⟨rfl, rfl⟩
      go_wp2_with fail
      go_ret
      exact ⟨rfl, rfl⟩
    · rw [hp] at h1
      have H1 := Lib.hid h1; clear h1 hp
      go_enter Tryz.func3, Tryz.ntmps3
      go_wp2_with fail
      refine H1.out.mono ?_
      rintro e w1 ⟨rfl, rfl⟩
      go_wp2_with fail
      go_ret
      exact ⟨rfl, rfl⟩

/-- The snippet's text, as the law builds it. -/
def placedS (s : ByteArray) : ByteArray :=
  ⟨#[60, 112, 32, 116, 105, 116, 108, 101, 61, 34]⟩ ++ encB s ++ ⟨#[34, 32, 97, 108, 116, 61, 39]⟩ ++ encB s ++ ⟨#[39, 32, 99, 108, 97, 115, 115, 61]⟩ ++ encN s ++ ⟨#[32, 105, 100, 61, 120, 62, 60, 116, 105, 116, 108, 101, 62]⟩ ++
    encB s ++ ⟨#[60, 47, 116, 105, 116, 108, 101, 62, 60, 98, 62]⟩ ++ encB s ++ ⟨#[60, 47, 98, 62, 60, 47, 112, 62]⟩
theorem placedS_list (s : ByteArray) : (placedS s).data.toList = placedL (encL replB 63 true s.data.toList) (encL replN 97 false s.data.toList) := by
  unfold placedS placedL encB encN
  simp only [ByteArray.data_append, Array.toList_append, List.append_assoc]
theorem encB_size (s : ByteArray) : (encB s).size ≤ 8 * s.size := by
  have := encL_len replB 63 true replB_len s.data.toList
  have e : (encB s).size = (encL replB 63 true s.data.toList).length := rfl
  have e2 : s.data.toList.length = s.size := rfl
  omega
theorem encN_size (s : ByteArray) : (encN s).size ≤ 8 * s.size := by
  have := encL_len replN 97 false replN_len s.data.toList
  have e : (encN s).size = (encL replN 97 false s.data.toList).length := rfl
  have e2 : s.data.toList.length = s.size := rfl
  omega

/-- What Snippet answers here. -/
def PlcOut (s : ByteArray) (base : Nat) (v : Value) (w : World) : Prop :=
  ∃ ts : List (Tok × Value), ts.map Prod.fst = wantL s.data.toList ∧ w.ownsRow base 29 3 v ts.length (tcells ts) ∧ ∀ x ∈ ts, AttrIs w base x

theorem snippet_here (s : ByteArray) (W : World) (hs : s.size ≤ 2147483647) (hp : plainL s.data.toList = true) (hne : s.data.toList ≠ []) :
    Calls Tryz.prog 5 #[.string (placedS s)] W fun e w' => ∃ ov, e = .returned (.tuple #[ov, .bool true]) ∧ PlcOut s W.heap.size ov w' ∧ Below W.heap.size W w' := by
  have hv : validL s.data.toList = true := by
    simp only [plainL, Bool.and_eq_true] at hp; exact hp.1
  have hz : hasAnyL s.data.toList [0, 13] = false := by
    simp only [plainL, Bool.and_eq_true, Bool.not_eq_true'] at hp; exact hp.2
  have hE := emb_B _ hv hz
  have hU := emb_N _ hv hz
  have hB := encB_size s
  have hN := encN_size s
  have hsz : (placedS s).size ≤ 100000000000 := by
    have h := placed_len (encL replB 63 true s.data.toList) (encL replN 97 false s.data.toList)
    rw [← placedS_list] at h
    have e1 : (placedS s).size = (placedS s).data.toList.length := rfl
    have e2 : (encB s).size = (encL replB 63 true s.data.toList).length := rfl
    have e3 : (encN s).size = (encL replN 97 false s.data.toList).length := rfl
    omega
  refine (snippet_any (placedS s) (wantL s.data.toList) W hsz ?_ ?_ ?_ ?_).mono ?_
  · rw [placedS_list]; exact placed_valid _ _ _ hE hU
  · rw [placedS_list]; exact placed_known _ _ _ hE hU
  · rw [placedS_list]; exact placed_any _ _ _ hE hU
  · rw [placedS_list]; exact placed_snip _ _ _ hne hE hU
  · rintro e w' ⟨ov, ts, rfl, h1, h2, h3, h4⟩
    exact ⟨ov, rfl, ⟨ts, h1, h2, h3⟩, h4⟩
theorem below_drewN {B : Nat} {a w : World} (h : Below B a w) (n : Nat) : Below B a (w.drewN n) := ⟨h.os, h.tape, h.output, h.size, h.block⟩
theorem PlcOut.drew {s : ByteArray} {base : Nat} {v : Value} {w : World} (h : PlcOut s base v w) : PlcOut s base v w.drew := h
theorem PlcOut.less {s : ByteArray} {b b2 : Nat} {v : Value} {w : World} (h : PlcOut s b v w) (hb : b2 ≤ b) : PlcOut s b2 v w := by
  have less : ∀ {e : TypeId} {sz n : Nat} {v : Value} {xs : List Value}, w.ownsRow b e sz v n xs → w.ownsRow b2 e sz v n xs := by
    intro e sz n v xs ho
    refine ⟨ho.1, ho.2.imp id ?_⟩
    rintro ⟨g, cap, cur, h1, h2, h3⟩
    exact ⟨g, cap, cur, h1, Nat.le_trans hb h2, h3⟩
  obtain ⟨ts, h1, h2, h3⟩ := h
  exact ⟨ts, h1, less h2, fun x hx => less (h3 x hx)⟩

/-- The eight tokens' cells; the first token's attributes' cells. -/
def tokRow (s : ByteArray) (x : Nat → Value) : List Value :=
  [.int .i64 2, .string ⟨#[112]⟩, x 0, .int .i64 2, .string ⟨#[116, 105, 116, 108, 101]⟩, x 1, .int .i64 1, .string s, x 2, .int .i64 3, .string ⟨#[116, 105, 116, 108, 101]⟩, x 3,
    .int .i64 2, .string ⟨#[98]⟩, x 4, .int .i64 1, .string s, x 5, .int .i64 3, .string ⟨#[98]⟩, x 6, .int .i64 3, .string ⟨#[112]⟩, x 7]
def attrRow (s : ByteArray) : List Value :=
  [.string ⟨#[116, 105, 116, 108, 101]⟩, .string s, .string ⟨#[97, 108, 116]⟩, .string s, .string ⟨#[99, 108, 97, 115, 115]⟩, .string s, .string ⟨#[105, 100]⟩, .string ⟨#[120]⟩]
theorem row_cells {w : World} {b : Nat} {e : TypeId} {sz n : Nat} {v : Value} {xs : List Value} (h : w.ownsRow b e sz v n xs) (hn : n ≠ 0) : ∃ g cap, v = .slice (some ⟨g, 0, none⟩) n cap ∧ g < w.heap.size ∧ n ≤ cap ∧ ∀ j u, xs[j]? = some u → w.cell? ⟨g, j, none⟩ = some u := by
  rcases h.2 with ⟨_, h0⟩ | ⟨g, cap, cur, rfl, _, hg, hnc, _, hcs, htk⟩
  · exact absurd h0 hn
  · refine ⟨g, cap, rfl, (Array.getElem?_eq_some_iff.1 hg).1, hnc, fun j u hj => ?_⟩
    have hlt : j < n * sz := by
      have := (List.getElem?_eq_some_iff.1 hj).1
      rw [h.1] at this; exact this
    rw [cell_of_row w g j _ _ (0, 0) hg, ← Array.getElem?_toList, ← hj, ← htk, List.getElem?_take, if_pos hlt]
theorem row_shape {w : World} {b : Nat} {e : TypeId} {sz n : Nat} {v : Value} {xs : List Value} (h : w.ownsRow b e sz v n xs) : ∃ o n c, v = .slice o n c := by
  rcases h.2 with ⟨h, _⟩ | ⟨g, cap, cur, h, _⟩
  · exact ⟨_, _, _, h⟩
  · exact ⟨_, _, _, h⟩
theorem PlcOut.cells {s : ByteArray} {base : Nat} {v : Value} {w : World} (h : PlcOut s base v w) :
    ∃ (g cap g2 cap2 : Nat) (x : Nat → Value), v = .slice (some ⟨g, 0, none⟩) 8 cap ∧ g < w.heap.size ∧ g2 < w.heap.size ∧ 8 ≤ cap ∧ 4 ≤ cap2 ∧ x 0 = .slice (some ⟨g2, 0, none⟩) 4 cap2 ∧ (∀ j, ∃ o n c, x j = .slice o n c) ∧
      (∀ j u, (tokRow s x)[j]? = some u → w.cell? ⟨g, j, none⟩ = some u) ∧ (∀ j u, (attrRow s)[j]? = some u → w.cell? ⟨g2, j, none⟩ = some u) := by
  obtain ⟨ts, h1, h2, h3⟩ := h
  unfold wantL at h1
  obtain ⟨⟨t0, x0⟩, r, rfl, e0, h1⟩ := List.map_eq_cons_iff.1 h1
  obtain ⟨⟨t1, x1⟩, r, rfl, e1, h1⟩ := List.map_eq_cons_iff.1 h1
  obtain ⟨⟨t2, x2⟩, r, rfl, e2, h1⟩ := List.map_eq_cons_iff.1 h1
  obtain ⟨⟨t3, x3⟩, r, rfl, e3, h1⟩ := List.map_eq_cons_iff.1 h1
  obtain ⟨⟨t4, x4⟩, r, rfl, e4, h1⟩ := List.map_eq_cons_iff.1 h1
  obtain ⟨⟨t5, x5⟩, r, rfl, e5, h1⟩ := List.map_eq_cons_iff.1 h1
  obtain ⟨⟨t6, x6⟩, r, rfl, e6, h1⟩ := List.map_eq_cons_iff.1 h1
  obtain ⟨⟨t7, x7⟩, r, rfl, e7, h1⟩ := List.map_eq_cons_iff.1 h1
  obtain rfl := List.map_eq_nil_iff.1 h1
  simp only at e0 e1 e2 e3 e4 e5 e6 e7
  subst e0 e1 e2 e3 e4 e5 e6 e7
  obtain ⟨g, cap, hv, hg, hc, hcells⟩ := row_cells h2 (by simp)
  have ha := h3 _ (List.mem_cons_self ..)
  obtain ⟨g2, cap2, hv2, hg2, hc2, hcells2⟩ := row_cells ha (by simp)
  refine ⟨g, cap, g2, cap2, fun j => if j = 0 then x0 else if j = 1 then x1 else if j = 2 then x2 else if j = 3 then x3 else if j = 4 then x4 else if j = 5 then x5 else if j = 6 then x6 else x7, hv, hg, hg2, hc, hc2, hv2, ?_, fun j u hj => hcells j u hj, fun j u hj => hcells2 j u hj⟩
  have shape : ∀ y ∈ [x0, x1, x2, x3, x4, x5, x6, x7], ∃ o n c, y = .slice o n c := by
    intro y hy
    simp only [List.mem_cons, List.mem_nil_iff, or_false] at hy
    rcases hy with rfl | rfl | rfl | rfl | rfl | rfl | rfl | rfl
    · exact row_shape (h3 _ (.head _))
    · exact row_shape (h3 _ (.tail _ (.head _)))
    · exact row_shape (h3 _ (.tail _ (.tail _ (.head _))))
    · exact row_shape (h3 _ (.tail _ (.tail _ (.tail _ (.head _)))))
    · exact row_shape (h3 _ (.tail _ (.tail _ (.tail _ (.tail _ (.head _))))))
    · exact row_shape (h3 _ (.tail _ (.tail _ (.tail _ (.tail _ (.tail _ (.head _)))))))
    · exact row_shape (h3 _ (.tail _ (.tail _ (.tail _ (.tail _ (.tail _ (.tail _ (.head _))))))))
    · exact row_shape (h3 _ (.tail _ (.tail _ (.tail _ (.tail _ (.tail _ (.tail _ (.tail _ (.head _)))))))))
  intro j
  refine shape _ ?_
  show (if j = 0 then x0 else if j = 1 then x1 else if j = 2 then x2 else if j = 3 then x3 else if j = 4 then x4 else if j = 5 then x5 else if j = 6 then x6 else x7) ∈ _
  repeat' split
  all_goals simp

set_option maxRecDepth 1000000 in
set_option maxHeartbeats 3200000 in
theorem placed_main (s : ByteArray) (W : World) (hs : s.size ≤ 2147483647) (hp : plainL s.data.toList = true) (hne : s.data.toList ≠ []) (h : EscAt W) :
    Calls Tryz.prog 3 #[.string s] W fun e w' => e = .returned (.bool true) ∧ Below W.heap.size W w' := by
  have t1 : decide ((2147483647 : Int) < (s.size : Int)) = false := by simp; omega
  have t2 : s.toList.isEmpty = false := by rw [Lib.toList_data]; simpa using hne
  have h1 := plain_any s W (by omega)
  rw [hp] at h1
  have h2 := fun w (hb : Below W.heap.size W w) => impl_quoted_any s w (by omega) (h.below hb)
  have h3 := fun w (hb : Below W.heap.size W w) => impl_unquoted_any s w (by omega) (h.below hb) hne
  have h4 := fun w (hb : Below W.heap.size W w) => impl_rcdata_any s w (by omega) (h.below hb)
  have h5 := fun w (hb : Below W.heap.size W w) => impl_text_any s w (by omega) (h.below hb)
  have h6 := fun w => snippet_here s w hs hp hne
  have hB := encB_size s
  have hN := encN_size s
  unfold placedS at h6
  obtain ⟨eb, heb⟩ : ∃ eb, encB s = eb := ⟨_, rfl⟩
  obtain ⟨en, hen⟩ : ∃ en, encN s = en := ⟨_, rfl⟩
  rw [heb] at hB h2 h4 h5 h6
  rw [hen] at hN h3 h6
  have H1 := Lib.hid h1; clear h1
  have H2 := Lib.hid h2; clear h2
  have H3 := Lib.hid h3; clear h3
  have H4 := Lib.hid h4; clear h4
  have H5 := Lib.hid h5; clear h5
  have H6 := Lib.hid h6; clear h6
  clear h hne hp heb hen
  go_enter Tryz.func3, Tryz.ntmps3
  go_wp2_with fail
  refine H1.out.mono ?_
  rintro e w1 ⟨rfl, rfl⟩
  go_upto_region 5 with fail
  have B0 := Lib.hid (Below.refl W.heap.size W)
  go_cut [3, 4] (fun v b wx => b = .bool true ∧ PlcOut s W.heap.size v wx ∧ Below W.heap.size W wx)
  case first =>
    go_wp2_with (first
      | (go_at_call 6; refine (H2.out _ B0.out).mono ?_; rintro e wa ⟨rfl, ha⟩; have B1 := Lib.hid (B0.out.trans (ha.mono B0.out.size)))
      | (go_at_call 6; refine (H2.out _ B1.out).mono ?_; rintro e wb ⟨rfl, hb⟩; have B2 := Lib.hid (B1.out.trans (hb.mono B1.out.size)))
      | (go_at_call 7; refine (H3.out _ B2.out).mono ?_; rintro e wc ⟨rfl, hc⟩; have B3 := Lib.hid (B2.out.trans (hc.mono B2.out.size)))
      | (go_at_call 8; refine (H4.out _ B3.out).mono ?_; rintro e wd ⟨rfl, hd⟩; have B4 := Lib.hid (B3.out.trans (hd.mono B3.out.size)))
      | (go_at_call 9; refine (H5.out _ B4.out).mono ?_; rintro e we ⟨rfl, he⟩; have B5 := Lib.hid (B4.out.trans (he.mono B4.out.size)))
      | (go_at_call 5; refine (H6.out _).mono ?_; rintro e wf ⟨ov, rfl, ho, hf⟩; have B6 := Lib.hid (B5.out.trans (hf.mono B5.out.size))))
    all_goals
      go_meet
      exact ⟨rfl, ho.less B5.out.size, B6.out⟩
  case rest =>
    clear B0 H1 H2 H3 H4 H5 H6 hB hN
    obtain ⟨rfl, ho, hb⟩ := hcut
    obtain ⟨g, cap, g2, cap2, x, rfl, hg, hg2, hc, hc2, hx0, hxs, hcg, hcg2⟩ := ho.cells
    have HXS := Lib.hid hxs; clear hxs
    clear ho
    have c2 : wc.cell? ⟨g, 2, none⟩ = some (.slice (some ⟨g2, 0, none⟩) 4 cap2) := hx0 ▸ hcg 2 _ rfl
    have HCG := Lib.hid hcg; clear hcg
    have HCG2 := Lib.hid hcg2; clear hcg2
    have HB := Lib.hid hb; clear hb
    obtain ⟨D, hD⟩ : ∃ D, wc.heap.size = D := ⟨_, rfl⟩
    go_wp2_with fail
    generalize hw2 : wc.alloc (.cells #[.string ⟨#[116, 105, 116, 108, 101]⟩, .string s, .string ⟨#[97, 108, 116]⟩, .string s, .string ⟨#[99, 108, 97, 115, 115]⟩, .string s, .string ⟨#[105, 100]⟩, .string ⟨#[120]⟩] 31) = w2
    have hlt2 : g < w2.heap.size ∧ g2 < w2.heap.size ∧ D < w2.heap.size := by
      have : w2.heap.size = D + 1 := by rw [← hw2, ← hD]; simp
      omega
    have hcD : ∀ j u, (attrRow s)[j]? = some u → w2.cell? ⟨D, j, none⟩ = some u := by
      intro j u hj
      rw [← hw2, cell_of_row _ D j _ _ (0, 0) (hD ▸ heap_alloc_new _ _)]
      rw [← hj]; simp [attrRow]
    have hold : ∀ a : Addr, a.block < D → w2.cell? a = wc.cell? a := by
      intro a ha
      rw [← hw2]
      exact ((Below.refl D wc).alloc (Nat.le_of_eq hD.symm) _).cell ha
    have HB2 := Lib.hid (show Below W.heap.size W w2 by rw [← hw2]; exact HB.out.alloc HB.out.size _)
    have hgD : g < D ∧ g2 < D := by omega
    have HG := Lib.hid (show ∀ j u, (tokRow s x)[j]? = some u → w2.cell? ⟨g, j, none⟩ = some u from fun j u hj => (hold _ hgD.1).trans (HCG.out j u hj))
    have HG2 := Lib.hid (show ∀ j u, (attrRow s)[j]? = some u → w2.cell? ⟨g2, j, none⟩ = some u from fun j u hj => (hold _ hgD.2).trans (HCG2.out j u hj))
    have HCD := Lib.hid hcD; clear hcD
    have HX0 := Lib.hid hx0; clear hx0
    clear hold c2 hw2 hD
    go_loopw [68] (fun iv wr => ∃ i : Nat, i ≤ 4 ∧ iv = .int .i64 (i : Int) ∧ Below w2.heap.size w2 wr) (fun iv _ => 4 - (intOf iv).toNat)
    case atStart => exact ⟨0, by omega, rfl, Below.refl _ _⟩
    case round =>
      obtain ⟨i, hi, rfl, hbr⟩ := hrel
      have hle := hbr.size
      have c2 : wr.cell? ⟨g, 2, none⟩ = some (.slice (some ⟨g2, 0, none⟩) 4 cap2) := (hbr.cell hlt2.1).trans (HX0.out ▸ HG.out 2 _ rfl)
      have l1 : g < wr.heap.size := by omega
      have l2 : g2 < wr.heap.size := by omega
      have l3 : D < wr.heap.size := by omega
      obtain ⟨N, hN⟩ : ∃ N, wr.heap.size = N := ⟨_, rfl⟩
      rcases (by omega : i = 0 ∨ i = 1 ∨ i = 2 ∨ i = 3 ∨ i = 4) with rfl | rfl | rfl | rfl | rfl
      · have d0 := (hbr.cell hlt2.2.2).trans (HCD.out 0 _ rfl)
        have d1 := (hbr.cell hlt2.2.2).trans (HCD.out 1 _ rfl)
        have e0 := (hbr.cell hlt2.2.1).trans (HG2.out 0 _ rfl)
        have e1 := (hbr.cell hlt2.2.1).trans (HG2.out 1 _ rfl)
        have HBR := Lib.hid hbr; clear hbr
        go_wp2_with fail
        generalize hw3 : wr.alloc (.cells #[.string ⟨#[116, 105, 116, 108, 101]⟩, .string s] 31) = w3
        have hbw := (Below.refl wr.heap.size wr).alloc (Nat.le_refl _) (.cells #[.string ⟨#[116, 105, 116, 108, 101]⟩, .string s] 31)
        rw [hw3] at hbw
        have hnew : w3.heap[N]? = some (.cells #[.string ⟨#[116, 105, 116, 108, 101]⟩, .string s] 31 (0, 0)) := by rw [← hw3, ← hN]; exact heap_alloc_new _ _
        have n0 : w3.cell? ⟨N, 0, none⟩ = some (.string ⟨#[116, 105, 116, 108, 101]⟩) := cell_of_row w3 N 0 _ _ (0, 0) hnew
        have n1 : w3.cell? ⟨N, 1, none⟩ = some (.string s) := cell_of_row w3 N 1 _ _ (0, 0) hnew
        have c23 := (hbw.cell l1).trans c2
        have e03 := (hbw.cell l2).trans e0
        have e13 := (hbw.cell l2).trans e1
        have HB3 := Lib.hid (HBR.out.trans (hbw.mono hle)); clear hbw hnew hw3 c2 e0 e1 d0 d1
        go_quiet (fail)
        go_wp2_with fail
        go_roundw
        case rel => exact ⟨1, by omega, by go_num, below_drewN HB3.out _⟩
        case measure => simp [intOf]
      · have d0 := (hbr.cell hlt2.2.2).trans (HCD.out 2 _ rfl)
        have d1 := (hbr.cell hlt2.2.2).trans (HCD.out 3 _ rfl)
        have e0 := (hbr.cell hlt2.2.1).trans (HG2.out 2 _ rfl)
        have e1 := (hbr.cell hlt2.2.1).trans (HG2.out 3 _ rfl)
        have HBR := Lib.hid hbr; clear hbr
        go_wp2_with fail
        generalize hw3 : wr.alloc (.cells #[.string ⟨#[97, 108, 116]⟩, .string s] 31) = w3
        have hbw := (Below.refl wr.heap.size wr).alloc (Nat.le_refl _) (.cells #[.string ⟨#[97, 108, 116]⟩, .string s] 31)
        rw [hw3] at hbw
        have hnew : w3.heap[N]? = some (.cells #[.string ⟨#[97, 108, 116]⟩, .string s] 31 (0, 0)) := by rw [← hw3, ← hN]; exact heap_alloc_new _ _
        have n0 : w3.cell? ⟨N, 0, none⟩ = some (.string ⟨#[97, 108, 116]⟩) := cell_of_row w3 N 0 _ _ (0, 0) hnew
        have n1 : w3.cell? ⟨N, 1, none⟩ = some (.string s) := cell_of_row w3 N 1 _ _ (0, 0) hnew
        have c23 := (hbw.cell l1).trans c2
        have e03 := (hbw.cell l2).trans e0
        have e13 := (hbw.cell l2).trans e1
        have HB3 := Lib.hid (HBR.out.trans (hbw.mono hle)); clear hbw hnew hw3 c2 e0 e1 d0 d1
        go_quiet (fail)
        go_wp2_with fail
        go_roundw
        case rel => exact ⟨2, by omega, by go_num, below_drewN HB3.out _⟩
        case measure => simp [intOf]
      · have d0 := (hbr.cell hlt2.2.2).trans (HCD.out 4 _ rfl)
        have d1 := (hbr.cell hlt2.2.2).trans (HCD.out 5 _ rfl)
        have e0 := (hbr.cell hlt2.2.1).trans (HG2.out 4 _ rfl)
        have e1 := (hbr.cell hlt2.2.1).trans (HG2.out 5 _ rfl)
        have HBR := Lib.hid hbr; clear hbr
        go_wp2_with fail
        generalize hw3 : wr.alloc (.cells #[.string ⟨#[99, 108, 97, 115, 115]⟩, .string s] 31) = w3
        have hbw := (Below.refl wr.heap.size wr).alloc (Nat.le_refl _) (.cells #[.string ⟨#[99, 108, 97, 115, 115]⟩, .string s] 31)
        rw [hw3] at hbw
        have hnew : w3.heap[N]? = some (.cells #[.string ⟨#[99, 108, 97, 115, 115]⟩, .string s] 31 (0, 0)) := by rw [← hw3, ← hN]; exact heap_alloc_new _ _
        have n0 : w3.cell? ⟨N, 0, none⟩ = some (.string ⟨#[99, 108, 97, 115, 115]⟩) := cell_of_row w3 N 0 _ _ (0, 0) hnew
        have n1 : w3.cell? ⟨N, 1, none⟩ = some (.string s) := cell_of_row w3 N 1 _ _ (0, 0) hnew
        have c23 := (hbw.cell l1).trans c2
        have e03 := (hbw.cell l2).trans e0
        have e13 := (hbw.cell l2).trans e1
        have HB3 := Lib.hid (HBR.out.trans (hbw.mono hle)); clear hbw hnew hw3 c2 e0 e1 d0 d1
        go_quiet (fail)
        go_wp2_with fail
        go_roundw
        case rel => exact ⟨3, by omega, by go_num, below_drewN HB3.out _⟩
        case measure => simp [intOf]
      · have d0 := (hbr.cell hlt2.2.2).trans (HCD.out 6 _ rfl)
        have d1 := (hbr.cell hlt2.2.2).trans (HCD.out 7 _ rfl)
        have e0 := (hbr.cell hlt2.2.1).trans (HG2.out 6 _ rfl)
        have e1 := (hbr.cell hlt2.2.1).trans (HG2.out 7 _ rfl)
        have HBR := Lib.hid hbr; clear hbr
        go_wp2_with fail
        generalize hw3 : wr.alloc (.cells #[.string ⟨#[105, 100]⟩, .string ⟨#[120]⟩] 31) = w3
        have hbw := (Below.refl wr.heap.size wr).alloc (Nat.le_refl _) (.cells #[.string ⟨#[105, 100]⟩, .string ⟨#[120]⟩] 31)
        rw [hw3] at hbw
        have hnew : w3.heap[N]? = some (.cells #[.string ⟨#[105, 100]⟩, .string ⟨#[120]⟩] 31 (0, 0)) := by rw [← hw3, ← hN]; exact heap_alloc_new _ _
        have n0 : w3.cell? ⟨N, 0, none⟩ = some (.string ⟨#[105, 100]⟩) := cell_of_row w3 N 0 _ _ (0, 0) hnew
        have n1 : w3.cell? ⟨N, 1, none⟩ = some (.string ⟨#[120]⟩) := cell_of_row w3 N 1 _ _ (0, 0) hnew
        have c23 := (hbw.cell l1).trans c2
        have e03 := (hbw.cell l2).trans e0
        have e13 := (hbw.cell l2).trans e1
        have HB3 := Lib.hid (HBR.out.trans (hbw.mono hle)); clear hbw hnew hw3 c2 e0 e1 d0 d1
        go_quiet (fail)
        go_wp2_with fail
        go_roundw
        case rel => exact ⟨4, by omega, by go_num, below_drewN HB3.out _⟩
        case measure => simp [intOf]
      · have HB4 := Lib.hid (HB2.out.trans (hbr.mono HB2.out.size))
        have HG4 := Lib.hid (show ∀ j u, (tokRow s x)[j]? = some u → wr.cell? ⟨g, j, none⟩ = some u from fun j u hj => (hbr.cell hlt2.1).trans (HG.out j u hj))
        clear hbr c2 HG HG2 HCD HB2 HX0
        go_wp2_with fail
        generalize hw5 : wr.alloc (.cells #[.int .i64 2, .string ⟨#[112]⟩, .slice none 0 0, .int .i64 2, .string ⟨#[116, 105, 116, 108, 101]⟩, .slice none 0 0, .int .i64 1, .string s, .slice none 0 0, .int .i64 3, .string ⟨#[116, 105, 116, 108, 101]⟩, .slice none 0 0, .int .i64 2, .string ⟨#[98]⟩, .slice none 0 0, .int .i64 1, .string s, .slice none 0 0, .int .i64 3, .string ⟨#[98]⟩, .slice none 0 0, .int .i64 3, .string ⟨#[112]⟩, .slice none 0 0] 29) = w5
        have hlt5 : g < w5.heap.size ∧ N < w5.heap.size := by
          have : w5.heap.size = N + 1 := by rw [← hw5, ← hN]; simp
          omega
        have hcN : ∀ j u, (tokRow s fun _ => .slice none 0 0)[j]? = some u → w5.cell? ⟨N, j, none⟩ = some u := by
          intro j u hj
          rw [← hw5, cell_of_row _ N j _ _ (0, 0) (hN ▸ heap_alloc_new _ _)]
          rw [← hj]; simp [tokRow]
        have hbw5 := (Below.refl wr.heap.size wr).alloc (Nat.le_refl _) (.cells #[.int .i64 2, .string ⟨#[112]⟩, .slice none 0 0, .int .i64 2, .string ⟨#[116, 105, 116, 108, 101]⟩, .slice none 0 0, .int .i64 1, .string s, .slice none 0 0, .int .i64 3, .string ⟨#[116, 105, 116, 108, 101]⟩, .slice none 0 0, .int .i64 2, .string ⟨#[98]⟩, .slice none 0 0, .int .i64 1, .string s, .slice none 0 0, .int .i64 3, .string ⟨#[98]⟩, .slice none 0 0, .int .i64 3, .string ⟨#[112]⟩, .slice none 0 0] 29)
        rw [hw5] at hbw5
        have HG5 := Lib.hid (show ∀ j u, (tokRow s x)[j]? = some u → w5.cell? ⟨g, j, none⟩ = some u from fun j u hj => (hbw5.cell l1).trans (HG4.out j u hj))
        have HB5 := Lib.hid (HB4.out.trans (hbw5.mono HB4.out.size))
        have HCN := Lib.hid hcN; clear hcN
        clear hbw5 hw5 hN HG4 HB4
        go_loopw [96] (fun iv wr => ∃ i : Nat, i ≤ 8 ∧ iv = .int .i64 (i : Int) ∧ Below w5.heap.size w5 wr) (fun iv _ => 8 - (intOf iv).toNat)
        case atStart => exact ⟨0, by omega, rfl, Below.refl _ _⟩
        case round =>
          obtain ⟨i, hi, rfl, hbr⟩ := hrel
          have hle2 := hbr.size
          have k1 : g < wr.heap.size := by omega
          have k2 : N < wr.heap.size := by omega
          obtain ⟨M, hM⟩ : ∃ M, wr.heap.size = M := ⟨_, rfl⟩
          rcases (by omega : i = 0 ∨ i = 1 ∨ i = 2 ∨ i = 3 ∨ i = 4 ∨ i = 5 ∨ i = 6 ∨ i = 7 ∨ i = 8) with rfl | rfl | rfl | rfl | rfl | rfl | rfl | rfl | rfl
          · obtain ⟨xo, xn, xc, hx⟩ := HXS.out 0
            have e0 := (hbr.cell hlt5.1).trans (HG5.out 0 _ rfl)
            have e1 := (hbr.cell hlt5.1).trans (HG5.out 1 _ rfl)
            have e2 := (hbr.cell hlt5.1).trans (HG5.out 2 _ rfl)
            rw [hx] at e2
            have d0 := (hbr.cell hlt5.2).trans (HCN.out 0 _ rfl)
            have d1 := (hbr.cell hlt5.2).trans (HCN.out 1 _ rfl)
            have HBR := Lib.hid hbr; clear hbr
            go_wp2_with fail
            generalize hw6 : wr.alloc (.cells #[.int .i64 2, .string ⟨#[112]⟩, Value.slice xo xn xc] 29) = w6
            have hbw := (Below.refl wr.heap.size wr).alloc (Nat.le_refl _) (.cells #[.int .i64 2, .string ⟨#[112]⟩, Value.slice xo xn xc] 29)
            rw [hw6] at hbw
            have hnew : w6.heap[M]? = some (.cells #[.int .i64 2, .string ⟨#[112]⟩, Value.slice xo xn xc] 29 (0, 0)) := by rw [← hw6, ← hM]; exact heap_alloc_new _ _
            have n0 : w6.cell? ⟨M, 0, none⟩ = some (.int .i64 2) := cell_of_row w6 M 0 _ _ (0, 0) hnew
            have n1 : w6.cell? ⟨M, 1, none⟩ = some (.string ⟨#[112]⟩) := cell_of_row w6 M 1 _ _ (0, 0) hnew
            have d03 := (hbw.cell k2).trans d0
            have d13 := (hbw.cell k2).trans d1
            have HB6 := Lib.hid (HBR.out.trans (hbw.mono hle2)); clear hbw hnew hw6 e0 e1 e2 d0 d1
            go_quiet (fail)
            go_wp2_with fail
            go_roundw
            case rel => exact ⟨1, by omega, by go_num, below_drewN HB6.out _⟩
            case measure => simp [intOf]
          · obtain ⟨xo, xn, xc, hx⟩ := HXS.out 1
            have e0 := (hbr.cell hlt5.1).trans (HG5.out 3 _ rfl)
            have e1 := (hbr.cell hlt5.1).trans (HG5.out 4 _ rfl)
            have e2 := (hbr.cell hlt5.1).trans (HG5.out 5 _ rfl)
            rw [hx] at e2
            have d0 := (hbr.cell hlt5.2).trans (HCN.out 3 _ rfl)
            have d1 := (hbr.cell hlt5.2).trans (HCN.out 4 _ rfl)
            have HBR := Lib.hid hbr; clear hbr
            go_wp2_with fail
            generalize hw6 : wr.alloc (.cells #[.int .i64 2, .string ⟨#[116, 105, 116, 108, 101]⟩, Value.slice xo xn xc] 29) = w6
            have hbw := (Below.refl wr.heap.size wr).alloc (Nat.le_refl _) (.cells #[.int .i64 2, .string ⟨#[116, 105, 116, 108, 101]⟩, Value.slice xo xn xc] 29)
            rw [hw6] at hbw
            have hnew : w6.heap[M]? = some (.cells #[.int .i64 2, .string ⟨#[116, 105, 116, 108, 101]⟩, Value.slice xo xn xc] 29 (0, 0)) := by rw [← hw6, ← hM]; exact heap_alloc_new _ _
            have n0 : w6.cell? ⟨M, 0, none⟩ = some (.int .i64 2) := cell_of_row w6 M 0 _ _ (0, 0) hnew
            have n1 : w6.cell? ⟨M, 1, none⟩ = some (.string ⟨#[116, 105, 116, 108, 101]⟩) := cell_of_row w6 M 1 _ _ (0, 0) hnew
            have d03 := (hbw.cell k2).trans d0
            have d13 := (hbw.cell k2).trans d1
            have HB6 := Lib.hid (HBR.out.trans (hbw.mono hle2)); clear hbw hnew hw6 e0 e1 e2 d0 d1
            go_quiet (fail)
            go_wp2_with fail
            go_roundw
            case rel => exact ⟨2, by omega, by go_num, below_drewN HB6.out _⟩
            case measure => simp [intOf]
          · obtain ⟨xo, xn, xc, hx⟩ := HXS.out 2
            have e0 := (hbr.cell hlt5.1).trans (HG5.out 6 _ rfl)
            have e1 := (hbr.cell hlt5.1).trans (HG5.out 7 _ rfl)
            have e2 := (hbr.cell hlt5.1).trans (HG5.out 8 _ rfl)
            rw [hx] at e2
            have d0 := (hbr.cell hlt5.2).trans (HCN.out 6 _ rfl)
            have d1 := (hbr.cell hlt5.2).trans (HCN.out 7 _ rfl)
            have HBR := Lib.hid hbr; clear hbr
            go_wp2_with fail
            generalize hw6 : wr.alloc (.cells #[.int .i64 1, .string s, Value.slice xo xn xc] 29) = w6
            have hbw := (Below.refl wr.heap.size wr).alloc (Nat.le_refl _) (.cells #[.int .i64 1, .string s, Value.slice xo xn xc] 29)
            rw [hw6] at hbw
            have hnew : w6.heap[M]? = some (.cells #[.int .i64 1, .string s, Value.slice xo xn xc] 29 (0, 0)) := by rw [← hw6, ← hM]; exact heap_alloc_new _ _
            have n0 : w6.cell? ⟨M, 0, none⟩ = some (.int .i64 1) := cell_of_row w6 M 0 _ _ (0, 0) hnew
            have n1 : w6.cell? ⟨M, 1, none⟩ = some (.string s) := cell_of_row w6 M 1 _ _ (0, 0) hnew
            have d03 := (hbw.cell k2).trans d0
            have d13 := (hbw.cell k2).trans d1
            have HB6 := Lib.hid (HBR.out.trans (hbw.mono hle2)); clear hbw hnew hw6 e0 e1 e2 d0 d1
            go_quiet (fail)
            go_wp2_with fail
            go_roundw
            case rel => exact ⟨3, by omega, by go_num, below_drewN HB6.out _⟩
            case measure => simp [intOf]
          · obtain ⟨xo, xn, xc, hx⟩ := HXS.out 3
            have e0 := (hbr.cell hlt5.1).trans (HG5.out 9 _ rfl)
            have e1 := (hbr.cell hlt5.1).trans (HG5.out 10 _ rfl)
            have e2 := (hbr.cell hlt5.1).trans (HG5.out 11 _ rfl)
            rw [hx] at e2
            have d0 := (hbr.cell hlt5.2).trans (HCN.out 9 _ rfl)
            have d1 := (hbr.cell hlt5.2).trans (HCN.out 10 _ rfl)
            have HBR := Lib.hid hbr; clear hbr
            go_wp2_with fail
            generalize hw6 : wr.alloc (.cells #[.int .i64 3, .string ⟨#[116, 105, 116, 108, 101]⟩, Value.slice xo xn xc] 29) = w6
            have hbw := (Below.refl wr.heap.size wr).alloc (Nat.le_refl _) (.cells #[.int .i64 3, .string ⟨#[116, 105, 116, 108, 101]⟩, Value.slice xo xn xc] 29)
            rw [hw6] at hbw
            have hnew : w6.heap[M]? = some (.cells #[.int .i64 3, .string ⟨#[116, 105, 116, 108, 101]⟩, Value.slice xo xn xc] 29 (0, 0)) := by rw [← hw6, ← hM]; exact heap_alloc_new _ _
            have n0 : w6.cell? ⟨M, 0, none⟩ = some (.int .i64 3) := cell_of_row w6 M 0 _ _ (0, 0) hnew
            have n1 : w6.cell? ⟨M, 1, none⟩ = some (.string ⟨#[116, 105, 116, 108, 101]⟩) := cell_of_row w6 M 1 _ _ (0, 0) hnew
            have d03 := (hbw.cell k2).trans d0
            have d13 := (hbw.cell k2).trans d1
            have HB6 := Lib.hid (HBR.out.trans (hbw.mono hle2)); clear hbw hnew hw6 e0 e1 e2 d0 d1
            go_quiet (fail)
            go_wp2_with fail
            go_roundw
            case rel => exact ⟨4, by omega, by go_num, below_drewN HB6.out _⟩
            case measure => simp [intOf]
          · obtain ⟨xo, xn, xc, hx⟩ := HXS.out 4
            have e0 := (hbr.cell hlt5.1).trans (HG5.out 12 _ rfl)
            have e1 := (hbr.cell hlt5.1).trans (HG5.out 13 _ rfl)
            have e2 := (hbr.cell hlt5.1).trans (HG5.out 14 _ rfl)
            rw [hx] at e2
            have d0 := (hbr.cell hlt5.2).trans (HCN.out 12 _ rfl)
            have d1 := (hbr.cell hlt5.2).trans (HCN.out 13 _ rfl)
            have HBR := Lib.hid hbr; clear hbr
            go_wp2_with fail
            generalize hw6 : wr.alloc (.cells #[.int .i64 2, .string ⟨#[98]⟩, Value.slice xo xn xc] 29) = w6
            have hbw := (Below.refl wr.heap.size wr).alloc (Nat.le_refl _) (.cells #[.int .i64 2, .string ⟨#[98]⟩, Value.slice xo xn xc] 29)
            rw [hw6] at hbw
            have hnew : w6.heap[M]? = some (.cells #[.int .i64 2, .string ⟨#[98]⟩, Value.slice xo xn xc] 29 (0, 0)) := by rw [← hw6, ← hM]; exact heap_alloc_new _ _
            have n0 : w6.cell? ⟨M, 0, none⟩ = some (.int .i64 2) := cell_of_row w6 M 0 _ _ (0, 0) hnew
            have n1 : w6.cell? ⟨M, 1, none⟩ = some (.string ⟨#[98]⟩) := cell_of_row w6 M 1 _ _ (0, 0) hnew
            have d03 := (hbw.cell k2).trans d0
            have d13 := (hbw.cell k2).trans d1
            have HB6 := Lib.hid (HBR.out.trans (hbw.mono hle2)); clear hbw hnew hw6 e0 e1 e2 d0 d1
            go_quiet (fail)
            go_wp2_with fail
            go_roundw
            case rel => exact ⟨5, by omega, by go_num, below_drewN HB6.out _⟩
            case measure => simp [intOf]
          · obtain ⟨xo, xn, xc, hx⟩ := HXS.out 5
            have e0 := (hbr.cell hlt5.1).trans (HG5.out 15 _ rfl)
            have e1 := (hbr.cell hlt5.1).trans (HG5.out 16 _ rfl)
            have e2 := (hbr.cell hlt5.1).trans (HG5.out 17 _ rfl)
            rw [hx] at e2
            have d0 := (hbr.cell hlt5.2).trans (HCN.out 15 _ rfl)
            have d1 := (hbr.cell hlt5.2).trans (HCN.out 16 _ rfl)
            have HBR := Lib.hid hbr; clear hbr
            go_wp2_with fail
            generalize hw6 : wr.alloc (.cells #[.int .i64 1, .string s, Value.slice xo xn xc] 29) = w6
            have hbw := (Below.refl wr.heap.size wr).alloc (Nat.le_refl _) (.cells #[.int .i64 1, .string s, Value.slice xo xn xc] 29)
            rw [hw6] at hbw
            have hnew : w6.heap[M]? = some (.cells #[.int .i64 1, .string s, Value.slice xo xn xc] 29 (0, 0)) := by rw [← hw6, ← hM]; exact heap_alloc_new _ _
            have n0 : w6.cell? ⟨M, 0, none⟩ = some (.int .i64 1) := cell_of_row w6 M 0 _ _ (0, 0) hnew
            have n1 : w6.cell? ⟨M, 1, none⟩ = some (.string s) := cell_of_row w6 M 1 _ _ (0, 0) hnew
            have d03 := (hbw.cell k2).trans d0
            have d13 := (hbw.cell k2).trans d1
            have HB6 := Lib.hid (HBR.out.trans (hbw.mono hle2)); clear hbw hnew hw6 e0 e1 e2 d0 d1
            go_quiet (fail)
            go_wp2_with fail
            go_roundw
            case rel => exact ⟨6, by omega, by go_num, below_drewN HB6.out _⟩
            case measure => simp [intOf]
          · obtain ⟨xo, xn, xc, hx⟩ := HXS.out 6
            have e0 := (hbr.cell hlt5.1).trans (HG5.out 18 _ rfl)
            have e1 := (hbr.cell hlt5.1).trans (HG5.out 19 _ rfl)
            have e2 := (hbr.cell hlt5.1).trans (HG5.out 20 _ rfl)
            rw [hx] at e2
            have d0 := (hbr.cell hlt5.2).trans (HCN.out 18 _ rfl)
            have d1 := (hbr.cell hlt5.2).trans (HCN.out 19 _ rfl)
            have HBR := Lib.hid hbr; clear hbr
            go_wp2_with fail
            generalize hw6 : wr.alloc (.cells #[.int .i64 3, .string ⟨#[98]⟩, Value.slice xo xn xc] 29) = w6
            have hbw := (Below.refl wr.heap.size wr).alloc (Nat.le_refl _) (.cells #[.int .i64 3, .string ⟨#[98]⟩, Value.slice xo xn xc] 29)
            rw [hw6] at hbw
            have hnew : w6.heap[M]? = some (.cells #[.int .i64 3, .string ⟨#[98]⟩, Value.slice xo xn xc] 29 (0, 0)) := by rw [← hw6, ← hM]; exact heap_alloc_new _ _
            have n0 : w6.cell? ⟨M, 0, none⟩ = some (.int .i64 3) := cell_of_row w6 M 0 _ _ (0, 0) hnew
            have n1 : w6.cell? ⟨M, 1, none⟩ = some (.string ⟨#[98]⟩) := cell_of_row w6 M 1 _ _ (0, 0) hnew
            have d03 := (hbw.cell k2).trans d0
            have d13 := (hbw.cell k2).trans d1
            have HB6 := Lib.hid (HBR.out.trans (hbw.mono hle2)); clear hbw hnew hw6 e0 e1 e2 d0 d1
            go_quiet (fail)
            go_wp2_with fail
            go_roundw
            case rel => exact ⟨7, by omega, by go_num, below_drewN HB6.out _⟩
            case measure => simp [intOf]
          · obtain ⟨xo, xn, xc, hx⟩ := HXS.out 7
            have e0 := (hbr.cell hlt5.1).trans (HG5.out 21 _ rfl)
            have e1 := (hbr.cell hlt5.1).trans (HG5.out 22 _ rfl)
            have e2 := (hbr.cell hlt5.1).trans (HG5.out 23 _ rfl)
            rw [hx] at e2
            have d0 := (hbr.cell hlt5.2).trans (HCN.out 21 _ rfl)
            have d1 := (hbr.cell hlt5.2).trans (HCN.out 22 _ rfl)
            have HBR := Lib.hid hbr; clear hbr
            go_wp2_with fail
            generalize hw6 : wr.alloc (.cells #[.int .i64 3, .string ⟨#[112]⟩, Value.slice xo xn xc] 29) = w6
            have hbw := (Below.refl wr.heap.size wr).alloc (Nat.le_refl _) (.cells #[.int .i64 3, .string ⟨#[112]⟩, Value.slice xo xn xc] 29)
            rw [hw6] at hbw
            have hnew : w6.heap[M]? = some (.cells #[.int .i64 3, .string ⟨#[112]⟩, Value.slice xo xn xc] 29 (0, 0)) := by rw [← hw6, ← hM]; exact heap_alloc_new _ _
            have n0 : w6.cell? ⟨M, 0, none⟩ = some (.int .i64 3) := cell_of_row w6 M 0 _ _ (0, 0) hnew
            have n1 : w6.cell? ⟨M, 1, none⟩ = some (.string ⟨#[112]⟩) := cell_of_row w6 M 1 _ _ (0, 0) hnew
            have d03 := (hbw.cell k2).trans d0
            have d13 := (hbw.cell k2).trans d1
            have HB6 := Lib.hid (HBR.out.trans (hbw.mono hle2)); clear hbw hnew hw6 e0 e1 e2 d0 d1
            go_quiet (fail)
            go_wp2_with fail
            go_roundw
            case rel => exact ⟨8, by omega, by go_num, below_drewN HB6.out _⟩
            case measure => simp [intOf]
          · have HB7 := Lib.hid (HB5.out.trans (hbr.mono HB5.out.size)); clear hbr
            go_wp2_with fail
            go_ret
            exact ⟨rfl, HB7.out⟩
end Go.Proofs.YtopmbledpalmdaaGreatDoor
