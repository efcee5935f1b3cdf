/-
  The walks of (*snippet).text (both ways) and (*snippet).title.
-/
import Derived.Test.YtopmbledpalmdaaGreatDoorMem5
namespace Go.Proofs.YtopmbledpalmdaaGreatDoor
open Go.RowKit Go.Proofs

/-- What (*snippet).text does to the tokens, where it opens a new one or does nothing. -/
def addText (ts : List (Tok × Value)) (u : Bs) (ts' : List (Tok × Value)) : Prop :=
  (u = [] ∧ ts' = ts) ∨ (u ≠ [] ∧ (∀ x, ts.getLast? = some x → x.1.ty ≠ 1) ∧ ts' = ts ++ [(⟨1, u, []⟩, .slice none 0 0)])

theorem xtext_any (s : ByteArray) (u : Bs) (base X p : Nat) (ts ts' : List (Tok × Value)) (W : World) (hm : SM W base X s p ts) (hl : ts.length ≤ 1000000000000) (ha : addText ts u ts') :
    Calls Tryz.prog 14 #[.pointer (some ⟨X, 0, none⟩), .string ⟨u.toArray⟩] W fun e w' => e = .returned (.tuple #[]) ∧ SM w' base X s p ts' ∧ Below base W w' := by
  rcases ha with ⟨rfl, rfl⟩ | ⟨hne, hlast, rfl⟩
  · refine (xtext_none s base X p _ W hm hl).mono ?_
    rintro e w' ⟨rfl, rfl⟩
    exact ⟨rfl, hm, Below.refl _ _⟩
  · have hpos : 0 < u.length := List.length_pos_iff.2 hne
    exact xtext_more s ⟨u.toArray⟩ base X p ts W hm hl (by show 0 < u.toArray.size; simpa using hpos) hlast

theorem SM.below {W W' : World} {base X : Nat} {s : ByteArray} {p : Nat} {ts : List (Tok × Value)} (h : SM W base X s p ts) (hb : Below W.heap.size W W') : SM W' base X s p ts := by
  obtain ⟨hbx, ov, hx, ho, ha⟩ := h
  exact ⟨hbx, ov, hx.below hb, own_below ho hb, fun y hy => own_below (ha y hy) hb⟩
theorem SM.drew {W : World} {base X : Nat} {s : ByteArray} {p : Nat} {ts : List (Tok × Value)} (h : SM W base X s p ts) : SM W.drew base X s p ts := h
/-- Its place set anew. -/
theorem SM.to {W : World} {base X : Nat} {s : ByteArray} {p : Nat} {ts : List (Tok × Value)} (h : SM W base X s p ts) (p' : Nat) (z : Int) (hz : z = (p' : Int)) : SM (W.setCell ⟨X, 1, none⟩ (.int .i64 z)) base X s p' ts := by
  obtain ⟨hbx, ov, hx, ho, ha⟩ := h
  exact SM.kept hbx hx ho ha (hx.set1' p' z hz) (only_set (only_refl _ _) _ _)
theorem SM.clear {W : World} {base X : Nat} {s : ByteArray} {p : Nat} {ts : List (Tok × Value)} (h : SM W base X s p ts) : SM (W.setCell ⟨X, 3, none⟩ (.bool false)) base X s p ts := by
  obtain ⟨hbx, ov, hx, ho, ha⟩ := h
  exact SM.kept hbx hx ho ha (hx.set3 false) (only_set (only_refl _ _) _ _)
theorem SM.lt {W : World} {base X : Nat} {s : ByteArray} {p : Nat} {ts : List (Tok × Value)} (h : SM W base X s p ts) : base ≤ X ∧ X < W.heap.size := ⟨h.1, h.2.choose_spec.1.lt⟩
theorem set_below {base X : Nat} (W : World) (hb : base ≤ X) (hl : X < W.heap.size) (i : Nat) (u : Value) : Below base W (W.setCell ⟨X, i, none⟩ u) := only_under (only_set (only_refl _ _) _ _) hb (by omega)

theorem SM.sx {W : World} {base X : Nat} {s : ByteArray} {p : Nat} {ts : List (Tok × Value)} (h : SM W base X s p ts) : ∃ ov, SX W X s p ov false := ⟨_, h.2.choose_spec.1⟩
def ttl : Bs := [60, 47, 116, 105, 116, 108, 101]

set_option maxRecDepth 1000000 in
set_option maxHeartbeats 1600000 in
theorem xtitle_any (s : ByteArray) (base X p K : Nat) (ts ts' : List (Tok × Value)) (W : World) (hm : SM W base X s p ts) (hp : p ≤ s.size) (hs : s.size ≤ 1000000000000) (hl : ts.length ≤ 1000000000000)
    (hK : p + findL ttl (lowL (sfx s p)) = K) (hK7 : K + 7 < s.size) (h62 : s[K + 7] = 62) (ha : addText ts (unescL false ((sfx s p).take (K - p))) ts') :
    Calls Tryz.prog 18 #[.pointer (some ⟨X, 0, none⟩)] W fun e w' => e = .returned (.tuple #[]) ∧ SM w' base X s K ts' ∧ Below base W w' := by
  have h1 := fun W => lower_any s W (by omega)
  have hpK : p ≤ K := by omega
  obtain ⟨u, hu⟩ : ∃ u : ByteArray, ⟨(lowL s.data.toList).toArray⟩ = u := ⟨_, rfl⟩
  rw [hu] at h1
  have hus : u.size = s.size := by
    rw [← hu]
    show (lowL s.data.toList).toArray.size = s.size
    simp [lowL]
  have husf : sfx u p = lowL (sfx s p) := by
    rw [← hu]
    show (lowL s.data.toList).toArray.toList.drop p = (s.data.toList.drop p).map lowB
    simp [lowL, List.map_drop]
  have h2 := fun W => find_any u ⟨#[60, 47, 116, 105, 116, 108, 101]⟩ p K W (by omega) (by show 7 ≤ _; omega) (by show 0 < 7; omega) (by omega) (by rw [husf]; exact hK)
  have h3 := fun W => unescaped_any (s.extract p K) false W (by simp; omega)
  rw [extract_data] at h3
  obtain ⟨v, hv⟩ : ∃ v, unescL false ((sfx s p).take (K - p)) = v := ⟨_, rfl⟩
  rw [hv] at h3 ha
  have h4 := fun W hm => xtext_any s v base X p ts ts' W hm hl ha
  obtain ⟨ov, hx⟩ : ∃ ov, SX W X s p ov false := ⟨_, hm.2.choose_spec.1⟩
  obtain ⟨hbx, hXl⟩ := hm.lt
  have c0 := hx.c0
  have c1 := hx.c1
  have hc1 : ∀ w1, Below W.heap.size W.drew w1 → w1.cell? ⟨X, 1, none⟩ = some (.int .i64 (p : Int)) := fun w1 hb => (hx.drew.below hb).c1
  have HX := Lib.hid hx; clear hx
  have HM := Lib.hid hm; clear hm
  have H1 := Lib.hid h1; clear h1
  have H2 := Lib.hid h2; clear h2
  have H3 := Lib.hid h3; clear h3
  have H4 := Lib.hid h4; clear h4
  have C1 := Lib.hid hc1; clear hc1
  clear hu hus husf hv hK ha
  go_enter Tryz.func18, Tryz.ntmps18
  go_upto_region 0 with fail
  go_cut [2] (fun v wx => v = .int .i64 (K : Int) ∧ SM wx base X s p ts ∧ Below base W wx)
  case first =>
    go_region_with (first | (go_at_call 32; refine (H1.out _).mono ?_; rintro e w1 ⟨rfl, hb1⟩; have cc := C1.out _ hb1) | (go_at_call 13; refine (H2.out _).mono ?_; rintro e w' ⟨rfl, rfl⟩))
    all_goals
      go_wp2_with fail
      go_meet
      exact ⟨rfl, HM.out.drew.below hb1, ((Below.refl base W).drew).trans (hb1.mono (by show base ≤ W.heap.size; omega))⟩
  case rest =>
    clear c0 c1
    obtain ⟨rfl, hm1, hb1⟩ := hcut
    obtain ⟨ov1, hx1⟩ := hm1.sx
    have hl1 := hm1.lt
    have c0 := hx1.c0
    have c1 := hx1.c1
    have i1 : (0 : Int) ≤ (p : Int) := by omega
    have i2 : (p : Int) ≤ (K : Int) := by omega
    have i3 : (K : Int) ≤ (s.size : Int) := by omega
    have i4 : ((p : Int)).toNat = p := by omega
    have HM1 := Lib.hid hm1; clear hm1
    have HB1 := Lib.hid hb1; clear hb1
    clear hx1
    go_upto_region 1 with fail
    go_cut [] (fun wx => SM wx base X s p ts' ∧ Below base W wx)
    case first =>
      go_region_with (first | (go_at_call 15; refine (H3.out _).mono ?_; rintro e w2 ⟨rfl, hb2⟩; have HM2 := Lib.hid (HM1.out.drew.below hb2)) | (go_at_call 14; refine (H4.out _ HM2.out).mono ?_; rintro e w3 ⟨rfl, hm3, hb3⟩))
      all_goals
        go_wp2_with fail
        go_meet
        exact ⟨hm3, (HB1.out.drew.trans (hb2.mono (Nat.le_of_lt (Nat.lt_of_le_of_lt hl1.1 hl1.2)))).trans hb3⟩
    case rest =>
    clear c0 c1
    obtain ⟨hm3, hb3⟩ := hcut
    obtain ⟨ov3, hx3⟩ := hm3.sx
    have c13 := hx3.c1
    have c03 := hx3.c0
    have z13 := hx3.fz 1
    have z33 := hx3.fz 3
    have c33 := hx3.c3
    have hwk : IntKind.i64.wrap ((K : Int) + 7) = (K : Int) + 7 := IntWalk.i64_in _ (by omega)
    have j1 : (K : Int) + 7 < (s.size : Int) := by omega
    have j2 : ((K : Int) + 7).toNat = K + 7 := by omega
    have d1 : decide ((K : Int) < (s.size : Int)) = true := by simp; omega
    have d2 : decide (K < s.size) = true := by simp; omega
    have d3 : (((K : Int) + 7) == (s.size : Int)) = false := by simp; omega
    have d4 : ((s[K + 7].toNat : Int) != 62) = false := by rw [h62]; rfl
    have HX3 := Lib.hid hx3; clear hx3
    have HM3 := Lib.hid hm3; clear hm3
    have HB3 := Lib.hid hb3; clear hb3
    clear h62
    have hl3 := HM3.out.lt
    go_wp2_with fail
    go_end0
    exact ⟨rfl, (HM3.out.to K _ rfl).clear, HB3.out.trans ((set_below _ hl3.1 hl3.2 1 _).trans (set_below _ hl3.1 (HM3.out.to K _ rfl).lt.2 3 _))⟩
end Go.Proofs.YtopmbledpalmdaaGreatDoor
