/-
  The walk of (*snippet).value, a value without quotes (one that the standard takes).
-/
import Derived.Test.YtopmbledpalmdaaGreatDoorMem2
namespace Go.Proofs.YtopmbledpalmdaaGreatDoor
open Go.RowKit Go.Proofs

def unqL (l : Bs) : Bs := l.takeWhile fun x => !isSpaceB x && x != 62
theorem unqL_le (l : Bs) : (unqL l).length ≤ l.length := (List.takeWhile_prefix _).length_le
theorem unqL_take (l : Bs) : l.take (unqL l).length = unqL l := (List.prefix_iff_eq_take.1 (List.takeWhile_prefix _)).symm
def badL (l : Bs) : Bool := l.any (hasL [34, 39, 60, 61, 96])

def uqRel (s : ByteArray) (X K : Nat) (ov : Value) (W : World) (wr : World) : Prop :=
  ∃ k : Nat, k ≤ K ∧ SX wr X s k ov false ∧ k + (unqL (sfx s k)).length = K ∧ badL (unqL (sfx s k)) = false ∧ W.grownBy wr (some X)

set_option maxRecDepth 1000000 in
set_option maxHeartbeats 3200000 in
theorem xvalue_bare (s : ByteArray) (X p K : Nat) (ov : Value) (W : World) (hx : SX W X s p ov false) (hp : p < s.size) (hs : s.size ≤ 17592186044416) (hq1 : s[p] ≠ 34) (hq2 : s[p] ≠ 39)
    (hK : p + (unqL (sfx s p)).length = K) (hK1 : p < K) (hbad : badL (unqL (sfx s p)) = false) :
    Calls Tryz.prog 31 #[.pointer (some ⟨X, 0, none⟩)] W fun e w' => e = .returned (.string ⟨(unescL true (unqL (sfx s p))).toArray⟩) ∧ SXTo W X s K ov false w' := by
  have hKs : K ≤ s.size := by have := unqL_le (sfx s p); rw [sfx_length] at this; omega
  have hun := fun W => unescaped_any (s.extract p K) true W (by simp; omega)
  have hdat : (s.extract p K).data.toList = unqL (sfx s p) := by
    rw [extract_data, ← unqL_take (sfx s p)]; congr 1; omega
  rw [hdat] at hun
  obtain ⟨v, hv⟩ : ∃ v : ByteArray, ⟨(unescL true (unqL (sfx s p))).toArray⟩ = v := ⟨_, rfl⟩
  rw [hv] at hun ⊢
  have HUN := Lib.hid hun; clear hun hv hdat
  have q1 : ((s[p].toNat : Int) == 34) = false := by
    have h : ((s[p].toNat : Int) == 34) = (s[p] == 34) := u8_beq _ 34
    rw [h]; simp [hq1]
  have q2 : ((s[p].toNat : Int) == 39) = false := by
    have h : ((s[p].toNat : Int) == 39) = (s[p] == 39) := u8_beq _ 39
    rw [h]; simp [hq2]
  have d1 : ((p : Int) == (s.size : Int)) = false := by simp; omega
  have c0 := hx.c0
  have c1 := hx.c1
  have HX := Lib.hid hx; clear hx hq1 hq2
  have HK := Lib.hid hK; clear hK
  have HB := Lib.hid hbad; clear hbad
  have i1 : (p : Int) < (s.size : Int) := by omega
  go_enter Tryz.func31, Tryz.ntmps31
  go_wp2_with fail
  go_quiet (fail)
  obtain ⟨n1, rfl⟩ : ∃ n1, n1 = nq := ⟨_, rfl⟩
  go_wp2_with fail
  go_quiet (fail)
  obtain ⟨N, hN⟩ : ∃ N, n1 + nq = N := ⟨_, rfl⟩
  rw [World.drewN_drewN, hN]
  clear hN
  go_wp2_with fail
  clear c0 c1 q1 q2 d1
  go_loopw [] (fun wr => uqRel s X K ov W wr) (fun wr => s.size - pAt wr X)
  case atStart => exact ⟨p, by omega, HX.out.drewN _, HK.out, HB.out, only_drewN (only_refl _ _) _⟩
  case round =>
    obtain ⟨k, hk, hx, hr, hbd, hg⟩ := hrel
    have c0 := hx.c0
    have c1 := hx.c1
    have c3 := hx.c3
    have z1 := hx.fz 1
    have z3 := hx.fz 3
    have hpa := hx.pAt
    have HX1 := Lib.hid hx; clear hx
    have HP := Lib.hid hpa; clear hpa
    by_cases hlt : k < K
    · have hks : k < s.size := by omega
      have hc := sfx_cons s k hks
      have h1 := fun W => isSpace_any s[k] W
      have d1 : decide ((k : Int) < (s.size : Int)) = true := by simp; omega
      have d2 : decide (k < s.size) = true := by simp; omega
      have hb : isSpaceB s[k] = false := by
        cases hb : isSpaceB s[k] with
        | false => rfl
        | true => rw [hc] at hr; simp [unqL, hb] at hr; omega
      have h62 : s[k] ≠ 62 := by
        intro h
        rw [hc] at hr; simp [unqL, h] at hr; omega
      have t2 : ((s[k].toNat : Int) != 62) = true := by
        have h : ((s[k].toNat : Int) == 62) = (s[k] == 62) := u8_beq _ 62
        simp [bne, h, h62]
      have hu : unqL (sfx s k) = s[k] :: unqL (sfx s (k + 1)) := by
        rw [hc]; simp [unqL, hb, h62]
      rw [hu] at hr hbd
      simp only [badL, List.any_cons, Bool.or_eq_false_iff, List.length_cons] at hr hbd
      have h2 := fun W => has_any ⟨#[34, 39, 60, 61, 96]⟩ s[k] W (by show 5 ≤ _; omega)
      rw [show (⟨#[34, 39, 60, 61, 96]⟩ : ByteArray).data.toList = [34, 39, 60, 61, 96] from rfl, hbd.1] at h2
      rw [hb] at h1
      have H1 := Lib.hid h1; clear h1
      have H2 := Lib.hid h2; clear h2
      clear hc hu
      have HR1 := Lib.hid hr; clear hr
      have HBD := Lib.hid hbd; clear hbd
      go_wp2_with fail
      go_quiet ((go_at_call 39; exact Calls.quiet_of_same ((H1.out _).mono fun _ _ ⟨he, hw⟩ => ⟨he, hw.symm⟩)))
      go_wp2_with fail
      go_upto_region 15 with fail
      go_cut [] (fun wx => SX wx X s k ov false ∧ W.grownBy wx (some X))
      case first =>
        have c0d : ∀ n, (wr.drewN n).cell? ⟨X, 0, none⟩ = some (.string s) := fun n => (HX1.out.drewN n).c0
        have c1d : ∀ n, (wr.drewN n).cell? ⟨X, 1, none⟩ = some (.int .i64 (k : Int)) := fun n => (HX1.out.drewN n).c1
        have c3d : ∀ n, (wr.drewN n).cell? ⟨X, 3, none⟩ = some (.bool false) := fun n => (HX1.out.drewN n).c3
        have z3d : ∀ n, (wr.drewN n).frozen? ⟨X, 3, none⟩ = false := fun n => (HX1.out.drewN n).fz 3
        go_region_with (go_at_call 24; refine (H2.out _).mono ?_; rintro e w' ⟨rfl, rfl⟩)
        all_goals
          go_wp2_with fail
          go_meet
          exact ⟨(HX1.out.drewN _).set3 false, only_set (only_drewN hg _) _ _⟩
      case rest =>
        clear c0 c1 c3 z1 z3
        obtain ⟨hx2, hg2⟩ := hcut
        have c12 := hx2.c1
        have z12 := hx2.fz 1
        have HX2 := Lib.hid hx2; clear hx2
        go_wp2_with fail
        have hsx := HX2.out.set1' (k + 1) ((k : Int) + 1) (by omega)
        go_roundw
        case rel => exact ⟨k + 1, by omega, hsx, by have := HR1.out; omega, HBD.out.2, only_set hg2 _ _⟩
        case measure => rw [hsx.pAt, HP.out]; omega
    · have hkK : k = K := by omega
      subst hkK
      have hu : unqL (sfx s k) = [] := List.eq_nil_of_length_eq_zero (by omega)
      have hstop : k = s.size ∨ (∃ h : k < s.size, isSpaceB s[k] = true) ∨ (∃ h : k < s.size, isSpaceB s[k] = false ∧ s[k] = 62) := by
        by_cases hks : k < s.size
        · rw [sfx_cons s k hks] at hu
          refine .inr ?_
          cases hb : isSpaceB s[k] with
          | true => exact .inl ⟨hks, hb⟩
          | false =>
            refine .inr ⟨hks, hb, ?_⟩
            by_cases h62 : s[k] = 62
            · exact h62
            · simp [unqL, hb, h62] at hu
        · exact .inl (by omega)
      have d0 : ((k : Int) == (p : Int)) = false := by simp; omega
      have d00 : ¬ ((k : Int) = (p : Int)) := by omega
      have j1 : (0 : Int) ≤ (p : Int) := by omega
      have j2 : (p : Int) ≤ (k : Int) := by omega
      have j3 : (k : Int) ≤ (s.size : Int) := by omega
      clear hr hbd hu
      rcases hstop with hend | ⟨hks, hb⟩ | ⟨hks, hb, h62⟩
      · have d1 : decide ((k : Int) < (s.size : Int)) = false := by simp; omega
        have d2 : decide (k < s.size) = false := by simp; omega
        clear hend
        go_wp2_with fail
        go_quiet (fail)
        go_wp2_with fail
        obtain ⟨n2, hn2⟩ : ∃ n2, n2 = nq := ⟨_, rfl⟩
        have hx3 := (HX1.out.drewN nq).set3 false
        have hg3 : W.grownBy ((wr.drewN nq).setCell ⟨X, 3, none⟩ (.bool false)) (some X) := only_set (only_drewN hg _) _ _
        have c03 := hx3.c0
        have c13 := hx3.c1
        have HX3 := Lib.hid hx3; clear hx3
        have HG3 := Lib.hid hg3; clear hg3 c0 c1 c3
        go_wp2_with fail
        refine wp_region_still_tail 10 (by kernel_rfl) (by kernel_rfl) ?_
        simp only [List.take_succ_cons, List.take_zero, List.drop_succ_cons, List.drop_zero, drew_raw]
        repeat still_step
        refine wpStill_nil ?_
        go_wp2_with fail
        refine (HUN.out _).mono ?_
        rintro e w3 ⟨rfl, hb3⟩
        go_wp2_with fail
        go_ret
        exact ⟨rfl, (HX3.out.drew).below hb3, only_below (only_drew HG3.out) hb3⟩
      · have d1 : decide ((k : Int) < (s.size : Int)) = true := by simp; omega
        have d2 : decide (k < s.size) = true := by simp; omega
        have h1 := fun W => isSpace_any s[k] W
        rw [hb] at h1
        have H1 := Lib.hid h1; clear h1 hb
        go_wp2_with fail
        go_quiet ((go_at_call 39; exact Calls.quiet_of_same ((H1.out _).mono fun _ _ ⟨he, hw⟩ => ⟨he, hw.symm⟩)))
        go_wp2_with fail
        obtain ⟨n2, hn2⟩ : ∃ n2, n2 = nq := ⟨_, rfl⟩
        have hx3 := (HX1.out.drewN nq).set3 false
        have hg3 : W.grownBy ((wr.drewN nq).setCell ⟨X, 3, none⟩ (.bool false)) (some X) := only_set (only_drewN hg _) _ _
        have c03 := hx3.c0
        have c13 := hx3.c1
        have HX3 := Lib.hid hx3; clear hx3
        have HG3 := Lib.hid hg3; clear hg3 c0 c1 c3
        go_wp2_with fail
        refine wp_region_still_tail 10 (by kernel_rfl) (by kernel_rfl) ?_
        simp only [List.take_succ_cons, List.take_zero, List.drop_succ_cons, List.drop_zero, drew_raw]
        repeat still_step
        refine wpStill_nil ?_
        go_wp2_with fail
        refine (HUN.out _).mono ?_
        rintro e w3 ⟨rfl, hb3⟩
        go_wp2_with fail
        go_ret
        exact ⟨rfl, (HX3.out.drew).below hb3, only_below (only_drew HG3.out) hb3⟩
      · have d1 : decide ((k : Int) < (s.size : Int)) = true := by simp; omega
        have d2 : decide (k < s.size) = true := by simp; omega
        have h1 := fun W => isSpace_any s[k] W
        rw [hb] at h1
        have t2 : ((s[k].toNat : Int) != 62) = false := by
          have h : ((s[k].toNat : Int) == 62) = (s[k] == 62) := u8_beq _ 62
          simp [bne, h62]
        have H1 := Lib.hid h1; clear h1 hb h62
        go_wp2_with fail
        go_quiet ((go_at_call 39; exact Calls.quiet_of_same ((H1.out _).mono fun _ _ ⟨he, hw⟩ => ⟨he, hw.symm⟩)))
        go_wp2_with fail
        obtain ⟨n2, hn2⟩ : ∃ n2, n2 = nq := ⟨_, rfl⟩
        have hx3 := (HX1.out.drewN nq).set3 false
        have hg3 : W.grownBy ((wr.drewN nq).setCell ⟨X, 3, none⟩ (.bool false)) (some X) := only_set (only_drewN hg _) _ _
        have c03 := hx3.c0
        have c13 := hx3.c1
        have HX3 := Lib.hid hx3; clear hx3
        have HG3 := Lib.hid hg3; clear hg3 c0 c1 c3
        go_wp2_with fail
        refine wp_region_still_tail 10 (by kernel_rfl) (by kernel_rfl) ?_
        simp only [List.take_succ_cons, List.take_zero, List.drop_succ_cons, List.drop_zero, drew_raw]
        repeat still_step
        refine wpStill_nil ?_
        go_wp2_with fail
        refine (HUN.out _).mono ?_
        rintro e w3 ⟨rfl, hb3⟩
        go_wp2_with fail
        go_ret
        exact ⟨rfl, (HX3.out.drew).below hb3, only_below (only_drew HG3.out) hb3⟩
end Go.Proofs.YtopmbledpalmdaaGreatDoor
