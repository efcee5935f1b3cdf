/-
  The walks of (*snippet).word and (*snippet).value.
-/
import Derived.Test.YtopmbledpalmdaaGreatDoorMem
import Derived.Deep.RegionWith
import Derived.Deep.RegionHeld3
import Derived.StillTailTactics
import Derived.IntWalk
import Derived.Deep.DeepCutAuto
namespace Go.Proofs.YtopmbledpalmdaaGreatDoor
open Go.RowKit Go.Proofs

theorem wordL_le (l : Bs) : (wordL l).length ≤ l.length := (List.takeWhile_prefix isAlnumB).length_le
theorem wordL_take (l : Bs) : l.take (wordL l).length = wordL l := (List.prefix_iff_eq_take.1 (List.takeWhile_prefix isAlnumB)).symm

set_option maxRecDepth 1000000 in
set_option maxHeartbeats 1600000 in
theorem xword_any (s : ByteArray) (X p : Nat) (ov : Value) (bad : Bool) (W : World) (hx : SX W X s p ov bad) (hp : p ≤ s.size) (hs : s.size ≤ 140737488355328) :
    Calls Tryz.prog 29 #[.pointer (some ⟨X, 0, none⟩)] W fun e w' => e = .returned (.string ⟨(lowL (wordL (sfx s p))).toArray⟩) ∧ SXTo W X s (p + (wordL (sfx s p)).length) ov bad w' := by
  have h1 := fun W => word_any (s.extract p s.size) W (by simp; omega)
  rw [extract_end] at h1
  obtain ⟨u, hu⟩ : ∃ u, (s.extract p s.size).extract 0 (wordL (sfx s p)).length = u := ⟨_, rfl⟩
  rw [hu] at h1
  have hul : u.data.toList = wordL (sfx s p) := by
    rw [← hu, extract_data, Nat.sub_zero, sfx_zero, extract_end]
    exact wordL_take _
  have hle := wordL_le (sfx s p)
  rw [sfx_length] at hle
  have hus : u.size = (wordL (sfx s p)).length := by rw [← hul]; simp
  have h2 := fun W => lower_any u W (by omega)
  rw [hul] at h2
  rw [← hus] at hle ⊢
  obtain ⟨r, hr⟩ : ∃ r : ByteArray, ⟨(lowL (wordL (sfx s p))).toArray⟩ = r := ⟨_, rfl⟩
  rw [hr] at h2 ⊢
  have c0 := hx.c0
  have c1 := hx.c1
  have z1 := hx.fz 1
  have HX := Lib.hid hx; clear hx
  have H1 := Lib.hid h1; clear h1
  have H2 := Lib.hid h2; clear h2 hr hus hul hu
  go_enter Tryz.func29, Tryz.ntmps29
  go_wp2_with fail
  go_quiet ((go_at_call 25; exact Calls.quiet_of_same ((H1.out _).mono fun _ _ ⟨he, hw⟩ => ⟨he, hw.symm⟩)))
  go_wp2_with fail
  have hsx := (HX.out.drewN nq).set1' (p + u.size) ((p : Int) + (u.size : Int)) (by omega)
  refine (H2.out _).mono ?_
  rintro e w1 ⟨rfl, hb⟩
  go_wp2_with fail
  go_ret
  exact ⟨rfl, hsx.below hb, only_below (only_set (only_drewN (only_refl _ _) _) _ _) hb⟩

theorem findL_le (what : Bs) : ∀ l : Bs, findL what l ≤ l.length
  | [] => Nat.le_refl _
  | c :: r => by
    simp only [findL]
    split
    · omega
    · have := findL_le what r
      simp; omega

/-- What value does: the reader's place behind it, and its flag. -/
def valTo (W : World) (X : Nat) (s : ByteArray) (p : Nat) (ov : Value) (r : Option (Bs × Nat)) (e : Ending) (W' : World) : Prop :=
  match r with
  | some (v, n) => e = .returned (.string ⟨v.toArray⟩) ∧ SXTo W X s (p + n) ov false W'
  | none => ∃ (v : ByteArray) (p' : Nat), p' ≤ s.size ∧ e = .returned (.string v) ∧ SXTo W X s p' ov true W'

set_option maxRecDepth 1000000 in
set_option maxHeartbeats 1600000 in
theorem xvalue_end (s : ByteArray) (X p : Nat) (ov : Value) (W : World) (hx : SX W X s p ov false) (hp : p = s.size) (_hs : s.size ≤ 17592186044416) :
    Calls Tryz.prog 31 #[.pointer (some ⟨X, 0, none⟩)] W (valTo W X s p ov (valueL (sfx s p))) := by
  have hv : valueL (sfx s p) = none := by rw [sfx_end s p (by omega)]; rfl
  rw [hv]; clear hv
  have c0 := hx.c0
  have c1 := hx.c1
  have z3 := hx.fz 3
  have c3 := hx.c3
  have d1 : ((p : Int) == (s.size : Int)) = true := by simp; omega
  have hps : p ≤ s.size := by omega
  have HX := Lib.hid hx; clear hx hp
  go_enter Tryz.func31, Tryz.ntmps31
  go_wp2_with fail
  go_quiet (fail)
  go_wp2_with fail
  go_ret
  exact ⟨_, p, hps, rfl, (HX.out.drewN _).set3 true, only_set (only_drewN (only_refl _ _) _) _ _⟩

theorem drew_raw (w : World) : ({ heap := w.heap, tape := w.tape, drawn := w.drawn + 1, os := w.os, output := w.output } : World) = w.drew := rfl
theorem quoteCv (W : World) (c : UInt8) (b : Nat) (hc : W.cell? ⟨b, 0, none⟩ = some (.int .u8 (c.toNat : Int))) :
    (convert 49 9 (.slice (some ⟨b, 0, none⟩) 1 1)).run Tryz.prog W = .ok (.string ⟨#[c]⟩) W :=
  back W b [c] 1 rfl (fun j hj => by
    obtain rfl : j = 0 := by simp at hj; exact hj
    exact hc)

set_option maxRecDepth 1000000 in
set_option maxHeartbeats 1600000 in
theorem xvalue_quoted (s : ByteArray) (X p : Nat) (ov : Value) (W : World) (hx : SX W X s p ov false) (hp : p < s.size) (hs : s.size ≤ 17592186044416) (hq : s[p] = 34 ∨ s[p] = 39) :
    Calls Tryz.prog 31 #[.pointer (some ⟨X, 0, none⟩)] W (valTo W X s p ov (valueL (sfx s p))) := by
  obtain ⟨q, hqv⟩ : ∃ q, s[p] = q := ⟨_, rfl⟩
  obtain ⟨R, hR⟩ : ∃ R, valueL (sfx s p) = R := ⟨_, rfl⟩
  have hRR : R = if findL [q] (sfx s (p + 1)) = (sfx s (p + 1)).length then none else some (unescL true ((sfx s (p + 1)).take (findL [q] (sfx s (p + 1)))), findL [q] (sfx s (p + 1)) + 2) := by
    rw [← hR, sfx_cons s p hp, hqv]
    simp only [valueL]
    rw [hqv] at hq
    rw [if_pos (by rcases hq with h | h <;> simp [h])]
  rw [hR]; clear hR
  rw [hqv] at hq
  obtain ⟨K, hK⟩ : ∃ K, p + 1 + findL [q] (sfx s (p + 1)) = K := ⟨_, rfl⟩
  have hf := fun W => find_any s ⟨#[q]⟩ (p + 1) K W (by omega) (by show (1 : Nat) ≤ _; omega) (by show 0 < 1; omega) (by omega) hK
  rw [show ((p + 1 : Nat) : Int) = (p : Int) + 1 by omega] at hf
  have hwr : IntKind.i64.wrap ((p : Int) + 1) = (p : Int) + 1 := IntWalk.i64_in _ (by omega)
  have hKle : K ≤ s.size := by
    have := findL_le [q] (sfx s (p + 1))
    rw [sfx_length] at this; omega
  have hwk : IntKind.i64.wrap ((K : Int) + 1) = (K : Int) + 1 := IntWalk.i64_in _ (by omega)
  have hlen := sfx_length s (p + 1)
  have c0 := hx.c0
  have c1 := hx.c1
  have c3 := hx.c3
  have z1 := hx.fz 1
  have z3 := hx.fz 3
  have d1 : ((p : Int) == (s.size : Int)) = false := by simp; omega
  have hcv : ∀ n, (convert 49 9 (.slice (some ⟨W.heap.size, 0, none⟩) 1 1)).run Tryz.prog ((W.drewN n).alloc (.cells #[.int .u8 (q.toNat : Int)] 5)) = .ok (.string ⟨#[q]⟩) ((W.drewN n).alloc (.cells #[.int .u8 (q.toNat : Int)] 5)) := fun n =>
    quoteCv _ q _ (by
      show ((W.drewN n).alloc (.cells #[.int .u8 (q.toNat : Int)] 5)).cell? ⟨(W.drewN n).heap.size, 0, none⟩ = _
      rw [World.cell?_alloc_at _ _ _ _ rfl]; rfl)
  have HX := Lib.hid hx; clear hx
  have HF := Lib.hid hf; clear hf
  have HR := Lib.hid hRR; clear hRR
  have HK := Lib.hid hK; clear hK
  have HL := Lib.hid hlen; clear hlen
  have HQ := Lib.hid hqv
  have hq0 : (s[p].toNat : Int) = (q.toNat : Int) := by rw [hqv]
  clear hqv
  have hqq : (((q.toNat : Int) == 34) = true) ∨ (((q.toNat : Int) == 34) = false ∧ ((q.toNat : Int) == 39) = true) := by
    rcases hq with h | h
    · exact .inl (by rw [h]; rfl)
    · exact .inr ⟨by rw [h]; rfl, by rw [h]; rfl⟩
  clear hq
  have c0d : ∀ n, (W.drewN n).cell? ⟨X, 0, none⟩ = some (.string s) := fun n => (HX.out.drewN n).c0
  have c1d : ∀ n, (W.drewN n).cell? ⟨X, 1, none⟩ = some (.int .i64 (p : Int)) := fun n => (HX.out.drewN n).c1
  have c0a : ∀ n o, ((W.drewN n).alloc o).cell? ⟨X, 0, none⟩ = some (.string s) := fun n o => ((HX.out.drewN n).alloc o).c0
  have c1a : ∀ n o, ((W.drewN n).alloc o).cell? ⟨X, 1, none⟩ = some (.int .i64 (p : Int)) := fun n o => ((HX.out.drewN n).alloc o).c1
  go_enter Tryz.func31, Tryz.ntmps31
  go_wp2_with fail
  go_quiet (fail)
  obtain ⟨n1, rfl⟩ : ∃ n1, n1 = nq := ⟨_, rfl⟩
  go_wp2_with fail
  go_quiet (fail)
  obtain ⟨N, hN⟩ : ∃ N, n1 + nq = N := ⟨_, rfl⟩
  rw [World.drewN_drewN, hN]
  clear hN
  go_upto_region 5 with fail
  go_cut [34] (fun v wx => v = .bool true ∧ wx = W.drewN N)
  case first =>
    rcases hqq with hq1 | ⟨hq1, hq2⟩
    all_goals
      go_wp2_with fail
      go_meet
      exact ⟨rfl, rfl⟩
  case rest =>
    obtain ⟨rfl, rfl⟩ := hcut
    go_upto_region 6 with fail
    go_cut [4] (fun v wx => v = .int .i64 (K : Int) ∧ SX wx X s p ov false ∧ W.grownBy wx (some X))
    case first =>
      go_region_with (go_at_call 13; refine (HF.out _).mono ?_; rintro e w' ⟨rfl, rfl⟩)
      all_goals
        go_wp2_with fail
        go_meet
        exact ⟨rfl, (HX.out.drewN _).alloc _, only_alloc (only_drewN (only_refl _ _) _) _⟩
    case rest =>
      clear c0d c1d c0a c1a c0 c1 c3 z1 z3 hcv
      obtain ⟨rfl, hx2, hg2⟩ := hcut
      have c02 := hx2.c0
      have c12 := hx2.c1
      have c32 := hx2.c3
      have z12 := hx2.fz 1
      have z32 := hx2.fz 3
      have HX2 := Lib.hid hx2; clear hx2
      have HG2 := Lib.hid hg2; clear hg2
      by_cases hend : K = s.size
      · have hb : ((K : Int) == (s.size : Int)) = true := by simp; omega
        have hres : R = none := by rw [HR.out, if_pos (by rw [HL.out]; have := HK.out; omega)]
        have hps : p ≤ s.size := by omega
        clear hend
        have HRES := Lib.hid hres; clear hres
        go_wp2_with fail
        go_ret
        rw [HRES.out]
        exact ⟨_, p, hps, rfl, HX2.out.set3 true, only_set HG2.out _ _⟩
      · have hb : ((K : Int) == (s.size : Int)) = false := by simp; omega
        have hres : R = some (unescL true ((sfx s (p + 1)).take (K - (p + 1))), K + 1 - p) := by
          rw [HR.out, if_neg (by rw [HL.out]; have := HK.out; omega)]
          have := HK.out
          rw [show findL [q] (sfx s (p + 1)) = K - (p + 1) by omega]
          congr 2; omega
        have hpK : p + 1 ≤ K := by have := HK.out; omega
        have hun := fun W => unescaped_any (s.extract (p + 1) K) true W (by simp; omega)
        rw [extract_data] at hun
        obtain ⟨v, hv⟩ : ∃ v : ByteArray, ⟨(unescL true ((sfx s (p + 1)).take (K - (p + 1)))).toArray⟩ = v := ⟨_, rfl⟩
        rw [hv] at hun
        have HV := Lib.hid hv; clear hv
        have HUN := Lib.hid hun; clear hun
        have HRES := Lib.hid hres; clear hres
        have i1 : (0 : Int) ≤ (p : Int) + 1 := by omega
        have i2 : (p : Int) + 1 ≤ (K : Int) := by omega
        have i3 : (K : Int) ≤ (s.size : Int) := by omega
        have i4 : ((p : Int) + 1).toNat = p + 1 := by omega
        go_wp2_with fail
        refine wp_region_still_tail 11 (by kernel_rfl) (by kernel_rfl) ?_
        simp only [List.take_succ_cons, List.take_zero, List.drop_succ_cons, List.drop_zero, drew_raw]
        repeat still_step
        refine wpStill_nil ?_
        go_wp2_with fail
        refine (HUN.out _).mono ?_
        rintro e w3 ⟨rfl, hb3⟩
        have hx3 : SX w3 X s p ov false := (HX2.out.drew).below hb3
        have hg3 : W.grownBy w3 (some X) := only_below (only_drew HG2.out) hb3
        have c13 := hx3.c1
        have z13 := hx3.fz 1
        have HX3 := Lib.hid hx3; clear hx3
        have HG3 := Lib.hid hg3; clear hg3
        go_wp2_with fail
        go_ret
        rw [HRES.out]
        exact ⟨by rw [HV.out]; rfl, by have h := HX3.out.set1' (p + (K + 1 - p)) ((K : Int) + 1) (by omega); exact h, only_set HG3.out _ _⟩
end Go.Proofs.YtopmbledpalmdaaGreatDoor
