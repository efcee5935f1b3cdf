/-
  The walk of spec.Coded and of the function literal in it.
-/
import Derived.Test.YtopmbledpalmdaaGreatDoorWalkF
import Derived.Deep.RegionWith
namespace Go.Proofs.YtopmbledpalmdaaGreatDoor
open Go.RowKit Go.Proofs

theorem moreval (m : Nat) (hm : m < 2 ^ 61) : bits .or .i64 128 (bits .and .i64 (m : Int) 63) % 256 = ((128 + m % 64 : Nat) : Int) := by
  have h1 := i64_mask 6 m 63 (m % 64) (by omega) (by decide) rfl rfl
  simp only [show ((63 : Nat) : Int) = 63 from rfl] at h1
  rw [h1, i64_join 6 128 (m % 64) (128 + m % 64) (by decide) (by omega) (by omega) (by omega) rfl 128 rfl]
  omega

set_option maxRecDepth 100000 in
set_option maxHeartbeats 800000 in
theorem more0 (n r : Nat) (hr : 128 + n % 64 = r) (a : Addr) (w : World) (hn : n < 4294967296) (hc : w.cell? a = some (.int .i64 (n : Int))) :
    Calls Tryz.prog 58 #[.int .i64 0, .pointer (some a)] w fun e w' => e = .returned (.int .u8 (r : Int)) ∧ w = w' := by
  have HR := Lib.hid hr; clear hr
  go_enter Tryz.func58, Tryz.ntmps58
  go_wp2
  go_ret
  exact ⟨ret_int (by rw [← HR.out]; exact moreval (n) (by omega)), rfl⟩
set_option maxRecDepth 100000 in
set_option maxHeartbeats 800000 in
theorem more1 (n r : Nat) (hr : 128 + n / 64 % 64 = r) (a : Addr) (w : World) (hn : n < 4294967296) (hc : w.cell? a = some (.int .i64 (n : Int))) :
    Calls Tryz.prog 58 #[.int .i64 1, .pointer (some a)] w fun e w' => e = .returned (.int .u8 (r : Int)) ∧ w = w' := by
  have HR := Lib.hid hr; clear hr
  go_enter Tryz.func58, Tryz.ntmps58
  go_wp2
  go_ret
  exact ⟨ret_int (by rw [← HR.out]; exact moreval (n / 64) (by omega)), rfl⟩
set_option maxRecDepth 100000 in
set_option maxHeartbeats 800000 in
theorem more2 (n r : Nat) (hr : 128 + n / 4096 % 64 = r) (a : Addr) (w : World) (hn : n < 4294967296) (hc : w.cell? a = some (.int .i64 (n : Int))) :
    Calls Tryz.prog 58 #[.int .i64 2, .pointer (some a)] w fun e w' => e = .returned (.int .u8 (r : Int)) ∧ w = w' := by
  have HR := Lib.hid hr; clear hr
  go_enter Tryz.func58, Tryz.ntmps58
  go_wp2
  go_ret
  exact ⟨ret_int (by rw [← HR.out]; exact moreval (n / 4096) (by omega)), rfl⟩

theorem back (W : World) (b : Nat) (l : List UInt8) (n : Nat) (hn : l.length = n) (hc : ∀ j (hj : j < l.length), W.cell? ⟨b, j, none⟩ = some (.int .u8 (l[j].toNat : Int))) :
    (convert 49 9 (.slice (some ⟨b, 0, none⟩) n n)).run Tryz.prog W = .ok (.string ⟨l.toArray⟩) W := by
  subst hn
  exact run_convert_bytes_back W 49 9 5 ⟨b, 0, none⟩ l.length l Tryz.underlying49 Tryz.underlying5 Tryz.underlying9 (fun j hj => by
    rw [show (⟨b, 0, none⟩ : Addr).add j = ⟨b, j, none⟩ by unfold Addr.add; split <;> simp_all]
    exact hc j hj)
theorem u8nat (x : Nat) (h : x < 256) : ((UInt8.ofNat x).toNat : Int) = (x : Int) := by
  simp; omega

set_option maxRecDepth 100000 in
set_option maxHeartbeats 800000 in
theorem coded_one (n : Nat) (w : World) (hn : n < 128) :
    Calls Tryz.prog 47 #[.int .i64 (n : Int)] w fun e w' => e = .returned (.string ⟨(codedL n).toArray⟩) ∧ Below w.heap.size w w' := by
  have hcv := back ((w.alloc (.cells #[.int .i64 (n : Int)] 3)).alloc (.cells #[.int .u8 (n : Int)] 5)) (w.heap.size + 1) [UInt8.ofNat n] 1 rfl (fun j hj => by
    obtain rfl : j = 0 := by simp at hj; exact hj
    rw [World.cell?_alloc_at _ _ _ _ (by simp)]
    simp; omega)
  have hv : codedL n = [UInt8.ofNat n] := by unfold codedL; rw [if_pos hn]
  rw [hv]
  go_enter Tryz.func47, Tryz.ntmps47
  go_wp2_with fail
  go_ret
  exact ⟨rfl, ((Below.refl _ w).alloc (Nat.le_refl _) _).alloc (by simp) _⟩

-- two to four bytes: printed by wip/tools/coded.py
set_option maxRecDepth 1000000 in
set_option maxHeartbeats 1600000 in
theorem coded_two (n : Nat) (w : World) (h1 : 128 ≤ n) (hn : n < 2048) :
    Calls Tryz.prog 47 #[.int .i64 (n : Int)] w fun e w' => e = .returned (.string ⟨(codedL n).toArray⟩) ∧ Below w.heap.size w w' := by
  have hv : codedL n = [UInt8.ofNat (192 + n / 64), UInt8.ofNat (128 + n % 64)] := by unfold codedL; rw [if_neg (by omega), if_pos hn]
  rw [hv]; clear hv
  obtain ⟨p, hp⟩ : ∃ p, 192 + n / 64 = p := ⟨_, rfl⟩
  obtain ⟨r0, hr0⟩ : ∃ r, 128 + n % 64 = r := ⟨_, rfl⟩
  have hj := i64_join 5 192 (n / 64) p (by decide) (by omega) (by omega) (by omega) hp 192 rfl
  have hp2 : p < 256 := by omega
  have hq0 : r0 < 256 := by omega
  rw [hp, hr0]
  simp only [Int.natCast_ediv, Int.cast_ofNat_Int] at hj
  have hw : IntKind.u8.wrap (p : Int) = (p : Int) := by rw [IntKind.wrap_u8]; omega
  have hcv := back (((w.alloc (.cells #[.int .i64 (n : Int)] 3)).alloc (.cells #[.int .u8 (p : Int), .int .u8 (r0 : Int)] 5)).drew) (w.heap.size + 1) [UInt8.ofNat p, UInt8.ofNat r0] 2 rfl (fun j hj => by
    show ((w.alloc (.cells #[.int .i64 (n : Int)] 3)).alloc (.cells #[.int .u8 (p : Int), .int .u8 (r0 : Int)] 5)).cell? _ = _
    rw [World.cell?_alloc_at _ _ _ _ (by simp)]
    match j, hj with
    | 0, _ => simp; omega
    | 1, _ => simp; omega)
  have hm0 := more0 n r0 hr0 ⟨w.heap.size, 0, none⟩ (w.alloc (.cells #[.int .i64 (n : Int)] 3)).drew (by omega) (World.cell?_alloc_at (w := w) #[.int .i64 (n : Int)] 3 _ 0 rfl)
  have HM0 := Lib.hid hm0; clear hm0 hr0
  clear hp
  go_enter Tryz.func47, Tryz.ntmps47
  go_wp2_with fail
  go_region_with (first | (go_at_call_of 58 (Value.int IntKind.i64 0); refine HM0.out.mono ?_; rintro e w' ⟨rfl, rfl⟩))
  all_goals
    go_wp2
    go_ret
    exact ⟨rfl, (((Below.refl _ w).alloc (Nat.le_refl _) _).alloc (by simp) _).drew⟩

set_option maxRecDepth 1000000 in
set_option maxHeartbeats 1600000 in
theorem coded_three (n : Nat) (w : World) (h1 : 2048 ≤ n) (hn : n < 65536) :
    Calls Tryz.prog 47 #[.int .i64 (n : Int)] w fun e w' => e = .returned (.string ⟨(codedL n).toArray⟩) ∧ Below w.heap.size w w' := by
  have hv : codedL n = [UInt8.ofNat (224 + n / 4096), UInt8.ofNat (128 + n / 64 % 64), UInt8.ofNat (128 + n % 64)] := by unfold codedL; rw [if_neg (by omega), if_neg (by omega), if_pos hn]
  rw [hv]; clear hv
  obtain ⟨p, hp⟩ : ∃ p, 224 + n / 4096 = p := ⟨_, rfl⟩
  obtain ⟨r0, hr0⟩ : ∃ r, 128 + n % 64 = r := ⟨_, rfl⟩
  obtain ⟨r1, hr1⟩ : ∃ r, 128 + n / 64 % 64 = r := ⟨_, rfl⟩
  have hj := i64_join 4 224 (n / 4096) p (by decide) (by omega) (by omega) (by omega) hp 224 rfl
  have hp2 : p < 256 := by omega
  have hq0 : r0 < 256 := by omega
  have hq1 : r1 < 256 := by omega
  rw [hp, hr1, hr0]
  simp only [Int.natCast_ediv, Int.cast_ofNat_Int] at hj
  have hw : IntKind.u8.wrap (p : Int) = (p : Int) := by rw [IntKind.wrap_u8]; omega
  have hcv := back (((w.alloc (.cells #[.int .i64 (n : Int)] 3)).alloc (.cells #[.int .u8 (p : Int), .int .u8 (r1 : Int), .int .u8 (r0 : Int)] 5)).drew) (w.heap.size + 1) [UInt8.ofNat p, UInt8.ofNat r1, UInt8.ofNat r0] 3 rfl (fun j hj => by
    show ((w.alloc (.cells #[.int .i64 (n : Int)] 3)).alloc (.cells #[.int .u8 (p : Int), .int .u8 (r1 : Int), .int .u8 (r0 : Int)] 5)).cell? _ = _
    rw [World.cell?_alloc_at _ _ _ _ (by simp)]
    match j, hj with
    | 0, _ => simp; omega
    | 1, _ => simp; omega
    | 2, _ => simp; omega)
  have hm0 := more0 n r0 hr0 ⟨w.heap.size, 0, none⟩ (w.alloc (.cells #[.int .i64 (n : Int)] 3)).drew (by omega) (World.cell?_alloc_at (w := w) #[.int .i64 (n : Int)] 3 _ 0 rfl)
  have hm1 := more1 n r1 hr1 ⟨w.heap.size, 0, none⟩ (w.alloc (.cells #[.int .i64 (n : Int)] 3)).drew (by omega) (World.cell?_alloc_at (w := w) #[.int .i64 (n : Int)] 3 _ 0 rfl)
  have HM0 := Lib.hid hm0; clear hm0 hr0
  have HM1 := Lib.hid hm1; clear hm1 hr1
  clear hp
  go_enter Tryz.func47, Tryz.ntmps47
  go_wp2_with fail
  go_region_with (first | (go_at_call_of 58 (Value.int IntKind.i64 0); refine HM0.out.mono ?_; rintro e w' ⟨rfl, rfl⟩) | (go_at_call_of 58 (Value.int IntKind.i64 1); refine HM1.out.mono ?_; rintro e w' ⟨rfl, rfl⟩))
  all_goals
    go_wp2
    go_ret
    exact ⟨rfl, (((Below.refl _ w).alloc (Nat.le_refl _) _).alloc (by simp) _).drew⟩

set_option maxRecDepth 1000000 in
set_option maxHeartbeats 1600000 in
theorem coded_four (n : Nat) (w : World) (h1 : 65536 ≤ n) (hn : n < 1114112) :
    Calls Tryz.prog 47 #[.int .i64 (n : Int)] w fun e w' => e = .returned (.string ⟨(codedL n).toArray⟩) ∧ Below w.heap.size w w' := by
  have hv : codedL n = [UInt8.ofNat (240 + n / 262144), UInt8.ofNat (128 + n / 4096 % 64), UInt8.ofNat (128 + n / 64 % 64), UInt8.ofNat (128 + n % 64)] := by unfold codedL; rw [if_neg (by omega), if_neg (by omega), if_neg (by omega)]
  rw [hv]; clear hv
  obtain ⟨p, hp⟩ : ∃ p, 240 + n / 262144 = p := ⟨_, rfl⟩
  obtain ⟨r0, hr0⟩ : ∃ r, 128 + n % 64 = r := ⟨_, rfl⟩
  obtain ⟨r1, hr1⟩ : ∃ r, 128 + n / 64 % 64 = r := ⟨_, rfl⟩
  obtain ⟨r2, hr2⟩ : ∃ r, 128 + n / 4096 % 64 = r := ⟨_, rfl⟩
  have hj := i64_join 3 240 (n / 262144) p (by decide) (by omega) (by omega) (by omega) hp 240 rfl
  have hp2 : p < 256 := by omega
  have hq0 : r0 < 256 := by omega
  have hq1 : r1 < 256 := by omega
  have hq2 : r2 < 256 := by omega
  rw [hp, hr2, hr1, hr0]
  simp only [Int.natCast_ediv, Int.cast_ofNat_Int] at hj
  have hw : IntKind.u8.wrap (p : Int) = (p : Int) := by rw [IntKind.wrap_u8]; omega
  have hcv := back (((w.alloc (.cells #[.int .i64 (n : Int)] 3)).alloc (.cells #[.int .u8 (p : Int), .int .u8 (r2 : Int), .int .u8 (r1 : Int), .int .u8 (r0 : Int)] 5)).drew) (w.heap.size + 1) [UInt8.ofNat p, UInt8.ofNat r2, UInt8.ofNat r1, UInt8.ofNat r0] 4 rfl (fun j hj => by
    show ((w.alloc (.cells #[.int .i64 (n : Int)] 3)).alloc (.cells #[.int .u8 (p : Int), .int .u8 (r2 : Int), .int .u8 (r1 : Int), .int .u8 (r0 : Int)] 5)).cell? _ = _
    rw [World.cell?_alloc_at _ _ _ _ (by simp)]
    match j, hj with
    | 0, _ => simp; omega
    | 1, _ => simp; omega
    | 2, _ => simp; omega
    | 3, _ => simp; omega)
  have hm0 := more0 n r0 hr0 ⟨w.heap.size, 0, none⟩ (w.alloc (.cells #[.int .i64 (n : Int)] 3)).drew (by omega) (World.cell?_alloc_at (w := w) #[.int .i64 (n : Int)] 3 _ 0 rfl)
  have hm1 := more1 n r1 hr1 ⟨w.heap.size, 0, none⟩ (w.alloc (.cells #[.int .i64 (n : Int)] 3)).drew (by omega) (World.cell?_alloc_at (w := w) #[.int .i64 (n : Int)] 3 _ 0 rfl)
  have hm2 := more2 n r2 hr2 ⟨w.heap.size, 0, none⟩ (w.alloc (.cells #[.int .i64 (n : Int)] 3)).drew (by omega) (World.cell?_alloc_at (w := w) #[.int .i64 (n : Int)] 3 _ 0 rfl)
  have HM0 := Lib.hid hm0; clear hm0 hr0
  have HM1 := Lib.hid hm1; clear hm1 hr1
  have HM2 := Lib.hid hm2; clear hm2 hr2
  clear hp
  go_enter Tryz.func47, Tryz.ntmps47
  go_wp2_with fail
  go_region_with (first | (go_at_call_of 58 (Value.int IntKind.i64 0); refine HM0.out.mono ?_; rintro e w' ⟨rfl, rfl⟩) | (go_at_call_of 58 (Value.int IntKind.i64 1); refine HM1.out.mono ?_; rintro e w' ⟨rfl, rfl⟩) | (go_at_call_of 58 (Value.int IntKind.i64 2); refine HM2.out.mono ?_; rintro e w' ⟨rfl, rfl⟩))
  all_goals
    go_wp2
    go_ret
    exact ⟨rfl, (((Below.refl _ w).alloc (Nat.le_refl _) _).alloc (by simp) _).drew⟩

theorem coded_any (n : Nat) (w : World) (hn : n < 1114112) :
    Calls Tryz.prog 47 #[.int .i64 (n : Int)] w fun e w' => e = .returned (.string ⟨(codedL n).toArray⟩) ∧ Below w.heap.size w w' := by
  by_cases h1 : n < 128
  · exact coded_one n w h1
  by_cases h2 : n < 2048
  · exact coded_two n w (by omega) h2
  by_cases h3 : n < 65536
  · exact coded_three n w (by omega) h3
  · exact coded_four n w (by omega) hn
end Go.Proofs.YtopmbledpalmdaaGreatDoor
