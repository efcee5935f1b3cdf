/-
  The walks of spec.size, spec.Valid and laws.plain.
-/
import Derived.Test.YtopmbledpalmdaaGreatDoorWalkA
namespace Go.Proofs.YtopmbledpalmdaaGreatDoor
open Go.RowKit Go.Proofs

theorem wraps_i64 (n : Int) (h₀ : 0 ≤ n) (h₁ : n < 2 ^ 62) : IntKind.i64.wrap n = n := by rw [IntKind.wrap_i64]; omega
theorem i64_mask (i x m r : Nat) (hx : x < 2 ^ 62) (hi : i ≤ 62) (hm : 2 ^ i - 1 = m) (hr : x % 2 ^ i = r) : bits .and .i64 (x : Int) (m : Int) = (r : Int) := by
  have hp : 0 < 2 ^ i := Nat.two_pow_pos i
  have h := bits_mask .i64 62 (by decide) wraps_i64 i hi (x : Int) (by omega) (by exact_mod_cast hx)
  subst hm hr
  rw [Int.natCast_sub hp]
  simpa using h
theorem u8_mask (i x m r : Nat) (hx : x < 2 ^ 8) (hi : i ≤ 8) (hm : 2 ^ i - 1 = m) (hr : x % 2 ^ i = r) : bits .and .u8 (x : Int) (m : Int) = (r : Int) := by
  have hp : 0 < 2 ^ i := Nat.two_pow_pos i
  have h := bits_mask .u8 8 (by decide) wraps_u8 i hi (x : Int) (by omega) (by exact_mod_cast hx)
  subst hm hr
  rw [Int.natCast_sub hp]
  simpa using h
theorem u8_192 : ∀ x : UInt8, bits .and .u8 (x.toNat : Int) 192 = ((x.toNat / 64 * 64 : Nat) : Int) := by
  intro x
  have h : ∀ n : Fin 256, bits .and .u8 (n.val : Int) 192 = ((n.val / 64 * 64 : Nat) : Int) := by decide +kernel
  exact h ⟨x.toNat, x.toNat_lt⟩
theorem i64_join (i x y r : Nat) (hi : x % 2 ^ i = 0) (hy : y < 2 ^ i) (hx : x < 2 ^ 61) (hy2 : y < 2 ^ 61) (hr : x + y = r) (z : Int) (hz : z = (x : Int)) : bits .or .i64 z (y : Int) = (r : Int) := by
  subst hz hr
  rw [bits_join .i64 62 (by decide) wraps_i64 i (x : Int) (y : Int) (by omega) (by exact_mod_cast hi) (by omega) (by omega) (by exact_mod_cast hy) (by omega)]
  simp

theorem list1 (s : ByteArray) (h : 0 < s.size) : s.data.toList = s[0] :: sfx s 1 := sfx_cons s 0 h

set_option maxRecDepth 100000 in
set_option maxHeartbeats 800000 in
theorem size_one (s : ByteArray) (w : World) (h : 0 < s.size) (_hs : s.size ≤ 140737488355328) (h0 : s[0].toNat < 128 ∨ (128 ≤ s[0].toNat ∧ s[0].toNat < 194) ∨ 245 ≤ s[0].toNat) :
    Calls Tryz.prog 23 #[.string s] w fun e w' => e = .returned (.int .i64 (sizeL s.data.toList)) ∧ w = w' := by
  have hl := list1 s h
  obtain ⟨n, hn⟩ : ∃ n, s[0].toNat = n := ⟨_, rfl⟩
  have hn2 : n < 256 := by rw [← hn]; exact s[0].toNat_lt
  rcases h0 with h0 | h0 | h0
  · have hv : sizeL s.data.toList = 1 := by rw [hl]; simp only [sizeL]; rw [if_pos h0]
    rw [hn] at h0
    rw [hv]; clear hv hl
    go_enter Tryz.func23, Tryz.ntmps23
    go_wp2
    go_ret
    exact ⟨rfl, rfl⟩
  · have hv : sizeL s.data.toList = 0 := by rw [hl]; simp only [sizeL]; rw [if_neg (by omega), if_neg (by omega), if_neg (by omega), if_neg (by omega)]
    rw [hn] at h0
    rw [hv]; clear hv hl
    obtain ⟨h1, h2⟩ := h0
    go_enter Tryz.func23, Tryz.ntmps23
    go_wp2
    go_ret
    exact ⟨rfl, rfl⟩
  · have hv : sizeL s.data.toList = 0 := by rw [hl]; simp only [sizeL]; rw [if_neg (by omega), if_neg (by omega), if_neg (by omega), if_neg (by omega)]
    rw [hn] at h0
    rw [hv]; clear hv hl
    go_enter Tryz.func23, Tryz.ntmps23
    go_wp2
    go_ret
    exact ⟨rfl, rfl⟩

set_option maxRecDepth 100000 in
set_option maxHeartbeats 800000 in
theorem size_two (s : ByteArray) (w : World) (h : 0 < s.size) (hs : s.size ≤ 140737488355328) (h0 : 194 ≤ s[0].toNat) (h1 : s[0].toNat < 224) :
    Calls Tryz.prog 23 #[.string s] w fun e w' => e = .returned (.int .i64 (sizeL s.data.toList)) ∧ w = w' := by
  have hl := list1 s h
  have hz : sizeL (s[0] :: sfx s 1) = (match sfx s 1 with | c1 :: _ => if c1.toNat / 64 = 2 then 2 else 0 | _ => 0) := by
    simp only [sizeL]; rw [if_neg (by omega), if_pos ⟨h0, h1⟩]; cases sfx s 1 <;> rfl
  obtain ⟨n, hn⟩ : ∃ n, s[0].toNat = n := ⟨_, rfl⟩
  rw [hn] at h0 h1
  obtain ⟨a, ha⟩ : ∃ a, n % 32 = a := ⟨_, rfl⟩
  have r0 : bits .and .i64 (n : Int) 31 = (a : Int) := i64_mask 5 n 31 a (by omega) (by decide) rfl ha
  by_cases h2 : s.size < 2
  · have hv : sizeL s.data.toList = 0 := by rw [hl, hz, sfx_end s 1 (by omega)]
    rw [hv]; clear hv hl hz ha
    go_enter Tryz.func23, Tryz.ntmps23
    go_wp2
    go_ret
    exact ⟨rfl, rfl⟩
  have hc1 := sfx_cons s 1 (by omega)
  obtain ⟨c1, hc⟩ : ∃ c1, s[1] = c1 := ⟨_, rfl⟩
  have hm1 := u8_192 c1
  have hn1 := c1.toNat_lt
  rw [hc] at hc1
  by_cases h3 : c1.toNat / 64 = 2
  · have hv : sizeL s.data.toList = 2 := by rw [hl, hz, hc1]; simp [h3]
    rw [hv]; clear hv hl hz
    rw [h3] at hm1
    simp only [show ((2 * 64 : Nat) : Int) = 128 from rfl] at hm1
    obtain ⟨b, hb⟩ : ∃ b, c1.toNat % 64 = b := ⟨_, rfl⟩
    have r1 : bits .and .u8 (c1.toNat : Int) 63 = (b : Int) := u8_mask 6 _ 63 b (by omega) (by decide) rfl hb
    obtain ⟨v, hv⟩ : ∃ v, a * 64 + b = v := ⟨_, rfl⟩
    have j1 : bits .or .i64 ((a : Int) * 64) (b : Int) = (v : Int) := i64_join 6 (a * 64) b v (by omega) (by omega) (by omega) (by omega) hv _ (by simp)
    have l0 : a < 32 := by omega
    have l1 : b < 64 := by omega
    have l2 : 128 ≤ v := by omega
    have l3 : v < 2048 := by omega
    clear ha hb hv hc1 h3
    go_enter Tryz.func23, Tryz.ntmps23
    go_wp2
    refine wp_loop_rounds 2 ?_
    rw [rounds_succ]; go_wp2
    rw [rounds_succ]; go_wp2
    go_ret
    exact ⟨rfl, rfl⟩
  · have hv : sizeL s.data.toList = 0 := by rw [hl, hz, hc1]; simp [h3]
    rw [hv]; clear hv hl hz
    have hm2 : (bits .and .u8 (c1.toNat : Int) 192 != 128) = true := by rw [hm1, bne_iff_ne]; omega
    clear ha hc1 h3 hm1
    go_enter Tryz.func23, Tryz.ntmps23
    go_wp2
    refine wp_loop_rounds 1 ?_
    rw [rounds_succ]; go_wp2
    go_ret
    exact ⟨rfl, rfl⟩

-- three and four bytes: printed by wip/tools/size34.py
set_option maxRecDepth 100000 in
set_option maxHeartbeats 1600000 in
theorem size_three (s : ByteArray) (w : World) (h : 0 < s.size) (hs : s.size ≤ 140737488355328) (h0 : 224 ≤ s[0].toNat) (h1 : s[0].toNat < 240) :
    Calls Tryz.prog 23 #[.string s] w fun e w' => e = .returned (.int .i64 (sizeL s.data.toList)) ∧ w = w' := by
  have hl := list1 s h
  obtain ⟨n, hn⟩ : ∃ n, s[0].toNat = n := ⟨_, rfl⟩
  have hz : ∀ r, sizeL (s[0] :: r) = (match r with
      | c1 :: c2 :: _ => if c1.toNat / 64 = 2 ∧ c2.toNat / 64 = 2 then (if (n % 16 * 64 + c1.toNat % 64) * 64 + c2.toNat % 64 < 2048 ∨ (55296 ≤ (n % 16 * 64 + c1.toNat % 64) * 64 + c2.toNat % 64 ∧ (n % 16 * 64 + c1.toNat % 64) * 64 + c2.toNat % 64 ≤ 57343) then 0 else 3) else 0
      | _ => 0) := by
    intro r
    subst hn
    simp only [sizeL]; rw [if_neg (by omega), if_neg (by omega), if_pos ⟨h0, h1⟩]; rcases r with _ | ⟨_, _ | ⟨_, _⟩⟩ <;> rfl
  rw [hn] at h0 h1
  obtain ⟨a, ha⟩ : ∃ a, n % 16 = a := ⟨_, rfl⟩
  have r0 : bits .and .i64 (n : Int) 15 = (a : Int) := i64_mask 4 n 15 a (by omega) (by decide) rfl ha
  have la : a < 16 := by omega
  by_cases h2 : s.size < 3
  · have hv : sizeL s.data.toList = 0 := by
      have hlen := sfx_length s 1
      rw [hl, hz]
      rcases h5 : sfx s 1 with _ | ⟨_, _ | ⟨_, _⟩⟩ <;> first | rfl | (rw [h5] at hlen; simp at hlen; omega)
    rw [hv]; clear hv hl hz ha
    go_enter Tryz.func23, Tryz.ntmps23
    go_wp2
    go_ret
    exact ⟨rfl, rfl⟩
  have hc1 := sfx_cons s 1 (by omega)
  obtain ⟨c1, hd1⟩ : ∃ c1, s[1] = c1 := ⟨_, rfl⟩
  have hm1 := u8_192 c1
  have hn1 := c1.toNat_lt
  rw [hd1] at hc1
  have hc2 := sfx_cons s 2 (by omega)
  obtain ⟨c2, hd2⟩ : ∃ c2, s[2] = c2 := ⟨_, rfl⟩
  have hm2 := u8_192 c2
  have hn2 := c2.toNat_lt
  rw [hd2] at hc2
  by_cases k1 : c1.toNat / 64 = 2
  case neg =>
    have hv : sizeL s.data.toList = 0 := by rw [hl, hz, hc1, hc2]; simp [k1]
    rw [hv]; clear hv hl hz
    have hq : (bits .and .u8 (c1.toNat : Int) 192 != 128) = true := by rw [hm1, bne_iff_ne]; omega
    clear ha k1 hm1 hc1 hc2 hm2 
    go_enter Tryz.func23, Tryz.ntmps23
    go_wp2
    refine wp_loop_rounds 1 ?_
    rw [rounds_succ]; go_wp2
    go_ret
    exact ⟨rfl, rfl⟩
  rw [k1] at hm1
  simp only [show ((2 * 64 : Nat) : Int) = 128 from rfl] at hm1
  obtain ⟨b1, hb1⟩ : ∃ b, c1.toNat % 64 = b := ⟨_, rfl⟩
  have r1 : bits .and .u8 (c1.toNat : Int) 63 = (b1 : Int) := u8_mask 6 _ 63 b1 (by omega) (by decide) rfl hb1
  have lb1 : b1 < 64 := by omega
  obtain ⟨v1, hw1⟩ : ∃ v, a * 64 + b1 = v := ⟨_, rfl⟩
  have j1 : bits .or .i64 ((a : Int) * 64) (b1 : Int) = (v1 : Int) := i64_join 6 (a * 64) b1 v1 (by omega) (by omega) (by omega) (by omega) hw1 _ (by simp)
  have lv1 : v1 < 1024 := by omega
  by_cases k2 : c2.toNat / 64 = 2
  case neg =>
    have hv : sizeL s.data.toList = 0 := by rw [hl, hz, hc1, hc2]; simp [k2]
    rw [hv]; clear hv hl hz
    have hq : (bits .and .u8 (c2.toNat : Int) 192 != 128) = true := by rw [hm2, bne_iff_ne]; omega
    clear ha k2 hm2 hc1 hc2 hb1 hw1
    go_enter Tryz.func23, Tryz.ntmps23
    go_wp2
    refine wp_loop_rounds 2 ?_
    rw [rounds_succ]; go_wp2
    rw [rounds_succ]; go_wp2
    go_ret
    exact ⟨rfl, rfl⟩
  rw [k2] at hm2
  simp only [show ((2 * 64 : Nat) : Int) = 128 from rfl] at hm2
  obtain ⟨b2, hb2⟩ : ∃ b, c2.toNat % 64 = b := ⟨_, rfl⟩
  have r2 : bits .and .u8 (c2.toNat : Int) 63 = (b2 : Int) := u8_mask 6 _ 63 b2 (by omega) (by decide) rfl hb2
  have lb2 : b2 < 64 := by omega
  obtain ⟨v2, hw2⟩ : ∃ v, v1 * 64 + b2 = v := ⟨_, rfl⟩
  have j2 : bits .or .i64 ((v1 : Int) * 64) (b2 : Int) = (v2 : Int) := i64_join 6 (v1 * 64) b2 v2 (by omega) (by omega) (by omega) (by omega) hw2 _ (by simp)
  have lv2 : v2 < 65536 := by omega
  by_cases q1 : v2 < 2048
  · have hv : sizeL s.data.toList = 0 := by
      rw [hl, hz, hc1, hc2]
      simp only [k1, k2, ha, hb1, hw1, hb2, hw2, and_self, if_true]
      exact if_pos (by omega)
    rw [hv]; clear hv hl hz
    clear ha hb1 hw1 hc1 k1 hb2 hw2 hc2 k2
    go_enter Tryz.func23, Tryz.ntmps23
    go_wp2
    refine wp_loop_rounds 3 ?_
    rw [rounds_succ]; go_wp2
    rw [rounds_succ]; go_wp2
    rw [rounds_succ]; go_wp2
    go_ret
    exact ⟨rfl, rfl⟩
  by_cases q2 : v2 < 55296
  · have hv : sizeL s.data.toList = 3 := by
      rw [hl, hz, hc1, hc2]
      simp only [k1, k2, ha, hb1, hw1, hb2, hw2, and_self, if_true]
      exact if_neg (by omega)
    rw [hv]; clear hv hl hz
    clear ha hb1 hw1 hc1 k1 hb2 hw2 hc2 k2
    go_enter Tryz.func23, Tryz.ntmps23
    go_wp2
    refine wp_loop_rounds 3 ?_
    rw [rounds_succ]; go_wp2
    rw [rounds_succ]; go_wp2
    rw [rounds_succ]; go_wp2
    go_ret
    exact ⟨rfl, rfl⟩
  by_cases q3 : v2 ≤ 57343
  · have hv : sizeL s.data.toList = 0 := by
      rw [hl, hz, hc1, hc2]
      simp only [k1, k2, ha, hb1, hw1, hb2, hw2, and_self, if_true]
      exact if_pos (by omega)
    rw [hv]; clear hv hl hz
    clear ha hb1 hw1 hc1 k1 hb2 hw2 hc2 k2
    go_enter Tryz.func23, Tryz.ntmps23
    go_wp2
    refine wp_loop_rounds 3 ?_
    rw [rounds_succ]; go_wp2
    rw [rounds_succ]; go_wp2
    rw [rounds_succ]; go_wp2
    go_ret
    exact ⟨rfl, rfl⟩
  have q4 : 57343 < v2 := by omega
  · have hv : sizeL s.data.toList = 3 := by
      rw [hl, hz, hc1, hc2]
      simp only [k1, k2, ha, hb1, hw1, hb2, hw2, and_self, if_true]
      exact if_neg (by omega)
    rw [hv]; clear hv hl hz
    clear ha hb1 hw1 hc1 k1 hb2 hw2 hc2 k2
    go_enter Tryz.func23, Tryz.ntmps23
    go_wp2
    refine wp_loop_rounds 3 ?_
    rw [rounds_succ]; go_wp2
    rw [rounds_succ]; go_wp2
    rw [rounds_succ]; go_wp2
    go_ret
    exact ⟨rfl, rfl⟩

set_option maxRecDepth 100000 in
set_option maxHeartbeats 1600000 in
theorem size_four (s : ByteArray) (w : World) (h : 0 < s.size) (hs : s.size ≤ 140737488355328) (h0 : 240 ≤ s[0].toNat) (h1 : s[0].toNat < 245) :
    Calls Tryz.prog 23 #[.string s] w fun e w' => e = .returned (.int .i64 (sizeL s.data.toList)) ∧ w = w' := by
  have hl := list1 s h
  obtain ⟨n, hn⟩ : ∃ n, s[0].toNat = n := ⟨_, rfl⟩
  have hz : ∀ r, sizeL (s[0] :: r) = (match r with
      | c1 :: c2 :: c3 :: _ => if c1.toNat / 64 = 2 ∧ c2.toNat / 64 = 2 ∧ c3.toNat / 64 = 2 then (if ((n % 8 * 64 + c1.toNat % 64) * 64 + c2.toNat % 64) * 64 + c3.toNat % 64 < 65536 ∨ 1114111 < ((n % 8 * 64 + c1.toNat % 64) * 64 + c2.toNat % 64) * 64 + c3.toNat % 64 then 0 else 4) else 0
      | _ => 0) := by
    intro r
    subst hn
    simp only [sizeL]; rw [if_neg (by omega), if_neg (by omega), if_neg (by omega), if_pos ⟨h0, h1⟩]; rcases r with _ | ⟨_, _ | ⟨_, _ | ⟨_, _⟩⟩⟩ <;> rfl
  rw [hn] at h0 h1
  obtain ⟨a, ha⟩ : ∃ a, n % 8 = a := ⟨_, rfl⟩
  have r0 : bits .and .i64 (n : Int) 7 = (a : Int) := i64_mask 3 n 7 a (by omega) (by decide) rfl ha
  have la : a < 8 := by omega
  by_cases h2 : s.size < 4
  · have hv : sizeL s.data.toList = 0 := by
      have hlen := sfx_length s 1
      rw [hl, hz]
      rcases h5 : sfx s 1 with _ | ⟨_, _ | ⟨_, _ | ⟨_, _⟩⟩⟩ <;> first | rfl | (rw [h5] at hlen; simp at hlen; omega)
    rw [hv]; clear hv hl hz ha
    go_enter Tryz.func23, Tryz.ntmps23
    go_wp2
    go_ret
    exact ⟨rfl, rfl⟩
  have hc1 := sfx_cons s 1 (by omega)
  obtain ⟨c1, hd1⟩ : ∃ c1, s[1] = c1 := ⟨_, rfl⟩
  have hm1 := u8_192 c1
  have hn1 := c1.toNat_lt
  rw [hd1] at hc1
  have hc2 := sfx_cons s 2 (by omega)
  obtain ⟨c2, hd2⟩ : ∃ c2, s[2] = c2 := ⟨_, rfl⟩
  have hm2 := u8_192 c2
  have hn2 := c2.toNat_lt
  rw [hd2] at hc2
  have hc3 := sfx_cons s 3 (by omega)
  obtain ⟨c3, hd3⟩ : ∃ c3, s[3] = c3 := ⟨_, rfl⟩
  have hm3 := u8_192 c3
  have hn3 := c3.toNat_lt
  rw [hd3] at hc3
  by_cases k1 : c1.toNat / 64 = 2
  case neg =>
    have hv : sizeL s.data.toList = 0 := by rw [hl, hz, hc1, hc2, hc3]; simp [k1]
    rw [hv]; clear hv hl hz
    have hq : (bits .and .u8 (c1.toNat : Int) 192 != 128) = true := by rw [hm1, bne_iff_ne]; omega
    clear ha k1 hm1 hc1 hc2 hc3 hm2 hm3 
    go_enter Tryz.func23, Tryz.ntmps23
    go_wp2
    refine wp_loop_rounds 1 ?_
    rw [rounds_succ]; go_wp2
    go_ret
    exact ⟨rfl, rfl⟩
  rw [k1] at hm1
  simp only [show ((2 * 64 : Nat) : Int) = 128 from rfl] at hm1
  obtain ⟨b1, hb1⟩ : ∃ b, c1.toNat % 64 = b := ⟨_, rfl⟩
  have r1 : bits .and .u8 (c1.toNat : Int) 63 = (b1 : Int) := u8_mask 6 _ 63 b1 (by omega) (by decide) rfl hb1
  have lb1 : b1 < 64 := by omega
  obtain ⟨v1, hw1⟩ : ∃ v, a * 64 + b1 = v := ⟨_, rfl⟩
  have j1 : bits .or .i64 ((a : Int) * 64) (b1 : Int) = (v1 : Int) := i64_join 6 (a * 64) b1 v1 (by omega) (by omega) (by omega) (by omega) hw1 _ (by simp)
  have lv1 : v1 < 512 := by omega
  by_cases k2 : c2.toNat / 64 = 2
  case neg =>
    have hv : sizeL s.data.toList = 0 := by rw [hl, hz, hc1, hc2, hc3]; simp [k2]
    rw [hv]; clear hv hl hz
    have hq : (bits .and .u8 (c2.toNat : Int) 192 != 128) = true := by rw [hm2, bne_iff_ne]; omega
    clear ha k2 hm2 hc1 hc2 hc3 hm3 hb1 hw1
    go_enter Tryz.func23, Tryz.ntmps23
    go_wp2
    refine wp_loop_rounds 2 ?_
    rw [rounds_succ]; go_wp2
    rw [rounds_succ]; go_wp2
    go_ret
    exact ⟨rfl, rfl⟩
  rw [k2] at hm2
  simp only [show ((2 * 64 : Nat) : Int) = 128 from rfl] at hm2
  obtain ⟨b2, hb2⟩ : ∃ b, c2.toNat % 64 = b := ⟨_, rfl⟩
  have r2 : bits .and .u8 (c2.toNat : Int) 63 = (b2 : Int) := u8_mask 6 _ 63 b2 (by omega) (by decide) rfl hb2
  have lb2 : b2 < 64 := by omega
  obtain ⟨v2, hw2⟩ : ∃ v, v1 * 64 + b2 = v := ⟨_, rfl⟩
  have j2 : bits .or .i64 ((v1 : Int) * 64) (b2 : Int) = (v2 : Int) := i64_join 6 (v1 * 64) b2 v2 (by omega) (by omega) (by omega) (by omega) hw2 _ (by simp)
  have lv2 : v2 < 32768 := by omega
  by_cases k3 : c3.toNat / 64 = 2
  case neg =>
    have hv : sizeL s.data.toList = 0 := by rw [hl, hz, hc1, hc2, hc3]; simp [k3]
    rw [hv]; clear hv hl hz
    have hq : (bits .and .u8 (c3.toNat : Int) 192 != 128) = true := by rw [hm3, bne_iff_ne]; omega
    clear ha k3 hm3 hc1 hc2 hc3 hb1 hw1 hb2 hw2
    go_enter Tryz.func23, Tryz.ntmps23
    go_wp2
    refine wp_loop_rounds 3 ?_
    rw [rounds_succ]; go_wp2
    rw [rounds_succ]; go_wp2
    rw [rounds_succ]; go_wp2
    go_ret
    exact ⟨rfl, rfl⟩
  rw [k3] at hm3
  simp only [show ((2 * 64 : Nat) : Int) = 128 from rfl] at hm3
  obtain ⟨b3, hb3⟩ : ∃ b, c3.toNat % 64 = b := ⟨_, rfl⟩
  have r3 : bits .and .u8 (c3.toNat : Int) 63 = (b3 : Int) := u8_mask 6 _ 63 b3 (by omega) (by decide) rfl hb3
  have lb3 : b3 < 64 := by omega
  obtain ⟨v3, hw3⟩ : ∃ v, v2 * 64 + b3 = v := ⟨_, rfl⟩
  have j3 : bits .or .i64 ((v2 : Int) * 64) (b3 : Int) = (v3 : Int) := i64_join 6 (v2 * 64) b3 v3 (by omega) (by omega) (by omega) (by omega) hw3 _ (by simp)
  have lv3 : v3 < 2097152 := by omega
  by_cases q1 : v3 < 65536
  · have hv : sizeL s.data.toList = 0 := by
      rw [hl, hz, hc1, hc2, hc3]
      simp only [k1, k2, k3, ha, hb1, hw1, hb2, hw2, hb3, hw3, and_self, if_true]
      exact if_pos (by omega)
    rw [hv]; clear hv hl hz
    clear ha hb1 hw1 hc1 k1 hb2 hw2 hc2 k2 hb3 hw3 hc3 k3
    go_enter Tryz.func23, Tryz.ntmps23
    go_wp2
    refine wp_loop_rounds 4 ?_
    rw [rounds_succ]; go_wp2
    rw [rounds_succ]; go_wp2
    rw [rounds_succ]; go_wp2
    rw [rounds_succ]; go_wp2
    go_ret
    exact ⟨rfl, rfl⟩
  by_cases q2 : 1114111 < v3
  · have hv : sizeL s.data.toList = 0 := by
      rw [hl, hz, hc1, hc2, hc3]
      simp only [k1, k2, k3, ha, hb1, hw1, hb2, hw2, hb3, hw3, and_self, if_true]
      exact if_pos (by omega)
    rw [hv]; clear hv hl hz
    clear ha hb1 hw1 hc1 k1 hb2 hw2 hc2 k2 hb3 hw3 hc3 k3
    go_enter Tryz.func23, Tryz.ntmps23
    go_wp2
    refine wp_loop_rounds 4 ?_
    rw [rounds_succ]; go_wp2
    rw [rounds_succ]; go_wp2
    rw [rounds_succ]; go_wp2
    rw [rounds_succ]; go_wp2
    go_ret
    exact ⟨rfl, rfl⟩
  · have hv : sizeL s.data.toList = 4 := by
      rw [hl, hz, hc1, hc2, hc3]
      simp only [k1, k2, k3, ha, hb1, hw1, hb2, hw2, hb3, hw3, and_self, if_true]
      exact if_neg (by omega)
    rw [hv]; clear hv hl hz
    clear ha hb1 hw1 hc1 k1 hb2 hw2 hc2 k2 hb3 hw3 hc3 k3
    go_enter Tryz.func23, Tryz.ntmps23
    go_wp2
    refine wp_loop_rounds 4 ?_
    rw [rounds_succ]; go_wp2
    rw [rounds_succ]; go_wp2
    rw [rounds_succ]; go_wp2
    rw [rounds_succ]; go_wp2
    go_ret
    exact ⟨rfl, rfl⟩

theorem size_any (s : ByteArray) (w : World) (h : 0 < s.size) (hs : s.size ≤ 140737488355328) :
    Calls Tryz.prog 23 #[.string s] w fun e w' => e = .returned (.int .i64 (sizeL s.data.toList)) ∧ w = w' := by
  by_cases h1 : s[0].toNat < 194
  · exact size_one s w h hs (by omega)
  by_cases h2 : s[0].toNat < 224
  · exact size_two s w h hs (by omega) h2
  by_cases h3 : s[0].toNat < 240
  · exact size_three s w h hs (by omega) h3
  by_cases h4 : s[0].toNat < 245
  · exact size_four s w h hs (by omega) h4
  · exact size_one s w h hs (by omega)

end Go.Proofs.YtopmbledpalmdaaGreatDoor
