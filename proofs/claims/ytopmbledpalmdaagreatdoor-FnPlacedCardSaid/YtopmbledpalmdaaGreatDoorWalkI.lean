/-
  The walk of spec.numeric.
-/
import Derived.Test.YtopmbledpalmdaaGreatDoorWalkG
import Derived.Test.YtopmbledpalmdaaGreatDoorWalkH
namespace Go.Proofs.YtopmbledpalmdaaGreatDoor
open Go.RowKit Go.Proofs

theorem charOfL_lt (n : Nat) (h : n ≤ 1114112) : charOfL n < 1114112 := by
  unfold charOfL
  split
  · omega
  · split
    · rename_i h1 h2
      have : ∀ m : Fin 32, c1Table.getD m.val 0 < 1114112 := by decide
      exact this ⟨n - 128, by omega⟩
    · omega
theorem digitsL_le (b : Nat) : ∀ (l : Bs) (v : Nat), v ≤ 1114112 → (digitsL b v l).1 ≤ 1114112
  | [], v, h => h
  | c :: r, v, h => by
    simp only [digitsL]
    split
    · exact digitsL_le b r _ (Nat.min_le_right _ _)
    · exact h
theorem digitsL_len (b : Nat) : ∀ (l : Bs) (v : Nat), (digitsL b v l).2 ≤ l.length
  | [], v => by simp [digitsL]
  | c :: r, v => by
    simp only [digitsL]
    split
    · have := digitsL_len b r (min (v * b + digV c) 1114112)
      simp; omega
    · simp

/-- Is the byte behind &# an x? -/
def hexAt (l : Bs) : Bool := l.head? == some 120 || l.head? == some 88
def numBase (l : Bs) : Nat := if hexAt l then 16 else 10
def numFirst (l : Bs) : Nat := if hexAt l then 3 else 2

/-- What is returned, given what the digits come to. -/
def numRes (s : ByteArray) (V first K : Nat) : Option (Bs × Nat) :=
  if K = first then none else some (codedL (charOfL V), if (sfx s K).head? == some 59 then K + 1 else K)
def numOut : Option (Bs × Nat) → Value
  | none => .tuple #[.string ⟨#[]⟩, .int .i64 0, .bool false]
  | some (t, n) => .tuple #[.string ⟨t.toArray⟩, .int .i64 (n : Int), .bool true]

theorem numericL_eq (s : ByteArray) (_h2 : 2 ≤ s.size) (V K : Nat) (hd : digitsL (numBase (sfx s 2)) 0 (sfx s (numFirst (sfx s 2))) = (V, K - numFirst (sfx s 2))) (hK : numFirst (sfx s 2) ≤ K) :
    numericL (sfx s 2) = numRes s V (numFirst (sfx s 2)) K := by
  unfold numericL numRes
  have h3 : (if hexAt (sfx s 2) then (sfx s 2).drop 1 else sfx s 2) = sfx s (numFirst (sfx s 2)) := by
    unfold numFirst
    split
    · exact sfx_drop s 2 1
    · rfl
  simp only [show ((sfx s 2).head? == some 120 || (sfx s 2).head? == some 88) = hexAt (sfx s 2) from rfl]
  rw [h3, show (if hexAt (sfx s 2) then 16 else 10) = numBase (sfx s 2) from rfl, hd]
  rw [show (if hexAt (sfx s 2) then 3 else 2) = numFirst (sfx s 2) from rfl]
  have h4 : 2 ≤ numFirst (sfx s 2) := by unfold numFirst; split <;> omega
  rw [sfx_drop, show 2 + (numFirst (sfx s 2) + (K - numFirst (sfx s 2)) - 2) = K by omega, show numFirst (sfx s 2) + (K - numFirst (sfx s 2)) = K by omega]
  by_cases hz : K = numFirst (sfx s 2)
  · rw [if_pos (by omega), if_pos hz]
  · rw [if_neg (by omega), if_neg hz]

-- printed by wip/tools/numeric.py
set_option maxRecDepth 1000000 in
set_option maxHeartbeats 1600000 in
theorem numeric_A (s : ByteArray) (w : World) (_hs : s.size ≤ 140737488355328) (h2 : 2 ≤ s.size) (h3 : s.size = 2) :
    Calls Tryz.prog 38 #[.string s] w fun e w' => e = .returned (numOut (numericL (sfx s 2))) ∧ Below w.heap.size w w' := by
  have hxx : hexAt (sfx s 2) = false := by rw [sfx_end s 2 (by omega)]; rfl
  have hb : numBase (sfx s 2) = 10 := by unfold numBase; rw [hxx]; rfl
  have hf : numFirst (sfx s 2) = 2 := by unfold numFirst; rw [hxx]; rfl
  obtain ⟨V, hV⟩ : ∃ V, (digitsL 10 0 (sfx s 2)).1 = V := ⟨_, rfl⟩
  obtain ⟨K, hK⟩ : ∃ K, 2 + (digitsL 10 0 (sfx s 2)).2 = K := ⟨_, rfl⟩
  have hK2 : K ≤ s.size := by have := digitsL_len 10 (sfx s 2) 0; rw [sfx_length] at this; omega
  have hV2 : V ≤ 1114112 := by rw [← hV]; exact digitsL_le _ _ _ (by omega)
  have hL := numericL_eq s h2 V K (by rw [hb, hf, ← hV, ← hK]; exact Prod.ext rfl (by simp)) (by rw [hf]; omega)
  rw [hL, hf]; clear hL hb hf hxx
  have h0 : (digitsL 10 0 (sfx s 2)) = (V, K - 2) := Prod.ext hV (by simp; omega)
  have hKf : 2 ≤ K := by omega
  have H0 := Lib.hid h0; clear h0 hV hK
  obtain ⟨B, hB⟩ : ∃ B, w.heap.size = B := ⟨_, rfl⟩
  rw [hB]
  have HB := Lib.hid hB; clear hB
  go_enter Tryz.func38, Tryz.ntmps38
  go_wp2_with fail
  go_loop [6, 7] (fun i v => ∃ k x : Nat, 2 ≤ k ∧ k ≤ s.size ∧ i = .int .i64 k ∧ v = .int .i64 x ∧ x ≤ 1114112 ∧ (digitsL 10 x (sfx s k)).1 = V ∧ k + (digitsL 10 x (sfx s k)).2 = K) (fun i _ => s.size - (intOf i).toNat)
  case atStart => exact ⟨2, 0, Nat.le_refl _, by omega, rfl, rfl, by omega, by rw [H0.out], by rw [H0.out]; simp; omega⟩
  case round =>
    obtain ⟨k, x, hkf, hk, rfl, rfl, hx, hr1, hr2⟩ := hrel
    have fin : ∀ (K' : Nat), K' = K → True := fun _ _ => trivial
    clear fin
    by_cases hlt : k < s.size
    · exfalso; omega
    · have hc := sfx_end s k (by omega)
      rw [hc] at hr1 hr2
      have hkK : k = K := by simpa [digitsL] using hr2
      have hxV : x = V := hr1
      subst hkK; subst hxV
      clear hr1 hr2 hc
      by_cases hz : k = 2
      · have hres : numRes s x 2 k = none := by unfold numRes; rw [if_pos hz]
        have HRES := Lib.hid hres; clear hres H0
        have hzb : ((k : Int) == 2) = true := by simp; omega
        clear hz
        go_wp2_with (fail)
        go_ret3
        exact ⟨by rw [HRES.out]; rfl, by rw [← HB.out]; exact Below.refl _ _⟩
      · exfalso; omega

set_option maxRecDepth 1000000 in
set_option maxHeartbeats 1600000 in
theorem numeric_B (s : ByteArray) (w : World) (hs : s.size ≤ 140737488355328) (h2 : 2 ≤ s.size) (h3 : 2 < s.size) (hx : s[2] = 120) :
    Calls Tryz.prog 38 #[.string s] w fun e w' => e = .returned (numOut (numericL (sfx s 2))) ∧ Below w.heap.size w w' := by
  have hxx : hexAt (sfx s 2) = true := by rw [sfx_cons s 2 h3, hx]; rfl
  have hb : numBase (sfx s 2) = 16 := by unfold numBase; rw [hxx]; rfl
  have hf : numFirst (sfx s 2) = 3 := by unfold numFirst; rw [hxx]; rfl
  obtain ⟨V, hV⟩ : ∃ V, (digitsL 16 0 (sfx s 3)).1 = V := ⟨_, rfl⟩
  obtain ⟨K, hK⟩ : ∃ K, 3 + (digitsL 16 0 (sfx s 3)).2 = K := ⟨_, rfl⟩
  have hK2 : K ≤ s.size := by have := digitsL_len 16 (sfx s 3) 0; rw [sfx_length] at this; omega
  have hV2 : V ≤ 1114112 := by rw [← hV]; exact digitsL_le _ _ _ (by omega)
  have hL := numericL_eq s h2 V K (by rw [hb, hf, ← hV, ← hK]; exact Prod.ext rfl (by simp)) (by rw [hf]; omega)
  rw [hL, hf]; clear hL hb hf hxx
  have h0 : (digitsL 16 0 (sfx s 3)) = (V, K - 3) := Prod.ext hV (by simp; omega)
  have hKf : 3 ≤ K := by omega
  have H0 := Lib.hid h0; clear h0 hV hK
  have e1 : s[2].toNat = 120 := by rw [hx]; rfl
  clear hx
  obtain ⟨B, hB⟩ : ∃ B, w.heap.size = B := ⟨_, rfl⟩
  rw [hB]
  have HB := Lib.hid hB; clear hB
  go_enter Tryz.func38, Tryz.ntmps38
  go_wp2_with fail
  go_loop [6, 7] (fun i v => ∃ k x : Nat, 3 ≤ k ∧ k ≤ s.size ∧ i = .int .i64 k ∧ v = .int .i64 x ∧ x ≤ 1114112 ∧ (digitsL 16 x (sfx s k)).1 = V ∧ k + (digitsL 16 x (sfx s k)).2 = K) (fun i _ => s.size - (intOf i).toNat)
  case atStart => exact ⟨3, 0, Nat.le_refl _, by omega, rfl, rfl, by omega, by rw [H0.out], by rw [H0.out]; simp; omega⟩
  case round =>
    obtain ⟨k, x, hkf, hk, rfl, rfl, hx, hr1, hr2⟩ := hrel
    clear e1
    have fin : ∀ (K' : Nat), K' = K → True := fun _ _ => trivial
    clear fin
    by_cases hlt : k < s.size
    · have hc := sfx_cons s k hlt
      rw [hc] at hr1 hr2
      simp only [digitsL] at hr1 hr2
      have h1 := digit_any s[k] 16 w
      by_cases hd : digV s[k] < 16
      · rw [if_pos hd] at hr1 hr2
        obtain ⟨d, hdd⟩ : ∃ d, digV s[k] = d := ⟨_, rfl⟩
        rw [hdd] at hr1 hr2 hd h1
        have hdb : decide ((d : Int) < 16) = true := by simp; omega
        rw [hdb] at h1
        have H1 := Lib.hid h1; clear h1 hc hdd hdb
        by_cases hbig : 1114112 < x * 16 + d
        · have hy : min (x * 16 + d) 1114112 = 1114112 := by omega
          rw [hy] at hr1 hr2
          have HR1 := Lib.hid hr1; clear hr1
          have HR2 := Lib.hid hr2; clear hr2 hy
          go_wp2_with (go_at_call 46; refine H1.out.mono ?_; rintro e w' ⟨rfl, rfl⟩)
          go_round
          case rel => exact ⟨k + 1, 1114112, by omega, by omega, by go_num, by go_num, by omega, HR1.out, by have := HR2.out; omega⟩
          case measure => simp [intOf]; omega
        
        · have hy : min (x * 16 + d) 1114112 = x * 16 + d := by omega
          rw [hy] at hr1 hr2
          have HR1 := Lib.hid hr1; clear hr1
          have HR2 := Lib.hid hr2; clear hr2 hy
          go_wp2_with (go_at_call 46; refine H1.out.mono ?_; rintro e w' ⟨rfl, rfl⟩)
          go_round
          case rel => exact ⟨k + 1, x * 16 + d, by omega, by omega, by go_num, by go_num, by omega, HR1.out, by have := HR2.out; omega⟩
          case measure => simp [intOf]; omega
      · rw [if_neg hd] at hr1 hr2
        have hkK : k = K := by simpa using hr2
        have hxV : x = V := hr1
        subst hkK; subst hxV
        obtain ⟨d, hdd⟩ : ∃ d, digV s[k] = d := ⟨_, rfl⟩
        rw [hdd] at hd h1
        have hdb : decide ((d : Int) < 16) = false := by simp; omega
        rw [hdb] at h1
        have H1 := Lib.hid h1; clear h1 hc hdd hr1 hr2 hdb
        by_cases hz : k = 3
        · have hres : numRes s x 3 k = none := by unfold numRes; rw [if_pos hz]
          have HRES := Lib.hid hres; clear hres H0
          have hzb : ((k : Int) == 3) = true := by simp; omega
          clear hz
          go_wp2_with (go_at_call 46; refine H1.out.mono ?_; rintro e w' ⟨rfl, rfl⟩)
          go_ret3
          exact ⟨by rw [HRES.out]; rfl, by rw [← HB.out]; exact Below.refl _ _⟩
        · have hzb : ((k : Int) == 3) = false := by simp; omega
          have c1 := charOf_any x w hV2
          obtain ⟨m, hm⟩ : ∃ m, charOfL x = m := ⟨_, rfl⟩
          have hm2 := charOfL_lt x hV2
          rw [hm] at c1 hm2
          have c2 := fun W => coded_any m W hm2
          obtain ⟨t, ht⟩ : ∃ t : ByteArray, ⟨(codedL m).toArray⟩ = t := ⟨_, rfl⟩
          rw [ht] at c2
          have C1 := Lib.hid c1; clear c1
          have C2 := Lib.hid c2; clear c2
          cases hsemi : ((s[k].toNat : Int) == 59)
          case true =>
            have hres : numOut (numRes s x 3 k) = .tuple #[.string t, .int .i64 ((k + 1 : Nat) : Int), .bool true] := by
              have h9 : ((s[k].toNat : Int) == 59) = (s[k] == 59) := u8_beq _ 59
              rw [h9] at hsemi
              unfold numRes; rw [if_neg hz, sfx_cons s k hlt, hm]; simp [hsemi, numOut, ← ht]
            have HRES := Lib.hid hres; clear hres H0 hm ht
            go_wp2_with (first | (go_at_call 46; refine H1.out.mono ?_; rintro e w' ⟨rfl, rfl⟩) | (go_at_call 48; refine C1.out.mono ?_; rintro e w1 ⟨rfl, hb1⟩) | (go_at_call 47; refine (C2.out _).mono ?_; rintro e w2 ⟨rfl, hb2⟩))
            go_ret3
            exact ⟨by rw [HRES.out]; rfl, by rw [← HB.out]; exact hb1.trans (hb2.mono hb1.size)⟩
          case false =>
            have hres : numOut (numRes s x 3 k) = .tuple #[.string t, .int .i64 ((k : Nat) : Int), .bool true] := by
              have h9 : ((s[k].toNat : Int) == 59) = (s[k] == 59) := u8_beq _ 59
              rw [h9] at hsemi
              unfold numRes; rw [if_neg hz, sfx_cons s k hlt, hm]; simp [hsemi, numOut, ← ht]
            have HRES := Lib.hid hres; clear hres H0 hm ht
            go_wp2_with (first | (go_at_call 46; refine H1.out.mono ?_; rintro e w' ⟨rfl, rfl⟩) | (go_at_call 48; refine C1.out.mono ?_; rintro e w1 ⟨rfl, hb1⟩) | (go_at_call 47; refine (C2.out _).mono ?_; rintro e w2 ⟨rfl, hb2⟩))
            go_ret3
            exact ⟨by rw [HRES.out]; rfl, by rw [← HB.out]; exact hb1.trans (hb2.mono hb1.size)⟩
    · have hc := sfx_end s k (by omega)
      rw [hc] at hr1 hr2
      have hkK : k = K := by simpa [digitsL] using hr2
      have hxV : x = V := hr1
      subst hkK; subst hxV
      clear hr1 hr2 hc
      by_cases hz : k = 3
      · have hres : numRes s x 3 k = none := by unfold numRes; rw [if_pos hz]
        have HRES := Lib.hid hres; clear hres H0
        have hzb : ((k : Int) == 3) = true := by simp; omega
        clear hz
        go_wp2_with (fail)
        go_ret3
        exact ⟨by rw [HRES.out]; rfl, by rw [← HB.out]; exact Below.refl _ _⟩
      · have hzb : ((k : Int) == 3) = false := by simp; omega
        have c1 := charOf_any x w hV2
        obtain ⟨m, hm⟩ : ∃ m, charOfL x = m := ⟨_, rfl⟩
        have hm2 := charOfL_lt x hV2
        rw [hm] at c1 hm2
        have c2 := fun W => coded_any m W hm2
        obtain ⟨t, ht⟩ : ∃ t : ByteArray, ⟨(codedL m).toArray⟩ = t := ⟨_, rfl⟩
        rw [ht] at c2
        have C1 := Lib.hid c1; clear c1
        have C2 := Lib.hid c2; clear c2
        have hres : numOut (numRes s x 3 k) = .tuple #[.string t, .int .i64 (k : Int), .bool true] := by
          unfold numRes; rw [if_neg hz, sfx_end s k (by omega), hm]; simp [numOut, ← ht]
        have HRES := Lib.hid hres; clear hres H0 hm ht
        go_wp2_with (first | (fail) | (go_at_call 48; refine C1.out.mono ?_; rintro e w1 ⟨rfl, hb1⟩) | (go_at_call 47; refine (C2.out _).mono ?_; rintro e w2 ⟨rfl, hb2⟩))
        go_ret3
        exact ⟨by rw [HRES.out]; rfl, by rw [← HB.out]; exact hb1.trans (hb2.mono hb1.size)⟩

set_option maxRecDepth 1000000 in
set_option maxHeartbeats 1600000 in
theorem numeric_C (s : ByteArray) (w : World) (hs : s.size ≤ 140737488355328) (h2 : 2 ≤ s.size) (h3 : 2 < s.size) (hx : s[2] = 88) :
    Calls Tryz.prog 38 #[.string s] w fun e w' => e = .returned (numOut (numericL (sfx s 2))) ∧ Below w.heap.size w w' := by
  have hxx : hexAt (sfx s 2) = true := by rw [sfx_cons s 2 h3, hx]; rfl
  have hb : numBase (sfx s 2) = 16 := by unfold numBase; rw [hxx]; rfl
  have hf : numFirst (sfx s 2) = 3 := by unfold numFirst; rw [hxx]; rfl
  obtain ⟨V, hV⟩ : ∃ V, (digitsL 16 0 (sfx s 3)).1 = V := ⟨_, rfl⟩
  obtain ⟨K, hK⟩ : ∃ K, 3 + (digitsL 16 0 (sfx s 3)).2 = K := ⟨_, rfl⟩
  have hK2 : K ≤ s.size := by have := digitsL_len 16 (sfx s 3) 0; rw [sfx_length] at this; omega
  have hV2 : V ≤ 1114112 := by rw [← hV]; exact digitsL_le _ _ _ (by omega)
  have hL := numericL_eq s h2 V K (by rw [hb, hf, ← hV, ← hK]; exact Prod.ext rfl (by simp)) (by rw [hf]; omega)
  rw [hL, hf]; clear hL hb hf hxx
  have h0 : (digitsL 16 0 (sfx s 3)) = (V, K - 3) := Prod.ext hV (by simp; omega)
  have hKf : 3 ≤ K := by omega
  have H0 := Lib.hid h0; clear h0 hV hK
  have e1 : s[2].toNat = 88 := by rw [hx]; rfl
  clear hx
  obtain ⟨B, hB⟩ : ∃ B, w.heap.size = B := ⟨_, rfl⟩
  rw [hB]
  have HB := Lib.hid hB; clear hB
  go_enter Tryz.func38, Tryz.ntmps38
  go_wp2_with fail
  go_loop [6, 7] (fun i v => ∃ k x : Nat, 3 ≤ k ∧ k ≤ s.size ∧ i = .int .i64 k ∧ v = .int .i64 x ∧ x ≤ 1114112 ∧ (digitsL 16 x (sfx s k)).1 = V ∧ k + (digitsL 16 x (sfx s k)).2 = K) (fun i _ => s.size - (intOf i).toNat)
  case atStart => exact ⟨3, 0, Nat.le_refl _, by omega, rfl, rfl, by omega, by rw [H0.out], by rw [H0.out]; simp; omega⟩
  case round =>
    obtain ⟨k, x, hkf, hk, rfl, rfl, hx, hr1, hr2⟩ := hrel
    clear e1
    have fin : ∀ (K' : Nat), K' = K → True := fun _ _ => trivial
    clear fin
    by_cases hlt : k < s.size
    · have hc := sfx_cons s k hlt
      rw [hc] at hr1 hr2
      simp only [digitsL] at hr1 hr2
      have h1 := digit_any s[k] 16 w
      by_cases hd : digV s[k] < 16
      · rw [if_pos hd] at hr1 hr2
        obtain ⟨d, hdd⟩ : ∃ d, digV s[k] = d := ⟨_, rfl⟩
        rw [hdd] at hr1 hr2 hd h1
        have hdb : decide ((d : Int) < 16) = true := by simp; omega
        rw [hdb] at h1
        have H1 := Lib.hid h1; clear h1 hc hdd hdb
        by_cases hbig : 1114112 < x * 16 + d
        · have hy : min (x * 16 + d) 1114112 = 1114112 := by omega
          rw [hy] at hr1 hr2
          have HR1 := Lib.hid hr1; clear hr1
          have HR2 := Lib.hid hr2; clear hr2 hy
          go_wp2_with (go_at_call 46; refine H1.out.mono ?_; rintro e w' ⟨rfl, rfl⟩)
          go_round
          case rel => exact ⟨k + 1, 1114112, by omega, by omega, by go_num, by go_num, by omega, HR1.out, by have := HR2.out; omega⟩
          case measure => simp [intOf]; omega
        
        · have hy : min (x * 16 + d) 1114112 = x * 16 + d := by omega
          rw [hy] at hr1 hr2
          have HR1 := Lib.hid hr1; clear hr1
          have HR2 := Lib.hid hr2; clear hr2 hy
          go_wp2_with (go_at_call 46; refine H1.out.mono ?_; rintro e w' ⟨rfl, rfl⟩)
          go_round
          case rel => exact ⟨k + 1, x * 16 + d, by omega, by omega, by go_num, by go_num, by omega, HR1.out, by have := HR2.out; omega⟩
          case measure => simp [intOf]; omega
      · rw [if_neg hd] at hr1 hr2
        have hkK : k = K := by simpa using hr2
        have hxV : x = V := hr1
        subst hkK; subst hxV
        obtain ⟨d, hdd⟩ : ∃ d, digV s[k] = d := ⟨_, rfl⟩
        rw [hdd] at hd h1
        have hdb : decide ((d : Int) < 16) = false := by simp; omega
        rw [hdb] at h1
        have H1 := Lib.hid h1; clear h1 hc hdd hr1 hr2 hdb
        by_cases hz : k = 3
        · have hres : numRes s x 3 k = none := by unfold numRes; rw [if_pos hz]
          have HRES := Lib.hid hres; clear hres H0
          have hzb : ((k : Int) == 3) = true := by simp; omega
          clear hz
          go_wp2_with (go_at_call 46; refine H1.out.mono ?_; rintro e w' ⟨rfl, rfl⟩)
          go_ret3
          exact ⟨by rw [HRES.out]; rfl, by rw [← HB.out]; exact Below.refl _ _⟩
        · have hzb : ((k : Int) == 3) = false := by simp; omega
          have c1 := charOf_any x w hV2
          obtain ⟨m, hm⟩ : ∃ m, charOfL x = m := ⟨_, rfl⟩
          have hm2 := charOfL_lt x hV2
          rw [hm] at c1 hm2
          have c2 := fun W => coded_any m W hm2
          obtain ⟨t, ht⟩ : ∃ t : ByteArray, ⟨(codedL m).toArray⟩ = t := ⟨_, rfl⟩
          rw [ht] at c2
          have C1 := Lib.hid c1; clear c1
          have C2 := Lib.hid c2; clear c2
          cases hsemi : ((s[k].toNat : Int) == 59)
          case true =>
            have hres : numOut (numRes s x 3 k) = .tuple #[.string t, .int .i64 ((k + 1 : Nat) : Int), .bool true] := by
              have h9 : ((s[k].toNat : Int) == 59) = (s[k] == 59) := u8_beq _ 59
              rw [h9] at hsemi
              unfold numRes; rw [if_neg hz, sfx_cons s k hlt, hm]; simp [hsemi, numOut, ← ht]
            have HRES := Lib.hid hres; clear hres H0 hm ht
            go_wp2_with (first | (go_at_call 46; refine H1.out.mono ?_; rintro e w' ⟨rfl, rfl⟩) | (go_at_call 48; refine C1.out.mono ?_; rintro e w1 ⟨rfl, hb1⟩) | (go_at_call 47; refine (C2.out _).mono ?_; rintro e w2 ⟨rfl, hb2⟩))
            go_ret3
            exact ⟨by rw [HRES.out]; rfl, by rw [← HB.out]; exact hb1.trans (hb2.mono hb1.size)⟩
          case false =>
            have hres : numOut (numRes s x 3 k) = .tuple #[.string t, .int .i64 ((k : Nat) : Int), .bool true] := by
              have h9 : ((s[k].toNat : Int) == 59) = (s[k] == 59) := u8_beq _ 59
              rw [h9] at hsemi
              unfold numRes; rw [if_neg hz, sfx_cons s k hlt, hm]; simp [hsemi, numOut, ← ht]
            have HRES := Lib.hid hres; clear hres H0 hm ht
            go_wp2_with (first | (go_at_call 46; refine H1.out.mono ?_; rintro e w' ⟨rfl, rfl⟩) | (go_at_call 48; refine C1.out.mono ?_; rintro e w1 ⟨rfl, hb1⟩) | (go_at_call 47; refine (C2.out _).mono ?_; rintro e w2 ⟨rfl, hb2⟩))
            go_ret3
            exact ⟨by rw [HRES.out]; rfl, by rw [← HB.out]; exact hb1.trans (hb2.mono hb1.size)⟩
    · have hc := sfx_end s k (by omega)
      rw [hc] at hr1 hr2
      have hkK : k = K := by simpa [digitsL] using hr2
      have hxV : x = V := hr1
      subst hkK; subst hxV
      clear hr1 hr2 hc
      by_cases hz : k = 3
      · have hres : numRes s x 3 k = none := by unfold numRes; rw [if_pos hz]
        have HRES := Lib.hid hres; clear hres H0
        have hzb : ((k : Int) == 3) = true := by simp; omega
        clear hz
        go_wp2_with (fail)
        go_ret3
        exact ⟨by rw [HRES.out]; rfl, by rw [← HB.out]; exact Below.refl _ _⟩
      · have hzb : ((k : Int) == 3) = false := by simp; omega
        have c1 := charOf_any x w hV2
        obtain ⟨m, hm⟩ : ∃ m, charOfL x = m := ⟨_, rfl⟩
        have hm2 := charOfL_lt x hV2
        rw [hm] at c1 hm2
        have c2 := fun W => coded_any m W hm2
        obtain ⟨t, ht⟩ : ∃ t : ByteArray, ⟨(codedL m).toArray⟩ = t := ⟨_, rfl⟩
        rw [ht] at c2
        have C1 := Lib.hid c1; clear c1
        have C2 := Lib.hid c2; clear c2
        have hres : numOut (numRes s x 3 k) = .tuple #[.string t, .int .i64 (k : Int), .bool true] := by
          unfold numRes; rw [if_neg hz, sfx_end s k (by omega), hm]; simp [numOut, ← ht]
        have HRES := Lib.hid hres; clear hres H0 hm ht
        go_wp2_with (first | (fail) | (go_at_call 48; refine C1.out.mono ?_; rintro e w1 ⟨rfl, hb1⟩) | (go_at_call 47; refine (C2.out _).mono ?_; rintro e w2 ⟨rfl, hb2⟩))
        go_ret3
        exact ⟨by rw [HRES.out]; rfl, by rw [← HB.out]; exact hb1.trans (hb2.mono hb1.size)⟩

set_option maxRecDepth 1000000 in
set_option maxHeartbeats 1600000 in
theorem numeric_D (s : ByteArray) (w : World) (hs : s.size ≤ 140737488355328) (h2 : 2 ≤ s.size) (h3 : 2 < s.size) (hx : s[2] ≠ 120) (hy : s[2] ≠ 88) :
    Calls Tryz.prog 38 #[.string s] w fun e w' => e = .returned (numOut (numericL (sfx s 2))) ∧ Below w.heap.size w w' := by
  have hxx : hexAt (sfx s 2) = false := by rw [sfx_cons s 2 h3]; simp [hexAt, hx, hy]
  have hb : numBase (sfx s 2) = 10 := by unfold numBase; rw [hxx]; rfl
  have hf : numFirst (sfx s 2) = 2 := by unfold numFirst; rw [hxx]; rfl
  obtain ⟨V, hV⟩ : ∃ V, (digitsL 10 0 (sfx s 2)).1 = V := ⟨_, rfl⟩
  obtain ⟨K, hK⟩ : ∃ K, 2 + (digitsL 10 0 (sfx s 2)).2 = K := ⟨_, rfl⟩
  have hK2 : K ≤ s.size := by have := digitsL_len 10 (sfx s 2) 0; rw [sfx_length] at this; omega
  have hV2 : V ≤ 1114112 := by rw [← hV]; exact digitsL_le _ _ _ (by omega)
  have hL := numericL_eq s h2 V K (by rw [hb, hf, ← hV, ← hK]; exact Prod.ext rfl (by simp)) (by rw [hf]; omega)
  rw [hL, hf]; clear hL hb hf hxx
  have h0 : (digitsL 10 0 (sfx s 2)) = (V, K - 2) := Prod.ext hV (by simp; omega)
  have hKf : 2 ≤ K := by omega
  have H0 := Lib.hid h0; clear h0 hV hK
  have e1 : ((s[2].toNat : Int) == 120) = false := by have h := u8_beq s[2] 120; simp only [show ((UInt8.toNat 120 : Nat) : Int) = 120 from rfl] at h; rw [h]; simp [hx]
  have e2 : ((s[2].toNat : Int) == 88) = false := by have h := u8_beq s[2] 88; simp only [show ((UInt8.toNat 88 : Nat) : Int) = 88 from rfl] at h; rw [h]; simp [hy]
  clear hx hy
  obtain ⟨B, hB⟩ : ∃ B, w.heap.size = B := ⟨_, rfl⟩
  rw [hB]
  have HB := Lib.hid hB; clear hB
  go_enter Tryz.func38, Tryz.ntmps38
  go_wp2_with fail
  go_loop [6, 7] (fun i v => ∃ k x : Nat, 2 ≤ k ∧ k ≤ s.size ∧ i = .int .i64 k ∧ v = .int .i64 x ∧ x ≤ 1114112 ∧ (digitsL 10 x (sfx s k)).1 = V ∧ k + (digitsL 10 x (sfx s k)).2 = K) (fun i _ => s.size - (intOf i).toNat)
  case atStart => exact ⟨2, 0, Nat.le_refl _, by omega, rfl, rfl, by omega, by rw [H0.out], by rw [H0.out]; simp; omega⟩
  case round =>
    obtain ⟨k, x, hkf, hk, rfl, rfl, hx, hr1, hr2⟩ := hrel
    clear e1 e2
    have fin : ∀ (K' : Nat), K' = K → True := fun _ _ => trivial
    clear fin
    by_cases hlt : k < s.size
    · have hc := sfx_cons s k hlt
      rw [hc] at hr1 hr2
      simp only [digitsL] at hr1 hr2
      have h1 := digit_any s[k] 10 w
      by_cases hd : digV s[k] < 10
      · rw [if_pos hd] at hr1 hr2
        obtain ⟨d, hdd⟩ : ∃ d, digV s[k] = d := ⟨_, rfl⟩
        rw [hdd] at hr1 hr2 hd h1
        have hdb : decide ((d : Int) < 10) = true := by simp; omega
        rw [hdb] at h1
        have H1 := Lib.hid h1; clear h1 hc hdd hdb
        by_cases hbig : 1114112 < x * 10 + d
        · have hy : min (x * 10 + d) 1114112 = 1114112 := by omega
          rw [hy] at hr1 hr2
          have HR1 := Lib.hid hr1; clear hr1
          have HR2 := Lib.hid hr2; clear hr2 hy
          go_wp2_with (go_at_call 46; refine H1.out.mono ?_; rintro e w' ⟨rfl, rfl⟩)
          go_round
          case rel => exact ⟨k + 1, 1114112, by omega, by omega, by go_num, by go_num, by omega, HR1.out, by have := HR2.out; omega⟩
          case measure => simp [intOf]; omega
        
        · have hy : min (x * 10 + d) 1114112 = x * 10 + d := by omega
          rw [hy] at hr1 hr2
          have HR1 := Lib.hid hr1; clear hr1
          have HR2 := Lib.hid hr2; clear hr2 hy
          go_wp2_with (go_at_call 46; refine H1.out.mono ?_; rintro e w' ⟨rfl, rfl⟩)
          go_round
          case rel => exact ⟨k + 1, x * 10 + d, by omega, by omega, by go_num, by go_num, by omega, HR1.out, by have := HR2.out; omega⟩
          case measure => simp [intOf]; omega
      · rw [if_neg hd] at hr1 hr2
        have hkK : k = K := by simpa using hr2
        have hxV : x = V := hr1
        subst hkK; subst hxV
        obtain ⟨d, hdd⟩ : ∃ d, digV s[k] = d := ⟨_, rfl⟩
        rw [hdd] at hd h1
        have hdb : decide ((d : Int) < 10) = false := by simp; omega
        rw [hdb] at h1
        have H1 := Lib.hid h1; clear h1 hc hdd hr1 hr2 hdb
        by_cases hz : k = 2
        · have hres : numRes s x 2 k = none := by unfold numRes; rw [if_pos hz]
          have HRES := Lib.hid hres; clear hres H0
          have hzb : ((k : Int) == 2) = true := by simp; omega
          clear hz
          go_wp2_with (go_at_call 46; refine H1.out.mono ?_; rintro e w' ⟨rfl, rfl⟩)
          go_ret3
          exact ⟨by rw [HRES.out]; rfl, by rw [← HB.out]; exact Below.refl _ _⟩
        · have hzb : ((k : Int) == 2) = false := by simp; omega
          have c1 := charOf_any x w hV2
          obtain ⟨m, hm⟩ : ∃ m, charOfL x = m := ⟨_, rfl⟩
          have hm2 := charOfL_lt x hV2
          rw [hm] at c1 hm2
          have c2 := fun W => coded_any m W hm2
          obtain ⟨t, ht⟩ : ∃ t : ByteArray, ⟨(codedL m).toArray⟩ = t := ⟨_, rfl⟩
          rw [ht] at c2
          have C1 := Lib.hid c1; clear c1
          have C2 := Lib.hid c2; clear c2
          cases hsemi : ((s[k].toNat : Int) == 59)
          case true =>
            have hres : numOut (numRes s x 2 k) = .tuple #[.string t, .int .i64 ((k + 1 : Nat) : Int), .bool true] := by
              have h9 : ((s[k].toNat : Int) == 59) = (s[k] == 59) := u8_beq _ 59
              rw [h9] at hsemi
              unfold numRes; rw [if_neg hz, sfx_cons s k hlt, hm]; simp [hsemi, numOut, ← ht]
            have HRES := Lib.hid hres; clear hres H0 hm ht
            go_wp2_with (first | (go_at_call 46; refine H1.out.mono ?_; rintro e w' ⟨rfl, rfl⟩) | (go_at_call 48; refine C1.out.mono ?_; rintro e w1 ⟨rfl, hb1⟩) | (go_at_call 47; refine (C2.out _).mono ?_; rintro e w2 ⟨rfl, hb2⟩))
            go_ret3
            exact ⟨by rw [HRES.out]; rfl, by rw [← HB.out]; exact hb1.trans (hb2.mono hb1.size)⟩
          case false =>
            have hres : numOut (numRes s x 2 k) = .tuple #[.string t, .int .i64 ((k : Nat) : Int), .bool true] := by
              have h9 : ((s[k].toNat : Int) == 59) = (s[k] == 59) := u8_beq _ 59
              rw [h9] at hsemi
              unfold numRes; rw [if_neg hz, sfx_cons s k hlt, hm]; simp [hsemi, numOut, ← ht]
            have HRES := Lib.hid hres; clear hres H0 hm ht
            go_wp2_with (first | (go_at_call 46; refine H1.out.mono ?_; rintro e w' ⟨rfl, rfl⟩) | (go_at_call 48; refine C1.out.mono ?_; rintro e w1 ⟨rfl, hb1⟩) | (go_at_call 47; refine (C2.out _).mono ?_; rintro e w2 ⟨rfl, hb2⟩))
            go_ret3
            exact ⟨by rw [HRES.out]; rfl, by rw [← HB.out]; exact hb1.trans (hb2.mono hb1.size)⟩
    · have hc := sfx_end s k (by omega)
      rw [hc] at hr1 hr2
      have hkK : k = K := by simpa [digitsL] using hr2
      have hxV : x = V := hr1
      subst hkK; subst hxV
      clear hr1 hr2 hc
      by_cases hz : k = 2
      · have hres : numRes s x 2 k = none := by unfold numRes; rw [if_pos hz]
        have HRES := Lib.hid hres; clear hres H0
        have hzb : ((k : Int) == 2) = true := by simp; omega
        clear hz
        go_wp2_with (fail)
        go_ret3
        exact ⟨by rw [HRES.out]; rfl, by rw [← HB.out]; exact Below.refl _ _⟩
      · have hzb : ((k : Int) == 2) = false := by simp; omega
        have c1 := charOf_any x w hV2
        obtain ⟨m, hm⟩ : ∃ m, charOfL x = m := ⟨_, rfl⟩
        have hm2 := charOfL_lt x hV2
        rw [hm] at c1 hm2
        have c2 := fun W => coded_any m W hm2
        obtain ⟨t, ht⟩ : ∃ t : ByteArray, ⟨(codedL m).toArray⟩ = t := ⟨_, rfl⟩
        rw [ht] at c2
        have C1 := Lib.hid c1; clear c1
        have C2 := Lib.hid c2; clear c2
        have hres : numOut (numRes s x 2 k) = .tuple #[.string t, .int .i64 (k : Int), .bool true] := by
          unfold numRes; rw [if_neg hz, sfx_end s k (by omega), hm]; simp [numOut, ← ht]
        have HRES := Lib.hid hres; clear hres H0 hm ht
        go_wp2_with (first | (fail) | (go_at_call 48; refine C1.out.mono ?_; rintro e w1 ⟨rfl, hb1⟩) | (go_at_call 47; refine (C2.out _).mono ?_; rintro e w2 ⟨rfl, hb2⟩))
        go_ret3
        exact ⟨by rw [HRES.out]; rfl, by rw [← HB.out]; exact hb1.trans (hb2.mono hb1.size)⟩

theorem numeric_any (s : ByteArray) (w : World) (hs : s.size ≤ 140737488355328) (h2 : 2 ≤ s.size) :
    Calls Tryz.prog 38 #[.string s] w fun e w' => e = .returned (numOut (numericL (sfx s 2))) ∧ Below w.heap.size w w' := by
  by_cases h3 : 2 < s.size
  · by_cases hx : s[2] = 120
    · exact numeric_B s w hs h2 h3 hx
    · by_cases hy : s[2] = 88
      · exact numeric_C s w hs h2 h3 hy
      · exact numeric_D s w hs h2 h3 hx hy
  · exact numeric_A s w hs h2 (by omega)
end Go.Proofs.YtopmbledpalmdaaGreatDoor
