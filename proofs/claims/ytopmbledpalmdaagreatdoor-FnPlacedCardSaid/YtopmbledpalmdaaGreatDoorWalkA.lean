/-
  The walks of the small functions of package spec: what each call returns.
-/
import Derived.Test.YtopmbledpalmdaaGreatDoorProg
import Derived.Test.YtopmbledpalmdaaGreatDoorSpec
import Derived.WalkKit
import Derived.WalkSpells
import Derived.WalkLawsBesides
import Derived.Lib.Hide
import Derived.BigQuiet
import Derived.Deep.QuietTactic
namespace Go.Proofs.YtopmbledpalmdaaGreatDoor
open Go.RowKit Go.Proofs

theorem ret_bool {a b : Bool} (h : a = b) : Ending.returned (.bool a) = .returned (.bool b) := by rw [h]
theorem ret_int {k : IntKind} {a b : Int} (h : a = b) : Ending.returned (.int k a) = .returned (.int k b) := by rw [h]
theorem ret_str {a b : ByteArray} (h : a = b) : Ending.returned (.string a) = .returned (.string b) := by rw [h]

set_option maxHeartbeats 400000 in
theorem isAlpha_any (c : UInt8) (w : World) : Calls Tryz.prog 16 #[.int .u8 (c.toNat : Int)] w fun e w' => e = .returned (.bool (isAlphaB c)) ∧ w = w' := by
  go_enter Tryz.func16, Tryz.ntmps16
  go_wp2
  all_goals
    go_ret
    exact ⟨ret_bool (by rw [Bool.eq_iff_iff]; simp [isAlphaB]; omega), rfl⟩

set_option maxHeartbeats 400000 in
theorem isAlnum_any (c : UInt8) (w : World) : Calls Tryz.prog 37 #[.int .u8 (c.toNat : Int)] w fun e w' => e = .returned (.bool (isAlnumB c)) ∧ w = w' := by
  go_enter Tryz.func37, Tryz.ntmps37
  cases ha : isAlphaB c with
  | true =>
    have h1 := isAlpha_any c w
    rw [ha] at h1
    have HA := Lib.hid ha; clear ha
    have H1 := Lib.hid h1; clear h1
    go_wp2_with (go_at_call 16; refine H1.out.mono ?_; rintro e w' ⟨rfl, rfl⟩)
    all_goals
      go_ret
      exact ⟨ret_bool (by simp [isAlnumB, HA.out]), rfl⟩
  | false =>
    have h1 := isAlpha_any c w
    rw [ha] at h1
    have HA := Lib.hid ha; clear ha
    have H1 := Lib.hid h1; clear h1
    go_wp2_with (go_at_call 16; refine H1.out.mono ?_; rintro e w' ⟨rfl, rfl⟩)
    all_goals
      go_ret
      exact ⟨ret_bool (by rw [Bool.eq_iff_iff]; simp [isAlnumB, HA.out]; omega), rfl⟩

set_option maxHeartbeats 400000 in
theorem isSpace_any (c : UInt8) (w : World) : Calls Tryz.prog 39 #[.int .u8 (c.toNat : Int)] w fun e w' => e = .returned (.bool (isSpaceB c)) ∧ w = w' := by
  go_enter Tryz.func39, Tryz.ntmps39
  go_wp2
  all_goals
    go_ret
    exact ⟨ret_bool (by rw [Bool.eq_iff_iff]; simp [isSpaceB]; omega), rfl⟩


theorem u8_beq (a b : UInt8) : ((a.toNat : Int) == (b.toNat : Int)) = (a == b) := by
  rw [Bool.eq_iff_iff]; simp [← UInt8.toNat_inj]; omega

/-- What is left of a string from a place on. -/
def sfx (s : ByteArray) (k : Nat) : Bs := s.data.toList.drop k
theorem sfx_zero (s : ByteArray) : sfx s 0 = s.data.toList := rfl
theorem sfx_cons (s : ByteArray) (k : Nat) (h : k < s.size) : sfx s k = s[k] :: sfx s (k + 1) := by
  unfold sfx
  exact List.drop_eq_getElem_cons (by simpa using h)
theorem sfx_end (s : ByteArray) (k : Nat) (h : s.size ≤ k) : sfx s k = [] := by
  unfold sfx
  exact List.drop_of_length_le (by simpa using h)
theorem sfx_length (s : ByteArray) (k : Nat) : (sfx s k).length = s.size - k := by
  unfold sfx
  rw [List.length_drop]; rfl

set_option maxHeartbeats 400000 in
theorem has_any (s : ByteArray) (c : UInt8) (w : World) (hs : s.size ≤ 140737488355328) : Calls Tryz.prog 24 #[.string s, .int .u8 (c.toNat : Int)] w fun e w' => e = .returned (.bool (hasL s.data.toList c)) ∧ w = w' := by
  go_enter Tryz.func24, Tryz.ntmps24
  go_wp2
  go_loop [8] (fun i => ∃ k : Nat, k ≤ s.size ∧ i = .int .i64 k ∧ hasL (sfx s k) c = hasL s.data.toList c) (fun i => s.size - (intOf i).toNat)
  case atStart => exact ⟨0, Nat.zero_le _, rfl, rfl⟩
  case round =>
    obtain ⟨k, hk, rfl, hr⟩ := hrel
    by_cases hlt : k < s.size
    · have hc := sfx_cons s k hlt
      have HR := Lib.hid hr; clear hr
      have HC := Lib.hid hc; clear hc
      go_wp2
      · go_ret
        exact ⟨ret_bool (by rw [← HR.out, HC.out, hasL, List.any_cons, ← u8_beq]; simp [*]), rfl⟩
      · go_round
        case rel => exact ⟨k + 1, by omega, by go_num, by rw [← HR.out, HC.out, hasL, hasL, List.any_cons, ← u8_beq]; simp [*]⟩
        case measure => simp [intOf]; omega
    · have hc := sfx_end s k (by omega)
      have HR := Lib.hid hr; clear hr
      have HC := Lib.hid hc; clear hc
      go_wp2
      go_ret
      exact ⟨ret_bool (by rw [← HR.out, HC.out]; rfl), rfl⟩

set_option maxHeartbeats 400000 in
theorem hasAny_any (s b : ByteArray) (w : World) (hs : s.size ≤ 140737488355328) (hb : b.size ≤ 140737488355328) :
    Calls Tryz.prog 11 #[.string s, .string b] w fun e w' => e = .returned (.bool (hasAnyL s.data.toList b.data.toList)) ∧ w = w' := by
  go_enter Tryz.func11, Tryz.ntmps11
  go_wp2_with fail
  go_loop [8] (fun i => ∃ k : Nat, k ≤ s.size ∧ i = .int .i64 k ∧ hasAnyL (sfx s k) b.data.toList = hasAnyL s.data.toList b.data.toList) (fun i => s.size - (intOf i).toNat)
  case atStart => exact ⟨0, Nat.zero_le _, rfl, rfl⟩
  case round =>
    obtain ⟨k, hk, rfl, hr⟩ := hrel
    by_cases hlt : k < s.size
    · have hc := sfx_cons s k hlt
      cases hh : hasL b.data.toList s[k] with
      | true =>
        have h1 := has_any b s[k] w hb
        rw [hh] at h1
        have HR := Lib.hid hr; clear hr
        have HC := Lib.hid hc; clear hc
        have HH := Lib.hid hh; clear hh
        have H1 := Lib.hid h1; clear h1
        go_wp2_with (go_at_call 24; refine H1.out.mono ?_; rintro e w' ⟨rfl, rfl⟩)
        go_ret
        exact ⟨ret_bool (by rw [← HR.out, HC.out, hasAnyL, List.any_cons, HH.out]; rfl), rfl⟩
      | false =>
        have h1 := has_any b s[k] w hb
        rw [hh] at h1
        have HR := Lib.hid hr; clear hr
        have HC := Lib.hid hc; clear hc
        have HH := Lib.hid hh; clear hh
        have H1 := Lib.hid h1; clear h1
        go_wp2_with (go_at_call 24; refine H1.out.mono ?_; rintro e w' ⟨rfl, rfl⟩)
        go_round
        case rel => exact ⟨k + 1, by omega, by go_num, by rw [← HR.out, HC.out, hasAnyL, hasAnyL, List.any_cons, HH.out]; rfl⟩
        case measure => simp [intOf]; omega
    · have hc := sfx_end s k (by omega)
      have HR := Lib.hid hr; clear hr
      have HC := Lib.hid hc; clear hc
      go_wp2
      go_ret
      exact ⟨ret_bool (by rw [← HR.out, HC.out]; rfl), rfl⟩

set_option maxHeartbeats 400000 in
theorem word_any (s : ByteArray) (w : World) (hs : s.size ≤ 140737488355328) :
    Calls Tryz.prog 25 #[.string s] w fun e w' => e = .returned (.string (s.extract 0 (wordL s.data.toList).length)) ∧ w = w' := by
  go_enter Tryz.func25, Tryz.ntmps25
  go_wp2_with fail
  go_loop [3] (fun i => ∃ k : Nat, k ≤ s.size ∧ i = .int .i64 k ∧ k + (wordL (sfx s k)).length = (wordL s.data.toList).length) (fun i => s.size - (intOf i).toNat)
  case atStart => exact ⟨0, Nat.zero_le _, rfl, by rw [sfx_zero]; omega⟩
  case round =>
    obtain ⟨k, hk, rfl, hr⟩ := hrel
    by_cases hlt : k < s.size
    · have hc := sfx_cons s k hlt
      cases hh : isAlnumB s[k] with
      | true =>
        have h1 := isAlnum_any s[k] w
        rw [hh] at h1
        have hn : k + 1 + (wordL (sfx s (k + 1))).length = (wordL s.data.toList).length := by
          rw [hc] at hr; simp only [wordL, List.takeWhile_cons, hh] at hr; simp at hr; simp only [wordL]; omega
        have HR := Lib.hid hn; clear hr hn
        clear hc hh
        have H1 := Lib.hid h1; clear h1
        go_wp2_with (go_at_call 37; refine H1.out.mono ?_; rintro e w' ⟨rfl, rfl⟩)
        go_round
        case rel => exact ⟨k + 1, by omega, by go_num, HR.out⟩
        case measure => simp [intOf]; omega
      | false =>
        have h1 := isAlnum_any s[k] w
        rw [hh] at h1
        have hn : (wordL s.data.toList).length = k := by
          rw [hc] at hr; simp only [wordL, List.takeWhile_cons, hh] at hr; simp at hr; simp only [wordL]; omega
        have HR := Lib.hid hn; clear hr hn
        clear hc hh
        have H1 := Lib.hid h1; clear h1
        go_wp2_with (go_at_call 37; refine H1.out.mono ?_; rintro e w' ⟨rfl, rfl⟩)
        go_ret
        exact ⟨ret_str (by rw [HR.out]), rfl⟩
    · have hc := sfx_end s k (by omega)
      have hn : (wordL s.data.toList).length = k := by
        rw [hc] at hr; simp only [wordL, List.takeWhile_nil] at hr; simp at hr; simp only [wordL]; omega
      have HR := Lib.hid hn; clear hr hn
      clear hc
      go_wp2
      go_ret
      exact ⟨ret_str (by rw [HR.out]), rfl⟩

theorem extract_toList (s : ByteArray) (a b : Nat) : (s.extract a b).toList = (sfx s a).take (b - a) := by
  rw [Lib.toList_data]
  simp [sfx, ByteArray.data_extract, Array.toList_extract, List.extract_eq_take_drop]

theorem findL_none (what l : Bs) (_hw : what ≠ []) (h : l.length < what.length) : findL what l = l.length := by
  induction l with
  | nil => rfl
  | cons c r ih =>
    have hp : what.isPrefixOf (c :: r) = false := by
      rw [Bool.eq_false_iff]
      intro hp
      have := (List.isPrefixOf_iff_prefix.1 hp).length_le
      omega
    simp only [findL, hp, List.length_cons, Bool.false_eq_true, if_false]
    rw [ih (by simp at h; omega)]

theorem findL_step (what : Bs) (s : ByteArray) (k : Nat) (h : k < s.size) : findL what (sfx s k) = if what.isPrefixOf (sfx s k) then 0 else findL what (sfx s (k + 1)) + 1 := by
  rw [sfx_cons s k h]; rfl

set_option maxHeartbeats 400000 in
theorem find_any (s what : ByteArray) (at_ R : Nat) (w : World) (hs : s.size ≤ 140737488355328) (hb : what.size ≤ 140737488355328) (hw : 0 < what.size) (hat : at_ ≤ s.size)
    (hR : at_ + findL what.data.toList (sfx s at_) = R) :
    Calls Tryz.prog 13 #[.string s, .int .i64 (at_ : Int), .string what] w fun e w' => e = .returned (.int .i64 (R : Int)) ∧ w = w' := by
  have HR0 := Lib.hid hR; clear hR
  go_enter Tryz.func13, Tryz.ntmps13
  go_wp2_with fail
  go_loop [7] (fun i => ∃ k : Nat, at_ ≤ k ∧ k ≤ s.size ∧ i = .int .i64 k ∧ k + findL what.data.toList (sfx s k) = R) (fun i => s.size - (intOf i).toNat)
  case atStart => exact ⟨at_, Nat.le_refl _, hat, rfl, HR0.out⟩
  case round =>
    obtain ⟨k, hk0, hk, rfl, hr⟩ := hrel
    by_cases hlt : k + what.size ≤ s.size
    · have hc := findL_step what.data.toList s k (by omega)
      have hx : ((s.extract k (k + what.size)).toList == what.toList) = what.data.toList.isPrefixOf (sfx s k) := by
        rw [extract_toList, Lib.toList_data, Bool.eq_iff_iff, beq_iff_eq, List.isPrefixOf_iff_prefix, List.prefix_iff_eq_take]
        have : k + what.size - k = what.data.toList.length := by simp
        rw [this]
        exact eq_comm
      cases hp : what.data.toList.isPrefixOf (sfx s k) with
      | true =>
        rw [hp] at hx hc
        have hn : R = k := by simp at hc; omega
        clear hr hc
        have HN := Lib.hid hn; clear hn
        clear hp
        go_wp2
        go_ret
        exact ⟨ret_int (by rw [HN.out]), rfl⟩
      | false =>
        rw [hp] at hx hc
        have hn : k + 1 + findL what.data.toList (sfx s (k + 1)) = R := by simp at hc; omega
        clear hr hc
        have HN := Lib.hid hn; clear hn
        clear hp
        go_wp2
        go_round
        case rel => exact ⟨k + 1, by omega, by omega, by go_num, HN.out⟩
        case measure => simp [intOf]; omega
    · have hn : R = s.size := by
        have hl := sfx_length s k
        have h1 : what.data.toList.length = what.size := by simp
        have h2 : what.data.toList ≠ [] := by intro h; rw [h] at h1; simp at h1; omega
        rw [findL_none _ _ h2 (by omega), hl] at hr
        omega
      have HN := Lib.hid hn; clear hr hn
      go_wp2
      go_ret
      exact ⟨ret_int (by rw [HN.out]), rfl⟩

set_option maxHeartbeats 400000 in
theorem digit_any (c : UInt8) (b : Int) (w : World) :
    Calls Tryz.prog 46 #[.int .u8 (c.toNat : Int), .int .i64 b] w fun e w' => e = .returned (.tuple #[.int .i64 (digV c), .bool (decide ((digV c : Int) < b))]) ∧ w = w' := by
  have h0 := c.toNat_lt
  by_cases h1 : 48 ≤ c.toNat ∧ c.toNat ≤ 57
  · obtain ⟨h1, h2⟩ := h1
    have hd : (digV c : Int) = (c.toNat : Int) - 48 := by unfold digV; rw [if_pos ⟨h1, h2⟩]; omega
    rw [hd]; clear hd
    go_enter Tryz.func46, Tryz.ntmps46
    go_wp2
    go_ret2
    exact ⟨rfl, rfl⟩
  by_cases h2 : 97 ≤ c.toNat ∧ c.toNat ≤ 102
  · obtain ⟨h3, h4⟩ := h2
    have hd : (digV c : Int) = (c.toNat : Int) - 97 + 10 := by unfold digV; rw [if_neg h1, if_pos ⟨h3, h4⟩]; omega
    rw [hd]; clear hd
    have h5 : 57 < c.toNat := by omega
    clear h1
    go_enter Tryz.func46, Tryz.ntmps46
    go_wp2
    all_goals
      go_ret2
      exact ⟨rfl, rfl⟩
  by_cases h3 : 65 ≤ c.toNat ∧ c.toNat ≤ 70
  · obtain ⟨h3, h4⟩ := h3
    have hd : (digV c : Int) = (c.toNat : Int) - 65 + 10 := by unfold digV; rw [if_neg h1, if_neg h2, if_pos ⟨h3, h4⟩]; omega
    rw [hd]; clear hd
    have h5 : 57 < c.toNat := by omega
    clear h1 h2
    go_enter Tryz.func46, Tryz.ntmps46
    go_wp2
    all_goals
      go_ret2
      exact ⟨rfl, rfl⟩
  · have hd : (digV c : Int) = 99 := by unfold digV; rw [if_neg h1, if_neg h2, if_neg h3]; rfl
    rw [hd]; clear hd
    go_enter Tryz.func46, Tryz.ntmps46
    go_wp2
    all_goals first
      | (exfalso; omega)
      | (go_ret2; exact ⟨rfl, rfl⟩)

end Go.Proofs.YtopmbledpalmdaaGreatDoor
