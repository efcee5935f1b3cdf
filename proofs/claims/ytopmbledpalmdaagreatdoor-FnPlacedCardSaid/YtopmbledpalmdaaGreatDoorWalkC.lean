/-
  The walks of spec.Valid, laws.plain, spec.lower.
-/
import Derived.Test.YtopmbledpalmdaaGreatDoorWalkB
import Derived.Laws.IdiomStrings
namespace Go.Proofs.YtopmbledpalmdaaGreatDoor
open Go.RowKit Go.Proofs

theorem sfx_drop (s : ByteArray) (k n : Nat) : (sfx s k).drop n = sfx s (k + n) := by
  unfold sfx
  rw [List.drop_drop]
theorem extract_data (s : ByteArray) (a b : Nat) : (s.extract a b).data.toList = (sfx s a).take (b - a) := by
  rw [← Lib.toList_data]; exact extract_toList s a b
theorem extract_end (s : ByteArray) (a : Nat) : (s.extract a s.size).data.toList = sfx s a := by
  rw [extract_data, List.take_of_length_le (by rw [sfx_length]; omega)]

set_option maxHeartbeats 400000 in
theorem valid_any (s : ByteArray) (w : World) (hs : s.size ≤ 140737488355328) :
    Calls Tryz.prog 10 #[.string s] w fun e w' => e = .returned (.bool (validL s.data.toList)) ∧ w = w' := by
  obtain ⟨R, hR⟩ : ∃ R, validL s.data.toList = R := ⟨_, rfl⟩
  rw [hR]
  have HR0 := Lib.hid hR; clear hR
  go_enter Tryz.func10, Tryz.ntmps10
  go_wp2_with fail
  go_loop [3, 4] (fun i _ => ∃ k : Nat, k ≤ s.size ∧ i = .int .i64 k ∧ validL (sfx s k) = R) (fun i _ => s.size - (intOf i).toNat)
  case atStart => exact ⟨0, Nat.zero_le _, rfl, HR0.out⟩
  case round =>
    obtain ⟨k, hk, rfl, hr⟩ := hrel
    by_cases hlt : k < s.size
    · have hc := sfx_cons s k hlt
      have hst := validL_step (sfx s k) (by rw [hc]; simp)
      rw [hr] at hst
      have hle := sizeL_le (sfx s k)
      rw [sfx_length] at hle
      have h1 := size_any (s.extract k s.size) w (by simp; omega) (by simp; omega)
      rw [extract_end] at h1
      obtain ⟨n, hn⟩ : ∃ n, sizeL (sfx s k) = n := ⟨_, rfl⟩
      rw [hn] at h1 hst hle
      have H1 := Lib.hid h1; clear h1 hc hr hn
      by_cases h0 : n = 0
      · subst h0
        simp only [if_true] at hst
        subst hst
        go_wp2_with (go_at_call 23; refine H1.out.mono ?_; rintro e w' ⟨rfl, rfl⟩)
        go_ret
        exact ⟨rfl, rfl⟩
      · rw [if_neg h0, sfx_drop] at hst
        have HS := Lib.hid hst; clear hst
        have hb : ((n : Int) == 0) = false := by simp; exact h0
        go_wp2_with (go_at_call 23; refine H1.out.mono ?_; rintro e w' ⟨rfl, rfl⟩)
        go_round
        case rel => exact ⟨k + n, by omega, by go_num, HS.out.symm⟩
        case measure => simp [intOf]; omega
    · have hc := sfx_end s k (by omega)
      rw [hc, validL_nil] at hr
      clear hc
      subst hr
      go_wp2
      go_ret
      exact ⟨rfl, rfl⟩

def plainL (l : Bs) : Bool := validL l && !hasAnyL l [0, 13]

set_option maxHeartbeats 400000 in
theorem plain_any (s : ByteArray) (w : World) (hs : s.size ≤ 140737488355328) :
    Calls Tryz.prog 4 #[.string s] w fun e w' => e = .returned (.bool (plainL s.data.toList)) ∧ w = w' := by
  have h2 := hasAny_any s ⟨#[0, 13]⟩ w hs (by decide)
  have h1 := valid_any s w hs
  cases hv : validL s.data.toList with
  | true =>
    rw [hv] at h1
    have hp : plainL s.data.toList = !hasAnyL s.data.toList [0, 13] := by simp [plainL, hv]
    rw [hp]; clear hp hv
    simp only [] at h2
    obtain ⟨R, hR⟩ : ∃ R, hasAnyL s.data.toList [0, 13] = R := ⟨_, rfl⟩
    rw [hR] at h2 ⊢
    have H1 := Lib.hid h1; clear h1
    have H2 := Lib.hid h2; clear h2 hR
    go_enter Tryz.func4, Tryz.ntmps4
    go_wp2_with (first | (go_at_call 10; refine H1.out.mono ?_; rintro e w' ⟨rfl, rfl⟩) | (go_at_call 11; refine H2.out.mono ?_; rintro e w' ⟨rfl, rfl⟩))
    all_goals
      go_ret
      exact ⟨rfl, rfl⟩
  | false =>
    rw [hv] at h1
    have hp : plainL s.data.toList = false := by simp [plainL, hv]
    rw [hp]; clear hp hv h2
    have H1 := Lib.hid h1; clear h1
    go_enter Tryz.func4, Tryz.ntmps4
    go_wp2_with (go_at_call 10; refine H1.out.mono ?_; rintro e w' ⟨rfl, rfl⟩)
    all_goals
      go_ret
      exact ⟨rfl, rfl⟩

end Go.Proofs.YtopmbledpalmdaaGreatDoor
