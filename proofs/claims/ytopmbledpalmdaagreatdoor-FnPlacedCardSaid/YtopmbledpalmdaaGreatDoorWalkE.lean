/-
  The walk of spec.lower.
-/
import Derived.Test.YtopmbledpalmdaaGreatDoorWalkC
import Derived.Test.YtopmbledpalmdaaGreatDoorSpec2
namespace Go.Proofs.YtopmbledpalmdaaGreatDoor
open Go.RowKit Go.Proofs

theorem lowB_of (c : UInt8) (h : 65 ≤ c.toNat ∧ c.toNat ≤ 90) : ((lowB c).toNat : Int) = (c.toNat : Int) + 97 - 65 := by
  unfold lowB
  rw [if_pos h, UInt8.toNat_add]
  simp
  omega
theorem lowB_not (c : UInt8) (h : ¬ (65 ≤ c.toNat ∧ c.toNat ≤ 90)) : lowB c = c := by
  unfold lowB
  rw [if_neg h]


set_option maxRecDepth 100000 in
set_option maxHeartbeats 800000 in
theorem lower_any (s : ByteArray) (w : World) (hs : s.size ≤ 140737488355328) :
    Calls Tryz.prog 32 #[.string s] w fun e w' => e = .returned (.string ⟨(lowL s.data.toList).toArray⟩) ∧ Below w.heap.size w w' := by
  obtain ⟨B, hB⟩ : ∃ B, w.heap.size = B := ⟨_, rfl⟩
  have hconv := run_bytes_of_string (P := Tryz.prog) w 9 49 5 s Tryz.underlying9 Tryz.underlying49 Tryz.underlying5
  obtain ⟨cap, hcap⟩ : ∃ cap, grownCap w s.size 0 5 = cap := ⟨_, rfl⟩
  rw [hcap] at hconv
  obtain ⟨C, hC⟩ : ∃ C, bytesRow s cap = C := ⟨_, rfl⟩
  rw [hC] at hconv
  have hat : ∀ j (hj : j < s.size), C[j]? = some (.int .u8 (s[j].toNat : Int)) := fun j hj => by rw [← hC]; exact bytesRow_at s cap j hj
  have hCs : s.size ≤ C.size := by
    rw [← hC]; simp [bytesRow]
  have hcell0 : ∀ j, (w.alloc (.cells C 5 (C.size, C.size + 1))).cell? ⟨w.heap.size, j, none⟩ = C[j]? := fun j => World.cell?_alloc_mark _ _ _ _ _
  have hfz0 : ∀ j, j < C.size → (w.alloc (.cells C 5 (C.size, C.size + 1))).frozen? ⟨w.heap.size, j, none⟩ = false := fun j hj => by
    rw [World.frozen?_alloc_mark]; simp; omega
  have hbel : Below B w (w.alloc (.cells C 5 (C.size, C.size + 1))).drew := ((Below.refl _ _).alloc (by omega) _).drew
  rw [hB] at hcell0 hfz0 hconv
  clear hC hcap
  have hlen : (lowL s.data.toList).length = s.size := by simp [lowL]
  have HAT := Lib.hid hat; clear hat
  have HC0 := Lib.hid hcell0; clear hcell0
  have HF0 := Lib.hid hfz0; clear hfz0
  have HLEN := Lib.hid hlen; clear hlen
  go_enter Tryz.func32, Tryz.ntmps32
  go_wp2_with fail
  go_loopw [10] (fun i wr => ∃ k : Nat, k ≤ s.size ∧ i = .int .i64 k ∧ (∀ j (hj : j < s.size), wr.cell? ⟨B, j, none⟩ = some (.int .u8 ((if j < k then lowB s[j] else s[j]).toNat : Int))) ∧ (∀ j, j < s.size → wr.frozen? ⟨B, j, none⟩ = false) ∧ Below B w wr) (fun i _ => s.size - (intOf i).toNat)
  case atStart => exact ⟨0, Nat.zero_le _, rfl, fun j hj => by rw [if_neg (by omega)]; exact (HC0.out j).trans (HAT.out j hj), fun j hj => HF0.out j (by omega), hbel⟩
  case round =>
    obtain ⟨k, hk, rfl, hc, hf, hb⟩ := hrel
    have HC := Lib.hid hc; clear hc
    have HF := Lib.hid hf; clear hf
    clear hconv hbel
    by_cases hlt : k < s.size
    · have hck : wr.cell? ⟨B, k, none⟩ = some (.int .u8 (s[k].toNat : Int)) := by have := HC.out k hlt; rw [if_neg (by omega)] at this; exact this
      have hfk := HF.out k hlt
      by_cases hu : 65 ≤ s[k].toNat ∧ s[k].toNat ≤ 90
      · have hl := lowB_of s[k] hu
        have HL := Lib.hid hl; clear hl
        obtain ⟨hu1, hu2⟩ := hu
        go_wp2
        go_roundw
        case rel =>
          refine ⟨k + 1, by omega, by go_num, fun j hj => ?_, fun j hj => ?_, hb.setCell (by simp) _⟩
          · by_cases hjk : j = k
            · subst hjk
              rw [if_pos (by omega), HL.out]
              exact World.cell?_setCell_same _ _ _ hck
            · rw [World.cell?_setCell_other _ _ _ _ (by intro e; injection e; omega), HC.out j hj]
              by_cases h1 : j < k
              · rw [if_pos h1, if_pos (by omega)]
              · rw [if_neg h1, if_neg (by omega)]
          · rw [World.frozen?_setCell]; exact HF.out j hj
        case measure => simp [intOf]; omega
      · have hl := lowB_not s[k] hu
        have HL := Lib.hid hl; clear hl
        go_wp2
        all_goals
          go_roundw
          case rel =>
            refine ⟨k + 1, by omega, by go_num, fun j hj => ?_, HF.out, hb⟩
            by_cases hjk : j = k
            · subst hjk
              rw [if_pos (by omega), HL.out]
              exact hck
            · rw [HC.out j hj]
              by_cases h1 : j < k
              · rw [if_pos h1, if_pos (by omega)]
              · rw [if_neg h1, if_neg (by omega)]
          case measure => simp [intOf]; omega
    · have hback := run_convert_bytes_back (P := Tryz.prog) wr 49 9 5 ⟨B, 0, none⟩ cap (lowL s.data.toList) Tryz.underlying49 Tryz.underlying5 Tryz.underlying9 (fun j hj => by
        have hj' : j < s.size := by rw [HLEN.out] at hj; exact hj
        have h := HC.out j hj'
        rw [if_pos (by omega)] at h
        rw [show (⟨B, 0, none⟩ : Addr).add j = ⟨B, j, none⟩ by unfold Addr.add; split <;> simp_all]
        rw [h]
        simp [lowL]
        rfl)
      rw [HLEN.out] at hback
      go_wp2
      go_ret
      exact ⟨rfl, by rw [hB]; exact hb⟩
end Go.Proofs.YtopmbledpalmdaaGreatDoor
