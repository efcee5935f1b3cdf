/-
  zzHex: strconv.FormatInt at base 16, for the numbers that htmlReplacer writes so (four digits).
-/
import Derived.Test.YtopmbledpalmdaaGreatDoorEnc
import Derived.Laws.Bits64b
import Derived.Lib.ConvBytes
import Derived.WalkArith
import Derived.IntWalk
import Derived.Deep.RegionWith
import Derived.Deep.DeepCutAuto
namespace Go.Proofs.YtopmbledpalmdaaGreatDoor
open Go.RowKit Go.Proofs

def BruijnAt (w : World) : Prop := w.cell? ⟨12, 15, none⟩ = some (.int .u8 4)

set_option maxRecDepth 1000000 in
theorem tz64_16 (w : World) (h : BruijnAt w) : Calls Tryz.prog 161 #[.int .u64 16] w fun e w' => e = .returned (.int .i64 4) ∧ w = w' := by
  unfold BruijnAt at h
  have hn : IntKind.u64.wrap (bits BinOp.and IntKind.u64 16 (IntKind.u64.wrap (-16)) * 285870213051353865) / 288230376151711744 = 15 := by decide +kernel
  go_enter Tryz.func161, Tryz.ntmps161
  go_wp2_with fail
  go_ret
  exact ⟨rfl, rfl⟩
set_option maxRecDepth 1000000 in
theorem tz_16 (w : World) (h : BruijnAt w) : Calls Tryz.prog 143 #[.int .u64 16] w fun e w' => e = .returned (.int .i64 4) ∧ w = w' := by
  have H := Lib.hid (tz64_16 w h)
  go_enter Tryz.func143, Tryz.ntmps143
  go_wp2_with fail
  refine H.out.mono ?_
  rintro e w1 ⟨rfl, rfl⟩
  go_wp2_with fail
  go_ret
  exact ⟨rfl, rfl⟩
set_option maxRecDepth 1000000 in
theorem pow2_16 (w : World) : Calls Tryz.prog 142 #[.int .i64 16] w fun e w' => e = .returned (.bool true) ∧ w = w' := by
  go_enter Tryz.func142, Tryz.ntmps142
  go_wp2_with fail
  go_ret
  exact ⟨rfl, rfl⟩

abbrev digs : ByteArray := { data := #[48, 49, 50, 51, 52, 53, 54, 55, 56, 57, 97, 98, 99, 100, 101, 102, 103, 104, 105, 106, 107, 108, 109, 110, 111, 112, 113, 114, 115, 116, 117, 118, 119, 120, 121, 122] }
theorem digs_at (x : Nat) (hx : x < 16) (h : x < digs.size) : digs[x]'h = hexB x := by
  have : ∀ y : Fin 16, digs.data[y.val]? = some (hexB y.val) := by decide
  have h2 := this ⟨x, hx⟩
  rw [Array.getElem?_eq_getElem (show x < digs.data.size from h)] at h2
  exact Option.some.inj h2
theorem BruijnAt.below {w w' : World} (h : BruijnAt w) (hb : Below w.heap.size w w') : BruijnAt w' :=
  (hb.cell (World.block_lt_of_cell? w _ h)).trans h
theorem hex_test (r j : Nat) (h1 : 4096 ≤ r) (h2 : r < 65536) (hj : j ≤ 3) : (16 ≤ r / 16 ^ j) ↔ j < 3 := by
  rcases (by omega : j = 0 ∨ j = 1 ∨ j = 2 ∨ j = 3) with rfl | rfl | rfl | rfl <;> simp <;> omega
theorem hex_next (r j : Nat) : r / 16 ^ j / 16 = r / 16 ^ (j + 1) := by rw [Nat.div_div_eq_div_mul, Nat.pow_succ]
theorem hexL_length' (r : Nat) : (hexL r).length = 4 := rfl
def hexCell (r i : Nat) : Value := .int .u8 ((hexB (r / 16 ^ i % 16)).toNat : Int)
def hexRel (r A : Nat) (W : World) (uv iv : Value) (wr : World) : Prop :=
  ∃ (j : Nat) (cs : Array Value), j ≤ 3 ∧ uv = .int .u64 ((r / 16 ^ j : Nat) : Int) ∧ iv = .int .i64 ((65 - j : Nat) : Int) ∧ cs.size = 65 ∧
    wr.heap[A]? = some (.cells cs 150 (0, 0)) ∧ (∀ i, i < j → cs[64 - i]? = some (hexCell r i)) ∧ Below A W wr
theorem hex_store {w : World} {A : Nat} {cs : Array Value} {t : TypeId} {fr : Nat × Nat} (h : w.heap[A]? = some (.cells cs t fr)) (p : Nat) (v : Value) : (w.setCell ⟨A, p, none⟩ v).heap[A]? = some (.cells (cs.set! p v) t fr) := by
  simp [World.setCell, Array.getElem?_modify, h]

set_option maxRecDepth 1000000 in
set_option maxHeartbeats 1600000 in
theorem formatBits_any (r : Nat) (W : World) (hr1 : 4096 ≤ r) (hr2 : r < 65536) (hd : BruijnAt W) :
    Calls Tryz.prog 109 #[.slice none 0 0, .int .u64 (r : Int), .int .i64 16, .bool false, .bool false] W fun e w' => e = .returned (.tuple #[.slice none 0 0, .string ⟨(hexL r).toArray⟩]) ∧ Below W.heap.size W w' := by
  obtain ⟨A, hA⟩ : ∃ A, W.heap.size = A := ⟨_, rfl⟩
  rw [hA]
  have H1 := Lib.hid fun w => pow2_16 w
  have H2 := Lib.hid fun w => tz_16 w
  have HD := Lib.hid hd; clear hd
  go_enter Tryz.func109, Tryz.ntmps109
  go_wp2_with fail
  refine (H1.out _).mono ?_
  rintro e w1 ⟨rfl, rfl⟩
  go_wp2_with fail
  refine (H2.out _ (HD.out.below ((Below.refl _ W).alloc (Nat.le_refl _) _))).mono ?_
  rintro e w1 ⟨rfl, rfl⟩
  have hzs : Tryz.zeroCells150.size = 65 := by kernel_rfl
  have HA := Lib.hid hA; clear hA
  go_wp2_with fail
  go_loopw [1, 13] (fun uv iv wr => hexRel r A W uv iv wr) (fun _ iv _ => (intOf iv).toNat)
  case atStart =>
    refine ⟨0, _, Nat.zero_le _, by simp, by simp, hzs, ?_, fun i hi => absurd hi (Nat.not_lt_zero i), ?_⟩
    · rw [← HA.out]; exact heap_alloc_new _ _
    · rw [← HA.out]; exact (Below.refl _ W).alloc (Nat.le_refl _) _
  case round =>
    obtain ⟨j, cs, hj, rfl, rfl, hcs, hA, hd, hb⟩ := hrel
    have htest := hex_test r j hr1 hr2 hj
    have hnext := hex_next r j
    obtain ⟨u, hu⟩ : ∃ u, r / 16 ^ j = u := ⟨_, rfl⟩
    have hul : u < 65536 := by rw [← hu]; exact Nat.lt_of_le_of_lt (Nat.div_le_self _ _) hr2
    rw [hu] at htest hnext ⊢
    have hband : bits BinOp.and IntKind.u64 (u : Int) 15 = ((u % 16 : Nat) : Int) := by
      have := bits_and_u64_nat u 15 (by omega) (by omega)
      rw [show ((15 : Nat) : Int) = 15 from rfl] at this
      rw [this, show (15 : Nat) = 2 ^ 4 - 1 from rfl, Nat.and_two_pow_sub_one_eq_mod]
    obtain ⟨p, hp⟩ : ∃ p, 64 - j = p := ⟨_, rfl⟩
    have hpv : ((65 - j : Nat) : Int) = (p : Int) + 1 := by omega
    rw [hpv]
    have hp65 : p < 65 := by omega
    have i1 : (0 : Int) ≤ (p : Int) := by omega
    have i2 : (p : Int) < 65 := by omega
    have i3 : ((p : Int)).toNat = p := by omega
    have k1 : (0 : Int) ≤ ((u % 16 : Nat) : Int) := by omega
    have k2 : ((u % 16 : Nat) : Int) < 36 := by omega
    have k3 : (((u % 16 : Nat) : Int)).toNat = u % 16 := by omega
    obtain ⟨y, hy⟩ : ∃ y, cs[p]? = some y := ⟨cs[p]'(by omega), Array.getElem?_eq_getElem (by omega)⟩
    have c1 : wr.cell? ⟨A, p, none⟩ = some y := (cell_of_row wr A p _ _ (0, 0) hA).trans hy
    have z1 : wr.frozen? ⟨A, p, none⟩ = false := by simp [World.frozen?, hA]
    have HA2 := Lib.hid hA; clear hA
    have HD2 := Lib.hid hd; clear hd
    by_cases hlt : j < 3
    · have t1 : decide ((16 : Int) ≤ (u : Int)) = true := by simp; omega
      have HU := Lib.hid hu
      clear htest hu
      go_wp2_with fail
      go_roundw
      case rel =>
        have hdg := digs_at (u % 16) (by omega) (show u % 16 < 36 by omega)
        refine ⟨j + 1, cs.set! p (.int .u8 ((digs[u % 16]'(show u % 16 < 36 by omega)).toNat : Int)), by omega, ?_, by rw [show 65 - (j + 1) = p by omega], by simpa using hcs, hex_store HA2.out p _, ?_, hb.setCell (p := ⟨A, p, none⟩) (Nat.le_refl _) _⟩
        · rw [← hnext]; simp
        · intro i hi
          rw [hdg]
          rcases Nat.lt_or_ge i j with h | h
          · rw [Array.set!_eq_setIfInBounds, Array.getElem?_setIfInBounds_ne (by omega)]
            exact HD2.out i h
          · have : i = j := by omega
            subst this
            rw [hp, Array.set!_eq_setIfInBounds, Array.getElem?_setIfInBounds_self_of_lt (by omega)]
            simp only [hexCell, HU.out]
      case measure => simp [intOf]
    · have t1 : decide ((16 : Int) ≤ (u : Int)) = false := by simp; omega
      have hj3 : j = 3 := by omega
      subst hj3
      obtain rfl : 61 = p := hp
      have hu16 : u < 16 := by omega
      have u1 : (0 : Int) ≤ (u : Int) := by omega
      have u2 : (u : Int) < 36 := by omega
      have u3 : ((u : Int)).toNat = u := by omega
      have hdg := digs_at u hu16 (show u < 36 by omega)
      have HDG := Lib.hid hdg; clear hdg
      go_upto_region 30 with fail
      generalize hw5 : wr.setCell ⟨A, 61, none⟩ (Value.int IntKind.u8 ((digs[u]'(show u < 36 by omega)).toNat : Int)) = w5
      have hh5 : w5.heap[A]? = some (.cells (cs.set! 61 (Value.int IntKind.u8 ((hexB u).toNat : Int))) 150 (0, 0)) := by rw [← hw5, HDG.out]; exact hex_store HA2.out 61 _
      have hb5 : Below A W w5 := by rw [← hw5]; exact hb.setCell (p := ⟨A, 61, none⟩) (Nat.le_refl _) _
      have hu2 : r / 4096 = u := hu
      have hcell : ∀ i (hi : i < (hexL r).length), w5.cell? ((⟨A, 61, none⟩ : Addr).add i) = some (.int .u8 (((hexL r)[i]'hi).toNat : Int)) := by
        intro i hi
        rw [show (⟨A, 61, none⟩ : Addr).add i = ⟨A, 61 + i, none⟩ by unfold Addr.add; split <;> simp_all, cell_of_row w5 A (61 + i) _ _ (0, 0) hh5, Array.set!_eq_setIfInBounds]
        have hi4 : i < 4 := hi
        rcases (by omega : i = 0 ∨ i = 1 ∨ i = 2 ∨ i = 3) with rfl | rfl | rfl | rfl
        · rw [Array.getElem?_setIfInBounds_self_of_lt (by omega)]
          simp only [hexL, hu2, List.getElem_cons_zero]
        · rw [Array.getElem?_setIfInBounds_ne (by omega)]
          exact HD2.out 2 (by omega)
        · rw [Array.getElem?_setIfInBounds_ne (by omega)]
          exact (HD2.out 1 (by omega)).trans (by simp [hexCell, hexL])
        · rw [Array.getElem?_setIfInBounds_ne (by omega)]
          exact (HD2.out 0 (by omega)).trans (by simp [hexCell, hexL])
      have hback := run_convert_bytes_back (P := Tryz.prog) w5 49 9 5 ⟨A, 61, none⟩ 4 (hexL r) Tryz.underlying49 Tryz.underlying5 Tryz.underlying9 hcell
      rw [hexL_length'] at hback
      clear hcell hh5 hw5
      go_wp2_with fail
      go_ret2
      exact ⟨rfl, hb5⟩

set_option maxRecDepth 1000000 in
set_option maxHeartbeats 1600000 in
theorem formatInt_in (r : Nat) (W : World) (hr1 : 4096 ≤ r) (hr2 : r < 65536) (hd : BruijnAt W) :
    Calls Tryz.prog 85 #[.int .i64 (r : Int), .int .i64 16] W fun e w' => e = .returned (.string ⟨(hexL r).toArray⟩) ∧ Below W.heap.size W w' := by
  have H := Lib.hid (formatBits_any r W hr1 hr2 hd)
  clear hd
  have i1 : IntKind.u64.wrap (r : Int) = (r : Int) := IntWalk.u64_in _ (by omega)
  have t1 : decide ((r : Int) < 0) = false := by simp
  go_enter Tryz.func85, Tryz.ntmps85
  go_wp2_with fail
  refine H.out.mono ?_
  rintro e w1 ⟨rfl, hb⟩
  go_wp2_with fail
  go_ret
  exact ⟨rfl, hb⟩
set_option maxRecDepth 1000000 in
theorem formatInt_out (r : Nat) (W : World) (hr1 : 4096 ≤ r) (hr2 : r < 65536) (hd : BruijnAt W) :
    Calls Tryz.prog 62 #[.int .i64 (r : Int), .int .i64 16] W fun e w' => e = .returned (.string ⟨(hexL r).toArray⟩) ∧ Below W.heap.size W w' := by
  have H := Lib.hid (formatInt_in r W hr1 hr2 hd)
  clear hd
  go_enter Tryz.func62, Tryz.ntmps62
  go_wp2_with fail
  refine H.out.mono ?_
  rintro e w1 ⟨rfl, hb⟩
  go_wp2_with fail
  go_ret
  exact ⟨rfl, hb⟩
set_option maxRecDepth 1000000 in
theorem zzHex_any (r : Nat) (W : World) (hn : nonB r = true) (hd : BruijnAt W) :
    Calls Tryz.prog 52 #[.int .i32 (r : Int)] W fun e w' => e = .returned (.string ⟨(hexL r).toArray⟩) ∧ Below W.heap.size W w' := by
  have hr : 4096 ≤ r ∧ r < 65536 := by
    simp only [nonB, Bool.or_eq_true, Bool.and_eq_true, decide_eq_true_eq] at hn
    omega
  have H := Lib.hid (formatInt_out r W hr.1 hr.2 hd)
  clear hd
  have i1 : IntKind.i64.wrap (r : Int) = (r : Int) := IntWalk.i64_in _ (by omega)
  go_enter Tryz.func52, Tryz.ntmps52
  go_wp2_with fail
  refine H.out.mono ?_
  rintro e w1 ⟨rfl, hb⟩
  go_wp2_with fail
  go_ret
  exact ⟨rfl, hb⟩
end Go.Proofs.YtopmbledpalmdaaGreatDoor
