/-
  The walk of htmlReplacer.
-/
import Derived.Test.YtopmbledpalmdaaGreatDoorEnc
import Derived.Test.YtopmbledpalmdaaGreatDoorBld
import Derived.StillTailTactics
import Derived.IntWalk
import Derived.Deep.RegionWith
import Derived.Deep.DeepCutAuto
namespace Go.Proofs.YtopmbledpalmdaaGreatDoor
open Go.RowKit Go.Proofs

abbrev BAt (B b : Nat) (l : Bs) (w : World) : Prop := Lib.BuilderAt 64 5 B b (.pointer (some ⟨b, 0, none⟩)) (Lib.byteCells l) w
def rpRel (tab : Nat → Bs) (n : Nat) (bad : Bool) (s : ByteArray) (B b : Nat) (R : Bs) (W : World) (mv iv : Value) (wr : World) : Prop :=
  ∃ (k m : Nat) (acc : Bs), k ≤ s.size ∧ m ≤ k ∧ iv = .int .i64 (k : Int) ∧ mv = .int .i64 (m : Int) ∧ acc ++ (sfx s m).take (k - m) ++ encL tab n bad (sfx s k) = R ∧ acc.length ≤ 8 * m ∧
    ((m = 0 ∧ acc = [] ∧ wr.heap[b]? = some (.cells #[.pointer none, .slice none 0 0] 64 (0, 0))) ∨ (0 < m ∧ acc ≠ [] ∧ BAt B b acc wr)) ∧ Below B W wr ∧ B ≤ wr.heap.size

theorem take_more (s : ByteArray) (m k w : Nat) (h : m ≤ k) : (sfx s m).take (k - m) ++ (sfx s k).take w = (sfx s m).take (k - m + w) := by
  rw [List.take_add, sfx_drop, show m + (k - m) = k by omega]
theorem tab_cell {w : World} {T n : Nat} {tab : Nat → Bs} (h : w.heap[T]? = some (.cells (tabCells tab n) 9 (0, 0))) (r : Nat) (hr : r < n) : w.cell? ⟨T, r, none⟩ = some (.string ⟨(tab r).toArray⟩) := by
  rw [cell_of_row w T r _ _ (0, 0) h]
  simp [tabCells, hr]
theorem own_below' {W W' : World} {B : Nat} {e : TypeId} {size n : Nat} {v : Value} {xs : List Value} (h : W.ownsRow B e size v n xs) (hb : Below W.heap.size W W') : W'.ownsRow B e size v n xs := by
  refine h.kept (row := none) ⟨hb.os, hb.tape, hb.output, hb.size, fun i hi _ => hb.block i hi⟩ ?_
  cases hv : v.ownBlock with
  | none => exact .inl rfl
  | some g => exact .inr (by simp)
theorem BAt.below {B b : Nat} {l : Bs} {w w' : World} (h : BAt B b l w) (hb : Below w.heap.size w w') : BAt B b l w' := by
  obtain ⟨h1, v, h2, h3, h4⟩ := h
  exact ⟨h1, v, (hb.block b (Array.getElem?_eq_some_iff.1 h2).1).trans h2, own_below' h3 hb, h4⟩
theorem nonB_tests (r : Nat) (h : nonB r = false) : (decide ((64976 : Int) ≤ (r : Int)) = false ∧ decide ((65520 : Int) ≤ (r : Int)) = false) ∨ (decide ((64976 : Int) ≤ (r : Int)) = true ∧ decide ((r : Int) ≤ 65007) = false ∧ decide ((65520 : Int) ≤ (r : Int)) = false) ∨
    (decide ((64976 : Int) ≤ (r : Int)) = true ∧ decide ((r : Int) ≤ 65007) = false ∧ decide ((65520 : Int) ≤ (r : Int)) = true ∧ decide ((r : Int) ≤ 65535) = false) := by
  simp only [nonB, Bool.or_eq_false_iff, Bool.and_eq_false_iff, decide_eq_false_iff_not, decide_eq_true_eq] at h ⊢
  omega
theorem nonB_in (r : Nat) (h : nonB r = true) : (decide ((64976 : Int) ≤ (r : Int)) = true ∧ decide ((r : Int) ≤ 65007) = true) ∨ (decide ((64976 : Int) ≤ (r : Int)) = true ∧ decide ((r : Int) ≤ 65007) = false ∧ decide ((65520 : Int) ≤ (r : Int)) = true ∧ decide ((r : Int) ≤ 65535) = true) := by
  simp only [nonB, Bool.or_eq_true, Bool.and_eq_true, decide_eq_true_eq, decide_eq_false_iff_not] at h ⊢
  omega
theorem ref_list (l : Bs) (s hx : ByteArray) (m k r : Nat) (h : hx.data.toList = hexL r) : l ++ (s.extract m k ++ ⟨#[38, 35, 120]⟩ ++ hx ++ ⟨#[59]⟩ : ByteArray).data.toList = (l ++ (sfx s m).take (k - m)) ++ ([38, 35, 120] ++ hexL r ++ [59]) := by
  simp only [ByteArray.data_append, Array.toList_append, extract_data, h, List.append_assoc]
theorem hexL_length (r : Nat) : (hexL r).length = 4 := rfl
def stIs (B b m : Nat) (acc : Bs) (w : World) : Prop := (m = 0 ∧ acc = [] ∧ w.heap[b]? = some (.cells #[.pointer none, .slice none 0 0] 64 (0, 0))) ∨ (0 < m ∧ acc ≠ [] ∧ BAt B b acc w)
theorem st_below {B b m : Nat} {acc : Bs} {w w' : World} (h : stIs B b m acc w) (hb : Below w.heap.size w w') : stIs B b m acc w' := by
  rcases h with ⟨h1, h2, h3⟩ | ⟨h1, h2, h3⟩
  · exact .inl ⟨h1, h2, (hb.block b (Array.getElem?_eq_some_iff.1 h3).1).trans h3⟩
  · exact .inr ⟨h1, h2, h3.below hb⟩

set_option maxRecDepth 1000000 in
set_option maxHeartbeats 3200000 in
theorem replacer_any (tab : Nat → Bs) (n : Nat) (bad : Bool) (s : ByteArray) (T : Nat) (W : World) (hs : s.size ≤ 10000000000) (_hn : n ≤ 1000) (htl : ∀ r, (tab r).length ≤ 8) (hT : W.heap[T]? = some (.cells (tabCells tab n) 9 (0, 0))) (hU : Lib.Utf8Tabs 1 2 W)
    (hz : ∀ W' r, Below W.heap.size W W' → nonB r = true → Calls Tryz.prog 52 #[.int .i32 (r : Int)] W' fun e w' => e = .returned (.string ⟨(hexL r).toArray⟩) ∧ Below W'.heap.size W' w') :
    Calls Tryz.prog 40 #[.string s, .slice (some ⟨T, 0, none⟩) n n, .bool bad] W fun e w' => e = .returned (.string ⟨(encL tab n bad s.data.toList).toArray⟩) ∧ Below W.heap.size W w' := by
  obtain ⟨R, hR⟩ : ∃ R, encL tab n bad s.data.toList = R := ⟨_, rfl⟩
  rw [hR]
  have HR0 := Lib.hid hR; clear hR
  obtain ⟨B, hB⟩ : ∃ B, W.heap.size = B := ⟨_, rfl⟩
  rw [hB] at hz ⊢
  have HTL := Lib.hid htl; clear htl
  have HT := Lib.hid hT; clear hT
  have HU := Lib.hid hU; clear hU
  have HZ := Lib.hid hz; clear hz
  go_enter Tryz.func40, Tryz.ntmps40
  go_wp2_with fail
  have HB := Lib.hid hB; clear hB
  go_loopw [7, 11] (fun mv iv wr => rpRel tab n bad s B B R W mv iv wr) (fun _ iv _ => s.size - (intOf iv).toNat)
  case atStart =>
    refine ⟨0, 0, [], Nat.zero_le _, Nat.le_refl _, rfl, rfl, ?_, Nat.le_refl _, .inl ⟨rfl, rfl, ?_⟩, ?_, ?_⟩
    · rw [sfx_zero]; simpa using HR0.out
    · rw [← HB.out]; exact heap_alloc_new _ _
    · rw [← HB.out]; exact (Below.refl _ W).alloc (Nat.le_refl _) _
    · have := HB.out; simp; omega
  case round =>
    obtain ⟨k, m, acc, hk, hmk, rfl, rfl, hr, hacc, hst, hb, hBw⟩ := hrel
    by_cases hlt : k < s.size
    · have hne : sfx s k ≠ [] := by rw [sfx_cons s k hlt]; simp
      rw [encL_step tab n bad _ hne] at hr
      have hd : Lib.decodeGo (s.extract k s.size) = runL (sfx s k) := by
        unfold Lib.decodeGo
        rw [if_neg (by simp; omega), ← Lib.decodeL_drop, List.drop_zero, extract_end]
        rfl
      have hwp := runL_pos (sfx s k)
      have hwl := runL_le _ hne
      rw [sfx_length] at hwl
      have hrb := runL_max (sfx s k)
      have hTr : Lib.Utf8Tabs 1 2 wr := Utf8Tabs_below HU.out (by rw [HB.out]; exact hb)
      have h1 := Tryz.utf8_DecodeRuneInString (s.extract k s.size) wr hTr
      rw [hd] at h1
      obtain ⟨r, hrr⟩ : ∃ r, (runL (sfx s k)).1 = r := ⟨_, rfl⟩
      obtain ⟨w, hww⟩ : ∃ w, (runL (sfx s k)).2 = w := ⟨_, rfl⟩
      rw [hrr, hww] at h1 hr
      rw [hrr] at hrb
      rw [hww] at hwp hwl
      rw [sfx_drop] at hr
      have H1 := Lib.hid h1; clear h1 hd hrr hww hTr
      have hTc := HT.out
      have i1 : (0 : Int) ≤ (k : Int) := by omega
      have i2 : (k : Int) ≤ (s.size : Int) := by omega
      have i3 : (0 : Int) ≤ (m : Int) := by omega
      have i4 : (m : Int) ≤ (k : Int) := by omega
      have i5 : ((k : Int)).toNat = k := by omega
      have i6 : ((m : Int)).toNat = m := by omega
      by_cases hrn : r < n
      · have t1 : decide ((r : Int) < (n : Int)) = true := by simp; omega
        by_cases htab : tab r = []
        · simp only [replOf, if_pos hrn, if_pos htab] at hr
          rw [← List.append_assoc, List.append_assoc acc, take_more s m k w hmk, show k - m + w = k + w - m by omega] at hr
          have hlz : (⟨(tab r).toArray⟩ : ByteArray) = ⟨#[]⟩ := by rw [htab]
          have HR := Lib.hid hr; clear hr
          have HST := Lib.hid hst; clear hst
          have hTl : T < B := by
            have := (Array.getElem?_eq_some_iff.1 hTc).1
            rw [HB.out] at this; exact this
          clear hTc
          go_wp2_with fail
          refine H1.out.mono ?_
          rintro e w1 ⟨rfl, hb1⟩
          have hT1 : w1.cell? ⟨T, r, none⟩ = some (.string ⟨#[]⟩) := by
            rw [← hlz]
            exact tab_cell (((hb1.block T (by omega)).trans (hb.block T hTl)).trans HT.out) r hrn
          have hst1 := st_below HST.out hb1
          have HS1 := Lib.hid hst1; clear hst1
          have HB1 := Lib.hid (hb.trans (hb1.mono hBw))
          have hBw1 : B ≤ w1.heap.size := by have := hb1.size; omega
          have i7 : (0 : Int) ≤ (r : Int) := by omega
          have i8 : (r : Int) < (n : Int) := by omega
          have i9 : ((r : Int)).toNat = r := by omega
          clear hlz htab
          go_wp2_with fail
          go_roundw
          case rel => exact ⟨k + w, m, acc, by omega, by omega, by go_num, rfl, HR.out, hacc, HS1.out, HB1.out, hBw1⟩
          case measure => simp [intOf]; omega
        · simp only [replOf, if_pos hrn, if_neg htab] at hr
          obtain ⟨ts, hts⟩ : ∃ ts : ByteArray, ⟨(tab r).toArray⟩ = ts := ⟨_, rfl⟩
          have htd : ts.data.toList = tab r := by rw [← hts]
          have htz : ts.size = (tab r).length := by rw [← htd]; simp
          have htp : 0 < (tab r).length := List.length_pos_iff.2 htab
          have ht8 := HTL.out r
          have hz1 : ((ts.size : Int) != 0) = true := by rw [bne_iff_ne]; intro h; omega
          have hz2 : ¬ (ts.size = 0) := by omega
          have h4 := fun w2 (hb : BAt B B acc w2) (hB : B ≤ w2.heap.size) => write_any B B acc (s.extract m k) w2 hb (by simp; omega) hB
          rw [extract_data] at h4
          obtain ⟨acc2, hacc2⟩ : ∃ acc2, acc ++ (sfx s m).take (k - m) = acc2 := ⟨_, rfl⟩
          have hal2 : acc2.length ≤ 8 * k := by
            rw [← hacc2, List.length_append, List.length_take, sfx_length]; omega
          rw [hacc2] at h4
          have h5 := fun w2 (hb : BAt B B acc2 w2) (hB : B ≤ w2.heap.size) => write_any B B acc2 ts w2 hb (by omega) hB
          rw [htd] at h5
          have hr2 : (acc2 ++ tab r) ++ (sfx s (k + w)).take 0 ++ encL tab n bad (sfx s (k + w)) = R := by
            rw [← hr, hacc2]; simp
          have hlen2 : (acc2 ++ tab r).length ≤ 8 * (k + w) := by rw [List.length_append]; omega
          have hne2 : acc2 ++ tab r ≠ [] := by intro h; exact htab (List.append_eq_nil_iff.1 h).2
          have H4 := Lib.hid h4; clear h4
          have H5 := Lib.hid h5; clear h5
          have HR := Lib.hid hr2; clear hr hr2
          have HNE := Lib.hid hne2; clear hne2
          have hTl : T < B := by
            have := (Array.getElem?_eq_some_iff.1 hTc).1
            rw [HB.out] at this; exact this
          have HTS := Lib.hid hts; clear hts
          have HLE := Lib.hid hlen2; clear hlen2 hacc2 hTc htd htab
          rcases hst with ⟨rfl, rfl, hbk⟩ | ⟨hm0, ha0, hbat⟩
          · have HBK := Lib.hid hbk; clear hbk
            go_wp2_with fail
            refine H1.out.mono ?_
            rintro e w1 ⟨rfl, hb1⟩
            have hT1 : w1.cell? ⟨T, r, none⟩ = some (.string ts) := by
              rw [← HTS.out]
              exact tab_cell (((hb1.block T (by omega)).trans (hb.block T hTl)).trans HT.out) r hrn
            have hB1 := hb.trans (hb1.mono hBw)
            have hBw1 : B ≤ w1.heap.size := by have := hb1.size; omega
            have h6 := Tryz.Builder_Grow_fresh B B s.size w1 (Nat.le_refl _) ((hb1.block B (Array.getElem?_eq_some_iff.1 HBK.out).1).trans HBK.out) hBw1 (by omega)
            have H6 := Lib.hid h6; clear h6
            have HB1 := Lib.hid hB1; clear hB1
            have i7 : (0 : Int) ≤ (r : Int) := by omega
            have i8 : (r : Int) < (n : Int) := by omega
            have i9 : ((r : Int)).toNat = r := by omega
            go_wp2_with fail
            refine H6.out.mono ?_
            rintro e w2 ⟨rfl, hbat2, hb2⟩
            have hBw2 : B ≤ w2.heap.size := by have := hb2.size; omega
            have HBB2 := Lib.hid hbat2; clear hbat2
            go_wp2_with fail
            refine (H4.out _ HBB2.out hBw2).mono ?_
            rintro e w3 ⟨rfl, hbat3, hb3⟩
            have hBw3 : B ≤ w3.heap.size := by have := hb3.size; omega
            have HBB3 := Lib.hid hbat3; clear hbat3
            go_wp2_with fail
            refine (H5.out _ HBB3.out hBw3).mono ?_
            rintro e w4 ⟨rfl, hbat4, hb4⟩
            have hBw4 : B ≤ w4.heap.size := by have := hb4.size; omega
            have HBB4 := Lib.hid hbat4; clear hbat4
            go_wp2_with fail
            go_roundw
            case rel => exact ⟨k + w, k + w, acc2 ++ tab r, by omega, Nat.le_refl _, by go_num, by go_num, by rw [Nat.sub_self]; exact HR.out, HLE.out, .inr ⟨by omega, HNE.out, HBB4.out⟩, HB1.out.trans (hb2.trans (hb3.trans hb4)), hBw4⟩
            case measure => simp [intOf]; omega
          · have hzm : ((m : Int) == 0) = false := by simp; omega
            have HBAT := Lib.hid hbat; clear hbat
            go_wp2_with fail
            refine H1.out.mono ?_
            rintro e w1 ⟨rfl, hb1⟩
            have hT1 : w1.cell? ⟨T, r, none⟩ = some (.string ts) := by
              rw [← HTS.out]
              exact tab_cell (((hb1.block T (by omega)).trans (hb.block T hTl)).trans HT.out) r hrn
            have hB1 := hb.trans (hb1.mono hBw)
            have hBw2 : B ≤ w1.heap.size := by have := hb1.size; omega
            have HB1 := Lib.hid hB1; clear hB1
            have HBB2 := Lib.hid (HBAT.out.below hb1)
            have i7 : (0 : Int) ≤ (r : Int) := by omega
            have i8 : (r : Int) < (n : Int) := by omega
            have i9 : ((r : Int)).toNat = r := by omega
            go_wp2_with fail
            refine (H4.out _ HBB2.out hBw2).mono ?_
            rintro e w3 ⟨rfl, hbat3, hb3⟩
            have hBw3 : B ≤ w3.heap.size := by have := hb3.size; omega
            have HBB3 := Lib.hid hbat3; clear hbat3
            go_wp2_with fail
            refine (H5.out _ HBB3.out hBw3).mono ?_
            rintro e w4 ⟨rfl, hbat4, hb4⟩
            have hBw4 : B ≤ w4.heap.size := by have := hb4.size; omega
            have HBB4 := Lib.hid hbat4; clear hbat4
            go_wp2_with fail
            go_roundw
            case rel => exact ⟨k + w, k + w, acc2 ++ tab r, by omega, Nat.le_refl _, by go_num, by go_num, by rw [Nat.sub_self]; exact HR.out, HLE.out, .inr ⟨by omega, HNE.out, HBB4.out⟩, HB1.out.trans (hb3.trans hb4), hBw4⟩
            case measure => simp [intOf]; omega
      · have t1 : decide ((r : Int) < (n : Int)) = false := by simp; omega
        cases bad with
        | true =>
          simp only [replOf, if_neg hrn, Bool.not_true, Bool.false_and, Bool.false_eq_true, if_false] at hr
          rw [← List.append_assoc, List.append_assoc acc, take_more s m k w hmk, show k - m + w = k + w - m by omega] at hr
          have HR := Lib.hid hr; clear hr
          have HST := Lib.hid hst; clear hst
          clear hTc
          go_wp2_with fail
          refine H1.out.mono ?_
          rintro e w1 ⟨rfl, hb1⟩
          have hst1 := st_below HST.out hb1
          have HS1 := Lib.hid hst1; clear hst1
          have HB1 := Lib.hid (hb.trans (hb1.mono hBw))
          have hBw1 : B ≤ w1.heap.size := by have := hb1.size; omega
          go_wp2_with fail
          go_roundw
          case rel => exact ⟨k + w, m, acc, by omega, by omega, by go_num, rfl, HR.out, hacc, HS1.out, HB1.out, hBw1⟩
          case measure => simp [intOf]; omega
        | false =>
          cases hnb : nonB r with
          | false =>
          simp only [replOf, if_neg hrn, hnb, Bool.and_false, Bool.false_eq_true, if_false] at hr
          rcases nonB_tests r hnb with ⟨q1, q3⟩ | ⟨q1, q2, q3⟩ | ⟨q1, q2, q3, q4⟩
          all_goals
            rw [← List.append_assoc, List.append_assoc acc, take_more s m k w hmk, show k - m + w = k + w - m by omega] at hr
            have HR := Lib.hid hr; clear hr
            have HST := Lib.hid hst; clear hst
            clear hTc
            go_wp2_with fail
            refine H1.out.mono ?_
            rintro e w1 ⟨rfl, hb1⟩
            have hst1 := st_below HST.out hb1
            have HS1 := Lib.hid hst1; clear hst1
            have HB1 := Lib.hid (hb.trans (hb1.mono hBw))
            have hBw1 : B ≤ w1.heap.size := by have := hb1.size; omega
            go_wp2_with fail
            go_roundw
            case rel => exact ⟨k + w, m, acc, by omega, by omega, by go_num, rfl, HR.out, hacc, HS1.out, HB1.out, hBw1⟩
            case measure => simp [intOf]; omega
          | true =>
            simp only [replOf, if_neg hrn, hnb, Bool.not_false, Bool.true_and, if_true] at hr
            obtain ⟨acc2, hacc2⟩ : ∃ acc2, acc ++ (sfx s m).take (k - m) = acc2 := ⟨_, rfl⟩
            have hal2 : acc2.length ≤ 8 * k := by
              rw [← hacc2, List.length_append, List.length_take, sfx_length]; omega
            have h4 := fun (u : ByteArray) w2 (hu : u.size ≤ 10000000100) (hb : BAt B B acc w2) (hB : B ≤ w2.heap.size) => write_any B B acc u w2 hb (by omega) hB
            have h5 := fun w2 (hb : Below B W w2) => HZ.out w2 r hb hnb
            have H4 := Lib.hid h4; clear h4
            obtain ⟨hx, hhx⟩ : ∃ hx : ByteArray, ⟨(hexL r).toArray⟩ = hx := ⟨_, rfl⟩
            rw [hhx] at h5
            have hxz : hx.size = 4 := by rw [← hhx]; rfl
            have hxd : hx.data.toList = hexL r := by rw [← hhx]
            have hrl := ref_list acc s hx m k r hxd
            rw [hacc2] at hrl
            have HRL := Lib.hid hrl; clear hrl hxd hhx
            rw [← List.append_assoc, hacc2] at hr
            have hr2 : (acc2 ++ ([38, 35, 120] ++ hexL r ++ [59])) ++ (sfx s (k + w)).take 0 ++ encL tab n false (sfx s (k + w)) = R := by
              rw [← hr]; simp
            have hlen2 : (acc2 ++ ([38, 35, 120] ++ hexL r ++ [59])).length ≤ 8 * (k + w) := by
              simp only [List.length_append, hexL_length, List.length_cons, List.length_nil]; omega
            have hne2 : acc2 ++ ([38, 35, 120] ++ hexL r ++ [59]) ≠ [] := by simp
            have HR := Lib.hid hr2; clear hr hr2
            have HLE := Lib.hid hlen2; clear hlen2
            have HNE := Lib.hid hne2; clear hne2
            clear hacc2
            have hwk : IntKind.i64.wrap ((k : Int) + (w : Int)) = ((k + w : Nat) : Int) := by rw [IntWalk.i64_in _ (by omega)]; omega
            have H5 := Lib.hid h5; clear h5
            have hrange := nonB_in r hnb
            clear hTc
            rcases hst with ⟨rfl, rfl, hbk⟩ | ⟨hm0, ha0, hbat⟩
            · have HBK := Lib.hid hbk; clear hbk
              rcases hrange with ⟨q1, q2⟩ | ⟨q1, q2, q3, q4⟩
              all_goals
                go_wp2_with fail
                refine H1.out.mono ?_
                rintro e w1 ⟨rfl, hb1⟩
                have hB1 := hb.trans (hb1.mono hBw)
                have hBw1 : B ≤ w1.heap.size := by have := hb1.size; omega
                have h6 := Tryz.Builder_Grow_fresh B B s.size w1 (Nat.le_refl _) ((hb1.block B (Array.getElem?_eq_some_iff.1 HBK.out).1).trans HBK.out) hBw1 (by omega)
                have H6 := Lib.hid h6; clear h6
                have HB1 := Lib.hid hB1; clear hB1
                go_wp2_with fail
                refine H6.out.mono ?_
                rintro e w2 ⟨rfl, hbat2, hb2⟩
                have hBw2 : B ≤ w2.heap.size := by have := hb2.size; omega
                have HBB2 := Lib.hid hbat2; clear hbat2
                go_upto_region 19 with fail
                have hu4 : (s.extract 0 k ++ ⟨#[38, 35, 120]⟩ ++ hx ++ ⟨#[59]⟩ : ByteArray).size ≤ 10000000100 := by
                  simp only [ByteArray.size_append, ByteArray.size_extract, hxz]
                  show _ + 3 + _ + 1 ≤ _
                  omega
                have h7 := fun w3 (hb3 : Below w2.drew.heap.size w2.drew w3) => H4.out _ w3 hu4 ((show BAt B B [] w2.drew from HBB2.out).below hb3) (Nat.le_trans hBw2 hb3.size)
                have H7 := Lib.hid h7; clear h7 hu4
                have HBW2 := Lib.hid (show Below B W w2.drew from HB1.out.trans (hb2.trans (Below.refl B w2).drew))
                go_cut [] (fun wx => BAt B B (acc2 ++ ([38, 35, 120] ++ hexL r ++ [59])) wx ∧ Below B W wx ∧ B ≤ wx.heap.size)
                case first =>
                  go_region_with (first | (go_at_call 52; refine (H5.out _ HBW2.out).mono ?_; rintro e w3 ⟨rfl, hb3⟩) | (go_at_call 51; refine (H7.out _ hb3).mono ?_; rintro e w4 ⟨rfl, hbat4, hb4⟩))
                  all_goals
                    go_wp2_with fail
                    go_meet
                    rw [HRL.out] at hbat4
                    exact ⟨hbat4, HBW2.out.trans ((hb3.mono hBw2).trans hb4), Nat.le_trans hBw2 (Nat.le_trans hb3.size hb4.size)⟩
                case rest =>
                  obtain ⟨hbx, hbw, hBx⟩ := hcut
                  have HBX := Lib.hid hbx; clear hbx
                  have HBWX := Lib.hid hbw; clear hbw
                  go_wp2_with fail
                  go_roundw
                  case rel => exact ⟨k + w, k + w, _, by omega, Nat.le_refl _, by go_num, by go_num, by rw [Nat.sub_self]; exact HR.out, HLE.out, .inr ⟨by omega, HNE.out, HBX.out⟩, HBWX.out, hBx⟩
                  case measure => simp [intOf]; omega
            · have hzm : ((m : Int) == 0) = false := by simp; omega
              have HBAT := Lib.hid hbat; clear hbat
              rcases hrange with ⟨q1, q2⟩ | ⟨q1, q2, q3, q4⟩
              all_goals
                go_wp2_with fail
                refine H1.out.mono ?_
                rintro e w2 ⟨rfl, hb2⟩
                have hbw2 := hb.trans (hb2.mono hBw)
                have hBw2 : B ≤ w2.heap.size := by have := hb2.size; omega
                have HBB2 := Lib.hid (HBAT.out.below hb2)
                go_upto_region 19 with fail
                have hu4 : (s.extract m k ++ ⟨#[38, 35, 120]⟩ ++ hx ++ ⟨#[59]⟩ : ByteArray).size ≤ 10000000100 := by
                  simp only [ByteArray.size_append, ByteArray.size_extract, hxz]
                  show _ + 3 + _ + 1 ≤ _
                  omega
                have h7 := fun w3 (hb3 : Below w2.drew.heap.size w2.drew w3) => H4.out _ w3 hu4 ((show BAt B B acc w2.drew from HBB2.out).below hb3) (Nat.le_trans hBw2 hb3.size)
                have H7 := Lib.hid h7; clear h7 hu4
                have HBW2 := Lib.hid (show Below B W w2.drew from hbw2.trans (Below.refl B w2).drew)
                clear hbw2
                go_cut [] (fun wx => BAt B B (acc2 ++ ([38, 35, 120] ++ hexL r ++ [59])) wx ∧ Below B W wx ∧ B ≤ wx.heap.size)
                case first =>
                  go_region_with (first | (go_at_call 52; refine (H5.out _ HBW2.out).mono ?_; rintro e w3 ⟨rfl, hb3⟩) | (go_at_call 51; refine (H7.out _ hb3).mono ?_; rintro e w4 ⟨rfl, hbat4, hb4⟩))
                  all_goals
                    go_wp2_with fail
                    go_meet
                    rw [HRL.out] at hbat4
                    exact ⟨hbat4, HBW2.out.trans ((hb3.mono hBw2).trans hb4), Nat.le_trans hBw2 (Nat.le_trans hb3.size hb4.size)⟩
                case rest =>
                  obtain ⟨hbx, hbw, hBx⟩ := hcut
                  have HBX := Lib.hid hbx; clear hbx
                  have HBWX := Lib.hid hbw; clear hbw
                  go_wp2_with fail
                  go_roundw
                  case rel => exact ⟨k + w, k + w, _, by omega, Nat.le_refl _, by go_num, by go_num, by rw [Nat.sub_self]; exact HR.out, HLE.out, .inr ⟨by omega, HNE.out, HBX.out⟩, HBWX.out, hBx⟩
                  case measure => simp [intOf]; omega
    · have hks : k = s.size := by omega
      subst hks
      rw [sfx_end s s.size (Nat.le_refl _), encL_nil, List.append_nil, List.take_of_length_le (Nat.le_of_eq (sfx_length s m))] at hr
      rcases hst with ⟨rfl, rfl, hbk⟩ | ⟨hm0, ha0, hbat⟩
      · rw [sfx_zero, List.nil_append] at hr
        have hss : (⟨R.toArray⟩ : ByteArray) = s := by rw [← hr]
        have HSS := Lib.hid hss; clear hss hr
        go_wp2_with fail
        go_ret
        exact ⟨congrArg (fun x => Ending.returned (.string x)) HSS.out.symm, hb⟩
      · have h2 := write_any B B acc (s.extract m s.size) wr hbat (by simp; omega) hBw
        rw [extract_end, hr] at h2
        have hRne : R ≠ [] := by
          rw [← hr]
          intro h
          exact ha0 (List.append_eq_nil_iff.1 h).1
        have hzm : ((m : Int) == 0) = false := by simp; omega
        have i3 : (0 : Int) ≤ (m : Int) := by omega
        have i4 : (m : Int) ≤ (s.size : Int) := by omega
        have i6 : ((m : Int)).toNat = m := by omega
        have H2 := Lib.hid h2; clear h2 hr hbat
        go_wp2_with fail
        refine H2.out.mono ?_
        rintro e w1 ⟨rfl, hbat1, hb1⟩
        have h3 := Tryz.Builder_String B B R w1 (.inr hbat1) hRne
        have H3 := Lib.hid h3; clear h3 hbat1
        go_wp2_with fail
        refine H3.out.mono ?_
        rintro e w2 ⟨rfl, hb2⟩
        go_wp2_with fail
        go_ret
        exact ⟨rfl, (hb.trans hb1).trans hb2⟩
end Go.Proofs.YtopmbledpalmdaaGreatDoor
