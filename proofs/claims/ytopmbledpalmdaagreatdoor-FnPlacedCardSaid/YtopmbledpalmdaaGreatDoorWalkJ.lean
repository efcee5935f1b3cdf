/-
  The walk of spec.Reference. Printed by wip/tools/reference.py.
-/
import Derived.Test.YtopmbledpalmdaaGreatDoorWalkI
import Derived.WalkSmall
namespace Go.Proofs.YtopmbledpalmdaaGreatDoor
open Go.RowKit Go.Proofs

set_option maxRecDepth 1000000 in
set_option maxHeartbeats 1600000 in
theorem reference_short (s : ByteArray) (a : Bool) (w : World) (h2 : s.size = 1) :
    Calls Tryz.prog 28 #[.string s, .bool a] w fun e w' => e = .returned (numOut (referenceL (sfx s 1) a)) ∧ Below w.heap.size w w' := by
  have hr : referenceL (sfx s 1) a = none := by rw [sfx_end s 1 (by omega)]; rfl
  rw [hr]
  have h3 : ((s.size : Nat) : Int) < 2 := by omega
  clear hr h2
  go_enter Tryz.func28, Tryz.ntmps28
  go_wp2
  go_ret3
  exact ⟨rfl, Below.refl _ _⟩

set_option maxRecDepth 1000000 in
set_option maxHeartbeats 1600000 in
theorem reference_num (s : ByteArray) (a : Bool) (w : World) (hs : s.size ≤ 140737488355328) (h2 : 2 ≤ s.size) (h0 : s[0] = 38) (h1 : s[1] = 35) :
    Calls Tryz.prog 28 #[.string s, .bool a] w fun e w' => e = .returned (numOut (referenceL (sfx s 1) a)) ∧ Below w.heap.size w w' := by
  have hr : referenceL (sfx s 1) a = numericL (sfx s 2) := by rw [sfx_cons s 1 (by omega), h1]; rfl
  rw [hr]
  have hn := numeric_any s w hs h2
  obtain ⟨R, hR⟩ : ∃ R, numericL (sfx s 2) = R := ⟨_, rfl⟩
  rw [hR] at hn ⊢
  have e0 : s[0].toNat = 38 := by rw [h0]; rfl
  have e1 : s[1].toNat = 35 := by rw [h1]; rfl
  clear hr hR h0 h1
  rcases R with _ | ⟨t, n⟩
  · have H := Lib.hid hn; clear hn
    go_enter Tryz.func28, Tryz.ntmps28
    go_wp2_with fail
    refine H.out.mono ?_
    rintro e w1 ⟨rfl, hb⟩
    unfold numOut
    go_wp2_with fail
    go_ret3
    exact ⟨rfl, hb⟩
  · have H := Lib.hid hn; clear hn
    go_enter Tryz.func28, Tryz.ntmps28
    go_wp2_with fail
    refine H.out.mono ?_
    rintro e w1 ⟨rfl, hb⟩
    unfold numOut
    go_wp2_with fail
    go_ret3
    exact ⟨rfl, hb⟩

/-- One name tried: what the walk's tests say, and what comes of it. -/
theorem refTry_eq (l w : Bs) (b : Bs × Nat) (e : Ref) (semi : Bool) (hs : ((l.drop e.name.length).head? == some 59) = semi) :
    refTry l w b e = if w.length < e.name.length || w.take e.name.length != e.name || (!semi && !e.legacy) || (semi && decide (e.name.length < w.length) && !e.legacy) then b
      else if e.name.length + 1 + (if semi then 1 else 0) ≤ b.2 then b else (e.text, e.name.length + 1 + (if semi then 1 else 0)) := by
  unfold refTry
  rw [hs]
theorem refTry_no (l w : Bs) (b : Bs × Nat) (e : Ref) (semi : Bool) (hs : ((l.drop e.name.length).head? == some 59) = semi)
    (h : w.length < e.name.length ∨ w.take e.name.length ≠ e.name ∨ (semi = false ∧ e.legacy = false) ∨ (semi = true ∧ e.name.length < w.length ∧ e.legacy = false)) :
    refTry l w b e = b := by
  rw [refTry_eq l w b e semi hs]
  rcases h with h | h | ⟨h, h'⟩ | ⟨h, h', h''⟩
  · rw [if_pos (by simp [h])]
  · rw [if_pos (by simp [h])]
  · rw [if_pos (by simp [h, h'])]
  · rw [if_pos (by simp [h, h', h''])]
theorem refTry_yes (l w : Bs) (b : Bs × Nat) (e : Ref) (semi : Bool) (hs : ((l.drop e.name.length).head? == some 59) = semi) (h1 : ¬ w.length < e.name.length) (h2 : w.take e.name.length = e.name) (k : Nat)
    (h3 : (semi = false ∧ e.legacy = true ∧ k = 1) ∨ (semi = true ∧ (e.legacy = true ∨ ¬ e.name.length < w.length) ∧ k = 2)) :
    refTry l w b e = if e.name.length + k ≤ b.2 then b else (e.text, e.name.length + k) := by
  rw [refTry_eq l w b e semi hs]
  rcases h3 with ⟨h, h', rfl⟩ | ⟨h, h' | h', rfl⟩
  · subst h
    rw [if_neg (by simp [h1, h2, h'])]
    rfl
  · subst h
    rw [if_neg (by simp [h1, h2, h'])]
    rfl
  · subst h
    rw [if_neg (by simp [h1, h2, h'])]
    rfl
theorem ent_short (j : Nat) (hj : j < 54) : (entitiesL[j]'(by rw [ent_len]; exact hj)).name.length ≤ 13 ∧ 2 ≤ (entitiesL[j]'(by rw [ent_len]; exact hj)).name.length := by
  have h : ∀ j : Fin 54, (entitiesL[j.val]'(by rw [ent_len]; exact j.isLt)).name.length ≤ 13 ∧ 2 ≤ (entitiesL[j.val]'(by rw [ent_len]; exact j.isLt)).name.length := by decide
  exact h ⟨j, hj⟩
theorem foldl_take (l w : Bs) (j : Nat) (hj : j < 54) : (entitiesL.take (j + 1)).foldl (refTry l w) ([], 0) = refTry l w ((entitiesL.take j).foldl (refTry l w) ([], 0)) (entitiesL[j]'(by rw [ent_len]; exact hj)) := by
  rw [List.take_succ_eq_append_getElem (by rw [ent_len]; exact hj), List.foldl_append]
  rfl
theorem ent_fin (E B : Nat) (w : World) (o : Obj) (W : World) (h1 : W.heap[E]? = some (.cells entCells 46 (0, 0))) (h2 : E < W.heap.size) (h3 : Below B w W) (h4 : B ≤ E) (n : Nat) :
    ((W.alloc o).drewN n).heap[E]? = some (.cells entCells 46 (0, 0)) ∧ E < ((W.alloc o).drewN n).heap.size ∧ Below B w ((W.alloc o).drewN n) :=
  ⟨(Below.heap_alloc W o E h2).trans h1, by show E < (W.alloc o).heap.size; simp; omega, below_drewN (h3.alloc (by omega) o) n⟩

def refRel (s u : ByteArray) (E B : Nat) (w : World) (bs n i : Value) (W : World) : Prop :=
  ∃ (j nn : Nat) (b : ByteArray), j ≤ 54 ∧ i = .int .i64 j ∧ bs = .string b ∧ n = .int .i64 nn ∧ (entitiesL.take j).foldl (refTry (sfx s 1) u.data.toList) ([], 0) = (b.data.toList, nn) ∧ nn ≤ s.size ∧ (nn = 0 ∨ 2 ≤ nn) ∧
    W.heap[E]? = some (.cells entCells 46 (0, 0)) ∧ E < W.heap.size ∧ Below B w W

set_option maxRecDepth 1000000 in
set_option maxHeartbeats 8000000 in
theorem reference_named (s : ByteArray) (a : Bool) (w : World) (hs : s.size ≤ 140737488355328) (h2 : 2 ≤ s.size) (h0 : s[0] = 38) (h1 : s[1] ≠ 35) :
    Calls Tryz.prog 28 #[.string s, .bool a] w fun e w' => e = .returned (numOut (referenceL (sfx s 1) a)) ∧ Below w.heap.size w w' := by
  obtain ⟨R, hR⟩ : ∃ R, referenceL (sfx s 1) a = R := ⟨_, rfl⟩
  rw [hR]
  have hRR : R = (if ((entitiesL.foldl (refTry (sfx s 1) (wordL (sfx s 1))) ([], 0)).2 = 0 || (a && ((sfx s 1).drop ((entitiesL.foldl (refTry (sfx s 1) (wordL (sfx s 1))) ([], 0)).2 - 2)).head? != some 59 && (match (sfx s 1).drop ((entitiesL.foldl (refTry (sfx s 1) (wordL (sfx s 1))) ([], 0)).2 - 1) with | [] => false | x :: _ => x == 61 || isAlnumB x))) then none else some (entitiesL.foldl (refTry (sfx s 1) (wordL (sfx s 1))) ([], 0))) := by
    rw [← hR, sfx_cons s 1 (by omega)]
    simp only [referenceL, show (s[1] == 35) = false by simp [h1], Bool.false_eq_true, if_false]
    rfl
  clear hR
  have HRR := Lib.hid hRR; clear hRR
  have e0 : s[0].toNat = 38 := by rw [h0]; rfl
  have e1 : ((s[1].toNat : Int) == 35) = false := by
    have h := u8_beq s[1] 35
    simp only [show ((UInt8.toNat 35 : Nat) : Int) = 35 from rfl] at h
    rw [h]; simp [h1]
  clear h0 h1
  have hw := fun W => word_any (s.extract 1 s.size) W (by simp; omega)
  rw [extract_end] at hw
  obtain ⟨u, hu⟩ : ∃ u, (s.extract 1 s.size).extract 0 (wordL (sfx s 1)).length = u := ⟨_, rfl⟩
  rw [hu] at hw
  have hus : u.size = (wordL (sfx s 1)).length := by
    rw [← hu]
    have h4 : (wordL (sfx s 1)).length ≤ s.size - 1 := by
      have := (List.takeWhile_prefix isAlnumB (l := sfx s 1)).length_le
      rw [sfx_length] at this; exact this
    simp; omega
  have hul : u.data.toList = wordL (sfx s 1) := by
    rw [← hu, extract_data, Nat.sub_zero, sfx_zero, extract_end]
    exact (List.prefix_iff_eq_take.1 (List.takeWhile_prefix isAlnumB)).symm
  have huz : u.size + 1 ≤ s.size := by
    rw [hus]
    have := (List.takeWhile_prefix isAlnumB (l := sfx s 1)).length_le
    rw [sfx_length] at this
    unfold wordL; omega
  have HUL := Lib.hid hul; clear hul
  have hent := entities_any
  have H1 := Lib.hid hw; clear hw hu hus
  have H2 := Lib.hid hent; clear hent
  obtain ⟨B, hB⟩ : ∃ B, w.heap.size = B := ⟨_, rfl⟩
  rw [hB]
  have hb0 := Below.refl B w
  have hEc : (w.alloc (.cells entCells 46)).heap[B]? = some (.cells entCells 46 (0, 0)) := by rw [← hB]; exact heap_alloc_new w _
  have hEs : B < (w.alloc (.cells entCells 46)).heap.size := by rw [← hB]; simp
  have hbE : Below B w (w.alloc (.cells entCells 46)) := hb0.alloc (by omega) _
  have HB := Lib.hid hB
  have HEc := Lib.hid hEc; clear hEc
  have HEs := Lib.hid hEs; clear hEs
  go_enter Tryz.func28, Tryz.ntmps28
  go_wp2_with fail
  refine (H1.out _).mono ?_
  rintro e w' ⟨rfl, rfl⟩
  go_wp2_with fail
  refine (H2.out _).mono ?_
  rintro e w' ⟨rfl, rfl⟩
  go_wp2_with fail
  clear hB
  go_loopw [5, 7, 34] (fun n bs i W => refRel s u B B w bs n i W) (fun _ _ i _ => 54 - (intOf i).toNat)
  case atStart => exact ⟨0, 0, ⟨#[]⟩, by omega, rfl, rfl, rfl, rfl, by omega, .inl rfl, HEc.out, HEs.out, hbE⟩
  case round =>
    obtain ⟨j, nn, b, hj, rfl, rfl, rfl, hfold, hnn, hnz, hEc, hEs, hb⟩ := hrel
    by_cases hj54 : j < 54
    · obtain ⟨c0, c1, c2⟩ := ent_cell _ B hEc j hj54
      have hstep := foldl_take (sfx s 1) u.data.toList j hj54
      rw [hfold] at hstep
      obtain ⟨en, he⟩ : ∃ e, entitiesL[j]'(by rw [ent_len]; exact hj54) = e := ⟨_, rfl⟩
      rw [he] at c0 c1 c2 hstep
      obtain ⟨nm, hnm⟩ : ∃ nm : ByteArray, ⟨en.name.toArray⟩ = nm := ⟨_, rfl⟩
      obtain ⟨tx, htx⟩ : ∃ tx : ByteArray, ⟨en.text.toArray⟩ = tx := ⟨_, rfl⟩
      obtain ⟨lg, hlg⟩ : ∃ lg, en.legacy = lg := ⟨_, rfl⟩
      rw [hnm] at c0; rw [htx] at c1; rw [hlg] at c2
      have hnd : en.name = nm.data.toList := by rw [← hnm]
      have htd : en.text = tx.data.toList := by rw [← htx]
      have hns : en.name.length = nm.size := by rw [hnd]; simp
      have hsh := ent_short j hj54
      rw [he, hns] at hsh
      obtain ⟨hsh, hsh2⟩ := hsh
      have hno := refTry_no (sfx s 1) u.data.toList (b.data.toList, nn) en
      have hyes := refTry_yes (sfx s 1) u.data.toList (b.data.toList, nn) en
      rw [hns, hlg, sfx_drop, ← hstep] at hno hyes
      rw [htd] at hyes
      have hul2 : u.data.toList.length = u.size := by simp
      rw [hul2] at hno hyes
      have heq : ((u.extract 0 nm.size).toList != nm.toList) = !decide (u.data.toList.take nm.size = en.name) := by
        rw [extract_toList, Lib.toList_data, hnd, sfx_zero, Nat.sub_zero]
        rw [Bool.eq_iff_iff]; simp
      have HNO := Lib.hid hno; clear hno
      have HYES := Lib.hid hyes; clear hyes
      have HEQ := Lib.hid heq; clear heq
      have HFIN := Lib.hid (ent_fin B B w (.cells #[.string nm, .string tx, .bool lg] 46) _ hEc hEs hb (Nat.le_refl _))
      clear hstep he hnm htx hlg hnd htd hns hul2 hfold hEc

      by_cases hin : nm.size + 1 < s.size
      · have hc := sfx_cons s (1 + nm.size) (by omega)
        have hix : s[1 + nm.size] = s[nm.size + 1] := by congr 1; omega
        rw [hix] at hc
        have h9 : ((s[nm.size + 1].toNat : Int) == 59) = (s[nm.size + 1] == 59) := u8_beq _ 59
        by_cases hsm : s[nm.size + 1] = 59
        · have hsb : ((s[nm.size + 1].toNat : Int) == 59) = true := by rw [h9]; simp [hsm]
          have hhd : ((sfx s (1 + nm.size)).head? == some 59) = true := by rw [hc, hsm]; rfl
          clear h9 hc hix hsm
          have HHD := Lib.hid hhd; clear hhd
          by_cases h1 : u.size < nm.size
          · have hdA : decide ((u.size : Int) < (nm.size : Int)) = true := by simp; omega
            have hdB : decide (u.size < nm.size) = true := by simp; omega
            have hst := HNO.out _ HHD.out (.inl h1)
            have HST := Lib.hid hst; clear hst
            go_wp2_with fail
            go_quiet (fail)
            go_wp2_with fail
            go_roundw
            case rel => exact ⟨j + 1, nn, b, by omega, by go_num, rfl, rfl, HST.out, hnn, hnz, HFIN.out _⟩
            case measure => simp [intOf]; omega
          have hdA : decide ((u.size : Int) < (nm.size : Int)) = false := by simp; omega
          have hdB : decide (u.size < nm.size) = false := by simp; omega
          have hle1 : nm.size ≤ u.size := by omega
          have hle2 : (nm.size : Int) ≤ (u.size : Int) := by omega
          by_cases heq2 : u.data.toList.take nm.size = en.name
          case neg =>
            have hd2 : ((u.extract 0 nm.size).toList != nm.toList) = true := by rw [HEQ.out]; simp [heq2]
            have hd3 : ((u.extract 0 nm.size).toList == nm.toList) = false := by rw [bne_iff_ne] at hd2; simpa using hd2
            have hst := HNO.out _ HHD.out (.inr (.inl heq2))
            have HST := Lib.hid hst; clear hst
            go_wp2_with fail
            go_quiet (fail)
            go_wp2_with fail
            go_roundw
            case rel => exact ⟨j + 1, nn, b, by omega, by go_num, rfl, rfl, HST.out, hnn, hnz, HFIN.out _⟩
            case measure => simp [intOf]; omega
          have hd2 : ((u.extract 0 nm.size).toList != nm.toList) = false := by rw [HEQ.out]; simp [heq2]
          have hd3 : ((u.extract 0 nm.size).toList == nm.toList) = true := by simpa using hd2
          by_cases h3 : nm.size < u.size
          · have hdC : decide ((nm.size : Int) < (u.size : Int)) = true := by simp; omega
            have hdD : decide (nm.size < u.size) = true := by simp; omega
            cases lg with
            | false =>
              have hst := HNO.out _ HHD.out (.inr (.inr (.inr ⟨rfl, h3, rfl⟩)))
              have HST := Lib.hid hst; clear hst
              go_wp2_with fail
              go_quiet (fail)
              go_wp2_with fail
              go_roundw
              case rel => exact ⟨j + 1, nn, b, by omega, by go_num, rfl, rfl, HST.out, hnn, hnz, HFIN.out _⟩
              case measure => simp [intOf]; omega
            | true =>
              have hst := HYES.out _ HHD.out h1 heq2 2 (.inr ⟨rfl, .inl rfl, rfl⟩)
              by_cases hlong : nm.size + 2 ≤ nn
              · rw [if_pos hlong] at hst
                have HST := Lib.hid hst; clear hst
                go_wp2_with fail
                go_quiet (fail)
                go_wp2_with fail
                go_roundw
                case rel => exact ⟨j + 1, nn, b, by omega, by go_num, rfl, rfl, HST.out, hnn, hnz, HFIN.out _⟩
                case measure => simp [intOf]; omega
              · rw [if_neg hlong] at hst
                have HST := Lib.hid hst; clear hst
                go_wp2_with fail
                go_quiet (fail)
                go_wp2_with fail
                go_roundw
                case rel => exact ⟨j + 1, nm.size + 2, tx, by omega, by go_num, rfl, by go_num, HST.out, by omega, .inr (by omega), HFIN.out _⟩
                case measure => simp [intOf]; omega
          · have hdC : decide ((nm.size : Int) < (u.size : Int)) = false := by simp; omega
            have hdD : decide (nm.size < u.size) = false := by simp; omega
            have hst := HYES.out _ HHD.out h1 heq2 2 (.inr ⟨rfl, .inr h3, rfl⟩)
            by_cases hlong : nm.size + 2 ≤ nn
            · rw [if_pos hlong] at hst
              have HST := Lib.hid hst; clear hst
              go_wp2_with fail
              go_quiet (fail)
              go_wp2_with fail
              go_roundw
              case rel => exact ⟨j + 1, nn, b, by omega, by go_num, rfl, rfl, HST.out, hnn, hnz, HFIN.out _⟩
              case measure => simp [intOf]; omega
            · rw [if_neg hlong] at hst
              have HST := Lib.hid hst; clear hst
              go_wp2_with fail
              go_quiet (fail)
              go_wp2_with fail
              go_roundw
              case rel => exact ⟨j + 1, nm.size + 2, tx, by omega, by go_num, rfl, by go_num, HST.out, by omega, .inr (by omega), HFIN.out _⟩
              case measure => simp [intOf]; omega
        · have hsb : ((s[nm.size + 1].toNat : Int) == 59) = false := by rw [h9]; simp [hsm]
          have hhd : ((sfx s (1 + nm.size)).head? == some 59) = false := by rw [hc]; simp [hsm]
          clear h9 hc hix hsm
          have HHD := Lib.hid hhd; clear hhd
          by_cases h1 : u.size < nm.size
          · have hdA : decide ((u.size : Int) < (nm.size : Int)) = true := by simp; omega
            have hdB : decide (u.size < nm.size) = true := by simp; omega
            have hst := HNO.out _ HHD.out (.inl h1)
            have HST := Lib.hid hst; clear hst
            go_wp2_with fail
            go_quiet (fail)
            go_wp2_with fail
            go_roundw
            case rel => exact ⟨j + 1, nn, b, by omega, by go_num, rfl, rfl, HST.out, hnn, hnz, HFIN.out _⟩
            case measure => simp [intOf]; omega
          have hdA : decide ((u.size : Int) < (nm.size : Int)) = false := by simp; omega
          have hdB : decide (u.size < nm.size) = false := by simp; omega
          have hle1 : nm.size ≤ u.size := by omega
          have hle2 : (nm.size : Int) ≤ (u.size : Int) := by omega
          by_cases heq2 : u.data.toList.take nm.size = en.name
          case neg =>
            have hd2 : ((u.extract 0 nm.size).toList != nm.toList) = true := by rw [HEQ.out]; simp [heq2]
            have hd3 : ((u.extract 0 nm.size).toList == nm.toList) = false := by rw [bne_iff_ne] at hd2; simpa using hd2
            have hst := HNO.out _ HHD.out (.inr (.inl heq2))
            have HST := Lib.hid hst; clear hst
            go_wp2_with fail
            go_quiet (fail)
            go_wp2_with fail
            go_roundw
            case rel => exact ⟨j + 1, nn, b, by omega, by go_num, rfl, rfl, HST.out, hnn, hnz, HFIN.out _⟩
            case measure => simp [intOf]; omega
          have hd2 : ((u.extract 0 nm.size).toList != nm.toList) = false := by rw [HEQ.out]; simp [heq2]
          have hd3 : ((u.extract 0 nm.size).toList == nm.toList) = true := by simpa using hd2
          cases lg with
          | false =>
            have hst := HNO.out _ HHD.out (.inr (.inr (.inl ⟨rfl, rfl⟩)))
            have HST := Lib.hid hst; clear hst
            go_wp2_with fail
            go_quiet (fail)
            go_wp2_with fail
            go_roundw
            case rel => exact ⟨j + 1, nn, b, by omega, by go_num, rfl, rfl, HST.out, hnn, hnz, HFIN.out _⟩
            case measure => simp [intOf]; omega
          | true =>
            have hst := HYES.out _ HHD.out h1 heq2 1 (.inl ⟨rfl, rfl, rfl⟩)
            by_cases hlong : nm.size + 1 ≤ nn
            · rw [if_pos hlong] at hst
              have HST := Lib.hid hst; clear hst
              go_wp2_with fail
              go_quiet (fail)
              go_wp2_with fail
              go_roundw
              case rel => exact ⟨j + 1, nn, b, by omega, by go_num, rfl, rfl, HST.out, hnn, hnz, HFIN.out _⟩
              case measure => simp [intOf]; omega
            · rw [if_neg hlong] at hst
              have HST := Lib.hid hst; clear hst
              go_wp2_with fail
              go_quiet (fail)
              go_wp2_with fail
              go_roundw
              case rel => exact ⟨j + 1, nm.size + 1, tx, by omega, by go_num, rfl, by go_num, HST.out, by omega, .inr (by omega), HFIN.out _⟩
              case measure => simp [intOf]; omega
      · have hhd : ((sfx s (1 + nm.size)).head? == some 59) = false := by rw [sfx_end s _ (by omega)]; rfl
        have HHD := Lib.hid hhd; clear hhd
        by_cases h1 : u.size < nm.size
        · have hdA : decide ((u.size : Int) < (nm.size : Int)) = true := by simp; omega
          have hdB : decide (u.size < nm.size) = true := by simp; omega
          have hst := HNO.out _ HHD.out (.inl h1)
          have HST := Lib.hid hst; clear hst
          go_wp2_with fail
          go_quiet (fail)
          go_wp2_with fail
          go_roundw
          case rel => exact ⟨j + 1, nn, b, by omega, by go_num, rfl, rfl, HST.out, hnn, hnz, HFIN.out _⟩
          case measure => simp [intOf]; omega
        have hdA : decide ((u.size : Int) < (nm.size : Int)) = false := by simp; omega
        have hdB : decide (u.size < nm.size) = false := by simp; omega
        have hle1 : nm.size ≤ u.size := by omega
        have hle2 : (nm.size : Int) ≤ (u.size : Int) := by omega
        by_cases heq2 : u.data.toList.take nm.size = en.name
        case neg =>
          have hd2 : ((u.extract 0 nm.size).toList != nm.toList) = true := by rw [HEQ.out]; simp [heq2]
          have hd3 : ((u.extract 0 nm.size).toList == nm.toList) = false := by rw [bne_iff_ne] at hd2; simpa using hd2
          have hst := HNO.out _ HHD.out (.inr (.inl heq2))
          have HST := Lib.hid hst; clear hst
          go_wp2_with fail
          go_quiet (fail)
          go_wp2_with fail
          go_roundw
          case rel => exact ⟨j + 1, nn, b, by omega, by go_num, rfl, rfl, HST.out, hnn, hnz, HFIN.out _⟩
          case measure => simp [intOf]; omega
        have hd2 : ((u.extract 0 nm.size).toList != nm.toList) = false := by rw [HEQ.out]; simp [heq2]
        have hd3 : ((u.extract 0 nm.size).toList == nm.toList) = true := by simpa using hd2
        cases lg with
        | false =>
          have hst := HNO.out _ HHD.out (.inr (.inr (.inl ⟨rfl, rfl⟩)))
          have HST := Lib.hid hst; clear hst
          go_wp2_with fail
          go_quiet (fail)
          go_wp2_with fail
          go_roundw
          case rel => exact ⟨j + 1, nn, b, by omega, by go_num, rfl, rfl, HST.out, hnn, hnz, HFIN.out _⟩
          case measure => simp [intOf]; omega
        | true =>
          have hst := HYES.out _ HHD.out h1 heq2 1 (.inl ⟨rfl, rfl, rfl⟩)
          by_cases hlong : nm.size + 1 ≤ nn
          · rw [if_pos hlong] at hst
            have HST := Lib.hid hst; clear hst
            go_wp2_with fail
            go_quiet (fail)
            go_wp2_with fail
            go_roundw
            case rel => exact ⟨j + 1, nn, b, by omega, by go_num, rfl, rfl, HST.out, hnn, hnz, HFIN.out _⟩
            case measure => simp [intOf]; omega
          · rw [if_neg hlong] at hst
            have HST := Lib.hid hst; clear hst
            go_wp2_with fail
            go_quiet (fail)
            go_wp2_with fail
            go_roundw
            case rel => exact ⟨j + 1, nm.size + 1, tx, by omega, by go_num, rfl, by go_num, HST.out, by omega, .inr (by omega), HFIN.out _⟩
            case measure => simp [intOf]; omega
    · obtain rfl : j = 54 := by omega
      have hfo : entitiesL.foldl (refTry (sfx s 1) (wordL (sfx s 1))) ([], 0) = (b.data.toList, nn) := by rw [← HUL.out, ← hfold]; rfl
      have hR := HRR.out
      rw [hfo] at hR
      clear hfold hEc hEs hfo
      by_cases hz : nn = 0
      · have hO : numOut R = .tuple #[.string ⟨#[]⟩, .int .i64 0, .bool false] := by rw [hR, if_pos (by simp [hz])]; rfl
        clear hR
        have hzb : ((nn : Int) == 0) = true := by simp [hz]
        clear hz hnz
        have HO := Lib.hid hO; clear hO
        go_wp2_with (fail)
        go_ret3
        exact ⟨by rw [HO.out]; rfl, hb⟩
      have hnz2 : 2 ≤ nn := by omega
      have hzb : ((nn : Int) == 0) = false := by simp; omega
      rw [sfx_drop, sfx_drop, show 1 + (nn - 2) = nn - 1 by omega, show 1 + (nn - 1) = nn by omega] at hR
      have hz2 : decide (nn = 0) = false := by simp [hz]
      simp only [hz2, Bool.false_or] at hR
      clear hz hnz hz2
      cases a with
      | false =>
        have hO : numOut R = .tuple #[.string b, .int .i64 (nn : Int), .bool true] := by rw [hR]; simp [numOut]
        clear hR
        have HO := Lib.hid hO; clear hO
        go_wp2_with (fail)
        go_ret3
        exact ⟨by rw [HO.out]; rfl, hb⟩
      | true =>
        have hc := sfx_cons s (nn - 1) (by omega)
        rw [hc] at hR
        simp only [Bool.true_and, List.head?_cons] at hR
        have h9 : ((s[nn - 1].toNat : Int) == 59) = (s[nn - 1] == 59) := u8_beq _ 59
        clear hc
        by_cases hs1 : s[nn - 1] = 59
        · have hO : numOut R = .tuple #[.string b, .int .i64 (nn : Int), .bool true] := by rw [hR]; simp [numOut, hs1]
          have t1 : ((s[nn - 1].toNat : Int) != 59) = false := by simp [bne, hs1]
          clear hR h9 hs1
          have HO := Lib.hid hO; clear hO
          go_wp2_with (fail)
          go_ret3
          exact ⟨by rw [HO.out]; rfl, hb⟩
        have t1 : ((s[nn - 1].toNat : Int) != 59) = true := by simp [bne, h9, hs1]
        by_cases hlt : nn < s.size
        case neg =>
          have hO : numOut R = .tuple #[.string b, .int .i64 (nn : Int), .bool true] := by rw [hR, sfx_end s nn (by omega)]; simp [numOut]
          clear hR h9 hs1
          have HO := Lib.hid hO; clear hO
          go_wp2_with (fail)
          go_ret3
          exact ⟨by rw [HO.out]; rfl, hb⟩
        rw [sfx_cons s nn hlt] at hR
        have h61 : ((s[nn].toNat : Int) == 61) = (s[nn] == 61) := u8_beq _ 61
        by_cases hs2 : s[nn] = 61
        · have hO : numOut R = .tuple #[.string ⟨#[]⟩, .int .i64 0, .bool false] := by rw [hR]; simp [numOut, hs1, hs2]
          have t2 : ((s[nn].toNat : Int) == 61) = true := by rw [h61]; simp [hs2]
          clear hR h9 hs1 h61 hs2
          have HO := Lib.hid hO; clear hO
          go_wp2_with (fail)
          go_ret3
          exact ⟨by rw [HO.out]; rfl, hb⟩
        have t2 : ((s[nn].toNat : Int) == 61) = false := by rw [h61]; simp [hs2]
        have hal := isAlnum_any s[nn] wr
        cases hx : isAlnumB s[nn] with
        | true =>
          have hO : numOut R = .tuple #[.string ⟨#[]⟩, .int .i64 0, .bool false] := by rw [hR]; simp [numOut, hs1, hx]
          rw [hx] at hal
          have HAL := Lib.hid hal; clear hal hR h9 hs1 h61 hs2 hx
          have HO := Lib.hid hO; clear hO
          go_wp2_with (go_at_call 37; refine HAL.out.mono ?_; rintro e w' ⟨rfl, rfl⟩)
          go_ret3
          exact ⟨by rw [HO.out]; rfl, hb⟩
        | false =>
          have hO : numOut R = .tuple #[.string b, .int .i64 (nn : Int), .bool true] := by rw [hR]; simp [numOut, hs1, hs2, hx]
          rw [hx] at hal
          have HAL := Lib.hid hal; clear hal hR h9 hs1 h61 hs2 hx
          have HO := Lib.hid hO; clear hO
          go_wp2_with (go_at_call 37; refine HAL.out.mono ?_; rintro e w' ⟨rfl, rfl⟩)
          go_ret3
          exact ⟨by rw [HO.out]; rfl, hb⟩

theorem reference_any (s : ByteArray) (a : Bool) (w : World) (hs : s.size ≤ 140737488355328) (h2 : 0 < s.size) (h0 : s[0] = 38) :
    Calls Tryz.prog 28 #[.string s, .bool a] w fun e w' => e = .returned (numOut (referenceL (sfx s 1) a)) ∧ Below w.heap.size w w' := by
  by_cases h3 : s.size = 1
  · exact reference_short s a w h3
  by_cases h4 : s[1]'(by omega) = 35
  · exact reference_num s a w hs (by omega) h0 h4
  · exact reference_named s a w hs (by omega) h0 h4
end Go.Proofs.YtopmbledpalmdaaGreatDoor
