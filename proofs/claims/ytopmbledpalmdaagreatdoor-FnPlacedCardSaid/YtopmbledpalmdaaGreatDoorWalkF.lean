/-
  The walk of spec.Known.
-/
import Derived.Test.YtopmbledpalmdaaGreatDoorWalkF0
namespace Go.Proofs.YtopmbledpalmdaaGreatDoor
open Go.RowKit Go.Proofs

theorem wordL_sfx_size (s : ByteArray) (k : Nat) : (s.extract k s.size).size = s.size - k := by simp

set_option maxRecDepth 100000 in
set_option maxHeartbeats 1600000 in
theorem known_any (s : ByteArray) (w : World) (hs : s.size ≤ 140737488355328) :
    Calls Tryz.prog 12 #[.string s] w fun e w' => e = .returned (.bool (knownL s.data.toList)) ∧ Below w.heap.size w w' := by
  obtain ⟨R, hR⟩ : ∃ R, knownL s.data.toList = R := ⟨_, rfl⟩
  rw [hR]
  have HR0 := Lib.hid hR; clear hR
  obtain ⟨B, hB⟩ : ∃ B, w.heap.size = B := ⟨_, rfl⟩
  rw [hB]
  have hb0 := Below.refl B w
  have HB := Lib.hid hB; clear hB
  go_enter Tryz.func12, Tryz.ntmps12
  go_wp2_with fail
  go_loopw [12] (fun i wr => ∃ k : Nat, k ≤ s.size ∧ i = .int .i64 k ∧ knownL (sfx s k) = R ∧ B ≤ wr.heap.size ∧ Below B w wr) (fun i _ => s.size - (intOf i).toNat)
  case atStart => exact ⟨0, Nat.zero_le _, rfl, HR0.out, by rw [HB.out]; exact Nat.le_refl _, hb0⟩
  case round =>
    obtain ⟨k, hk, rfl, hr, hBw, hb⟩ := hrel
    by_cases hlt : k < s.size
    · have hc := sfx_cons s k hlt
      by_cases hamp : s[k] = 38
      · rw [hc, hamp] at hr
        have ht : ((s[k].toNat : Int) != 38) = false := by rw [hamp]; rfl
        have h1 := fun W => word_any (s.extract (k + 1) s.size) W (by simp; omega)
        rw [extract_end] at h1
        obtain ⟨u, hu⟩ : ∃ u, (s.extract (k + 1) s.size).extract 0 (wordL (sfx s (k + 1))).length = u := ⟨_, rfl⟩
        rw [hu] at h1
        have h2 := fun W => entities_any W
        have h3 := fun W => strange_any W
        have HC := Lib.hid hc; clear hc
        have hus : u.size = (wordL (sfx s (k + 1))).length := by
          rw [← hu]
          have h4 : (wordL (sfx s (k + 1))).length ≤ s.size - (k + 1) := by
            have := (List.takeWhile_prefix isAlnumB (l := sfx s (k + 1))).length_le
            rw [sfx_length] at this; exact this
          simp; omega
        have hul : u.data.toList = wordL (sfx s (k + 1)) := by
          rw [← hu, extract_data, Nat.sub_zero, sfx_zero, extract_end]
          exact (List.prefix_iff_eq_take.1 (List.takeWhile_prefix isAlnumB)).symm
        have huz : k + 1 + u.size ≤ s.size := by rw [← hu]; simp; omega
        have HU := Lib.hid hu; clear hu
        have hus' := hus
        have hul' := hul
        clear hus hul
        have HUS := Lib.hid hus'; clear hus'
        have HUL := Lib.hid hul'; clear hul'
        have HR := Lib.hid hr; clear hr
        have H1 := Lib.hid h1; clear h1
        have H2 := Lib.hid h2; clear h2
        have H3 := Lib.hid h3; clear h3
        have HT := Lib.hid hamp; clear hamp
        go_wp2_with fail
        refine (H1.out _).mono ?_
        rintro e w' ⟨rfl, rfl⟩
        go_wp2_with fail
        refine (H2.out _).mono ?_
        rintro e w' ⟨rfl, rfl⟩
        go_wp2_with fail
        obtain ⟨wo, rfl⟩ : ∃ wo : World, wo = wr := ⟨_, rfl⟩
        obtain ⟨E, hE⟩ : ∃ E, wo.heap.size = E := ⟨_, rfl⟩
        have hbE : Below B w (wo.alloc (.cells entCells 46)) := hb.alloc hBw _
        have hEc : (wo.alloc (.cells entCells 46)).heap[E]? = some (.cells entCells 46 (0, 0)) := by rw [← hE]; exact heap_alloc_new wo _
        have hEs : E < (wo.alloc (.cells entCells 46)).heap.size := by rw [← hE]; simp
        have hBE : B ≤ E := by omega
        rw [hE]
        have HE := Lib.hid hE; clear hE
        have HEc := Lib.hid hEc; clear hEc
        have HEs := Lib.hid hEs; clear hEs
        obtain ⟨P, hP⟩ : ∃ P : Ref → Bool, P = (fun e => e.name == wordL (sfx s (k + 1)) && (e.legacy || ((sfx s (k + 1)).drop (wordL (sfx s (k + 1))).length).head? == some 59)) := ⟨_, rfl⟩
        have HP := Lib.hid hP; clear hP
        go_loopw [5, 28] (fun kn i w2 => ∃ j : Nat, j ≤ 54 ∧ i = .int .i64 j ∧ kn = .bool (u.toList.isEmpty || (entitiesL.take j).any P) ∧ w2.heap[E]? = some (.cells entCells 46 (0, 0)) ∧ E < w2.heap.size ∧ Below B w w2) (fun _ i _ => 54 - (intOf i).toNat)
        case atStart => exact ⟨0, by omega, rfl, by simp, HEc.out, HEs.out, hbE⟩
        case round =>
          rename_i w2 _ _ _
          obtain ⟨j, hj, rfl, rfl, hEc, hEs, hb2⟩ := hrel
          by_cases hj54 : j < 54
          · obtain ⟨q, hq⟩ : ∃ q, (u.toList.isEmpty || (entitiesL.take j).any P) = q := ⟨_, rfl⟩
            rw [hq]
            obtain ⟨c0, c1, c2⟩ := ent_cell _ E hEc j hj54
            have hstep := ent_any P j hj54
            obtain ⟨e, he⟩ : ∃ e, entitiesL[j]'(by rw [ent_len]; exact hj54) = e := ⟨_, rfl⟩
            rw [he] at c0 c1 c2 hstep
            obtain ⟨nm, hnm⟩ : ∃ nm : ByteArray, ⟨e.name.toArray⟩ = nm := ⟨_, rfl⟩
            obtain ⟨tx, htx⟩ : ∃ tx : ByteArray, ⟨e.text.toArray⟩ = tx := ⟨_, rfl⟩
            obtain ⟨lg, hlg⟩ : ∃ lg, e.legacy = lg := ⟨_, rfl⟩
            rw [hnm] at c0; rw [htx] at c1; rw [hlg] at c2
            have hnext : (u.toList.isEmpty || (entitiesL.take (j + 1)).any P) = (q || P e) := by rw [hstep, ← Bool.or_assoc, hq]
            have hPe : P e = ((nm.toList == u.toList) && (lg || ((sfx s (k + 1 + u.size)).head? == some 59))) := by
              simp only [HP.out, ← hnm, ← hlg, Lib.toList_data, HUL.out, HUS.out, ← sfx_drop s (k + 1)]
            have HN := Lib.hid hnext; clear hnext
            have HPe := Lib.hid hPe; clear hPe
            clear hstep he hq hnm htx hlg
            have HEc2 := Lib.hid hEc; clear hEc
            have hfin : ∀ (o : Obj) (W : World), W.heap[E]? = some (.cells entCells 46 (0, 0)) → E < W.heap.size → Below B w W → B ≤ W.heap.size → (W.alloc o).heap[E]? = some (.cells entCells 46 (0, 0)) ∧ E < (W.alloc o).heap.size ∧ Below B w (W.alloc o) := fun o W h1 h2 h3 h4 =>
              ⟨(Below.heap_alloc W o E h2).trans h1, by simp; omega, h3.alloc h4 o⟩
            have HFIN := Lib.hid hfin; clear hfin
            cases q with
            | true =>
              go_wp2
              go_roundw
              case rel => exact ⟨j + 1, by omega, by go_num, by rw [HN.out]; rfl, HFIN.out _ _ HEc2.out hEs hb2 (by omega)⟩
              case measure => simp [intOf]; omega
            | false =>
              have hpe := HPe.out
              by_cases hne : nm.toList = u.toList
              · cases lg with
                | true =>
                  have hP1 : P e = true := by rw [hpe]; simp [hne]
                  have HP1 := Lib.hid hP1; clear hP1 hpe
                  go_wp2
                  go_roundw
                  case rel => exact ⟨j + 1, by omega, by go_num, by rw [HN.out, HP1.out]; rfl, HFIN.out _ _ HEc2.out hEs hb2 (by omega)⟩
                  case measure => simp [intOf]; omega
                | false =>
                  by_cases hn : k + 1 + u.size < s.size
                  · have hP1 : P e = ((s[k + 1 + u.size].toNat : Int) == 59) := by
                      have h9 : ((s[k + 1 + u.size].toNat : Int) == 59) = (s[k + 1 + u.size] == 59) := u8_beq _ 59
                      rw [hpe, sfx_cons s _ hn, h9]; simp [hne]
                    have HP1 := Lib.hid hP1; clear hP1 hpe
                    go_wp2
                    go_roundw
                    case rel => exact ⟨j + 1, by omega, by go_num, by rw [HN.out, HP1.out]; rfl, HFIN.out _ _ HEc2.out hEs hb2 (by omega)⟩
                    case measure => simp [intOf]; omega
                  · have hP1 : P e = false := by rw [hpe, sfx_end s _ (by omega)]; simp
                    have HP1 := Lib.hid hP1; clear hP1 hpe
                    go_wp2
                    go_roundw
                    case rel => exact ⟨j + 1, by omega, by go_num, by rw [HN.out, HP1.out]; rfl, HFIN.out _ _ HEc2.out hEs hb2 (by omega)⟩
                    case measure => simp [intOf]; omega
              · have hP1 : P e = false := by rw [hpe]; simp [hne]
                have HP1 := Lib.hid hP1; clear hP1 hpe
                go_wp2
                go_roundw
                case rel => exact ⟨j + 1, by omega, by go_num, by rw [HN.out, HP1.out]; rfl, HFIN.out _ _ HEc2.out hEs hb2 (by omega)⟩
                case measure => simp [intOf]; omega
          · obtain rfl : j = 54 := by omega
            have hq : (u.toList.isEmpty || (entitiesL.take 54).any P) = (u.toList.isEmpty || entitiesL.any P) := rfl
            obtain ⟨q, hq2⟩ : ∃ q, (u.toList.isEmpty || entitiesL.any P) = q := ⟨_, rfl⟩
            rw [hq, hq2]
            have HQ := Lib.hid hq2; clear hq2 hq hEc
            have hBw2 : B ≤ wr.heap.size := by omega
            clear hEs
            go_wp2_with fail
            refine (H3.out _).mono ?_
            rintro e w' ⟨rfl, rfl⟩
            go_wp2_with fail
            obtain ⟨wq, rfl⟩ : ∃ wq : World, wq = wr := ⟨_, rfl⟩
            obtain ⟨F, hF⟩ : ∃ F, wq.heap.size = F := ⟨_, rfl⟩
            have hbF : Below B w (wq.alloc (.cells strangeCells 9)) := hb2.alloc hBw2 _
            have hFc : (wq.alloc (.cells strangeCells 9)).heap[F]? = some (.cells strangeCells 9 (0, 0)) := by rw [← hF]; exact heap_alloc_new wq _
            have hFs : F < (wq.alloc (.cells strangeCells 9)).heap.size := by rw [← hF]; simp
            have hBF : B ≤ F := by omega
            rw [hF]
            have HF := Lib.hid hF; clear hF
            have HFc := Lib.hid hFc; clear hFc
            have HFs := Lib.hid hFs; clear hFs
            go_loopw [5, 66] (fun kn i w3 => ∃ m : Nat, m ≤ 18 ∧ i = .int .i64 m ∧ kn = .bool (q || (strangeL.take m).any (fun x => x == wordL (sfx s (k + 1)))) ∧ w3.heap[F]? = some (.cells strangeCells 9 (0, 0)) ∧ F < w3.heap.size ∧ Below B w w3) (fun _ i _ => 18 - (intOf i).toNat)
            case atStart => exact ⟨0, by omega, rfl, by simp, HFc.out, HFs.out, hbF⟩
            case round =>
              obtain ⟨m, hm, rfl, rfl, hFc, hFs, hb3⟩ := hrel
              by_cases hm18 : m < 18
              · have c0 := strange_cell _ F hFc m hm18
                have hstep := strange_anyL (fun x => x == wordL (sfx s (k + 1))) m hm18
                obtain ⟨x, hx⟩ : ∃ x, strangeL[m]'(by rw [strange_len]; exact hm18) = x := ⟨_, rfl⟩
                rw [hx] at c0 hstep
                obtain ⟨xs, hxs⟩ : ∃ xs : ByteArray, ⟨x.toArray⟩ = xs := ⟨_, rfl⟩
                rw [hxs] at c0
                have hxe : (x == wordL (sfx s (k + 1))) = (xs.toList == u.toList) := by
                  simp only [← hxs, Lib.toList_data, HUL.out]
                obtain ⟨q2, hq2⟩ : ∃ q2, (q || (strangeL.take m).any (fun x => x == wordL (sfx s (k + 1)))) = q2 := ⟨_, rfl⟩
                have hnext : (q || (strangeL.take (m + 1)).any (fun x => x == wordL (sfx s (k + 1)))) = (q2 || (xs.toList == u.toList)) := by
                  rw [hstep, ← Bool.or_assoc, hq2, ← hxe]
                rw [hq2]
                have HN := Lib.hid hnext; clear hnext
                clear hstep hxe hq2 hx hxs
                have HFc2 := Lib.hid hFc; clear hFc
                cases q2 with
                | true =>
                  go_wp2
                  go_roundw
                  case rel => exact ⟨m + 1, by omega, by go_num, by rw [HN.out]; rfl, HFc2.out, hFs, hb3⟩
                  case measure => simp [intOf]; omega
                | false =>
                  cases hy : (xs.toList == u.toList) with
                  | true =>
                    rw [hy] at HN
                    go_wp2
                    go_roundw
                    case rel => exact ⟨m + 1, by omega, by go_num, by rw [HN.out]; rfl, HFc2.out, hFs, hb3⟩
                    case measure => simp [intOf]; omega
                  | false =>
                    rw [hy] at HN
                    go_wp2
                    go_roundw
                    case rel => exact ⟨m + 1, by omega, by go_num, by rw [HN.out]; rfl, HFc2.out, hFs, hb3⟩
                    case measure => simp [intOf]; omega
              · obtain rfl : m = 18 := by omega
                have hkn : knownAt (sfx s (k + 1)) = (q || (strangeL.take 18).any (fun x => x == wordL (sfx s (k + 1)))) := by
                  rw [← HQ.out, Lib.toList_data, HUL.out, HP.out]; rfl
                obtain ⟨q2, hq2⟩ : ∃ q2, (q || (strangeL.take 18).any (fun x => x == wordL (sfx s (k + 1)))) = q2 := ⟨_, rfl⟩
                rw [hq2] at hkn ⊢
                have hR2 : (if q2 then knownL (sfx s (k + 1)) else false) = R := by
                  have := HR.out
                  simp only [knownL, hkn] at this
                  exact this
                clear hq2 hkn hFc
                cases q2 with
                | true =>
                  have HR2 := Lib.hid hR2; clear hR2
                  go_wp2
                  go_roundw
                  case rel => exact ⟨k + 1, by omega, by go_num, by simpa using HR2.out, by omega, hb3⟩
                  case measure => simp [intOf]; omega
                | false =>
                  have hR3 : false = R := by simpa using hR2
                  clear hR2
                  subst hR3
                  go_wp2
                  go_ret
                  exact ⟨rfl, hb3⟩
      · have hr2 : knownL (sfx s (k + 1)) = R := by
          rw [hc, knownL] at hr
          have : (s[k] == 38) = false := by simp [hamp]
          rw [this] at hr
          simpa using hr
        have ht : ((s[k].toNat : Int) != 38) = true := by
          rw [bne_iff_ne]; intro h; exact hamp (by rw [← UInt8.toNat_inj]; simpa using (by exact_mod_cast h : s[k].toNat = 38))
        have HR := Lib.hid hr2; clear hr2 hr hc
        have HT := Lib.hid hamp; clear hamp
        go_wp2
        go_roundw
        case rel => exact ⟨k + 1, by omega, by go_num, HR.out, hBw, hb⟩
        case measure => simp [intOf]; omega
    · have hc := sfx_end s k (by omega)
      rw [hc] at hr
      have hr2 : true = R := hr
      subst hr2
      clear hr hc
      go_wp2
      go_ret
      exact ⟨rfl, hb⟩
end Go.Proofs.YtopmbledpalmdaaGreatDoor
