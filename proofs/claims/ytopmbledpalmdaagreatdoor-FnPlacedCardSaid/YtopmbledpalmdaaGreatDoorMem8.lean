/-
  The walk of spec.Snippet.
-/
import Derived.Test.YtopmbledpalmdaaGreatDoorSnip
namespace Go.Proofs.YtopmbledpalmdaaGreatDoor
open Go.RowKit Go.Proofs

def snRel (s : ByteArray) (base X : Nat) (R : List Tok) (W : World) (wr : World) : Prop :=
  ∃ (k : Nat) (ts : List (Tok × Value)), k ≤ s.size ∧ SM wr base X s k ts ∧ SnipL (sfx s k) (ts.map Prod.fst) R ∧ ts.length ≤ 3 * k ∧ Below base W wr

theorem SM.pAt {W : World} {base X : Nat} {s : ByteArray} {p : Nat} {ts : List (Tok × Value)} (h : SM W base X s p ts) : pAt W X = p := by
  obtain ⟨ov, hx⟩ := h.sx
  exact hx.pAt

set_option maxRecDepth 1000000 in
set_option maxHeartbeats 3200000 in
theorem snippet_any (s : ByteArray) (R : List Tok) (W : World) (hs : s.size ≤ 100000000000) (hv : validL s.data.toList = true) (hk : knownL s.data.toList = true) (hh : hasAnyL s.data.toList [0, 13] = false) (h : SnipL s.data.toList [] R) :
    Calls Tryz.prog 5 #[.string s] W fun e w' => ∃ (ov : Value) (ts : List (Tok × Value)), e = .returned (.tuple #[ov, .bool true]) ∧ ts.map Prod.fst = R ∧ w'.ownsRow W.heap.size 29 3 ov ts.length (tcells ts) ∧ (∀ x ∈ ts, AttrIs w' W.heap.size x) ∧ Below W.heap.size W w' := by
  have h1 := fun W => valid_any s W (by omega)
  rw [hv] at h1
  have h2 := fun W => known_any s W (by omega)
  rw [hk] at h2
  have h3 := fun W => hasAny_any s ⟨#[0, 13]⟩ W (by omega) (by show 2 ≤ _; omega)
  rw [show (⟨#[0, 13]⟩ : ByteArray).data.toList = [0, 13] from rfl, hh] at h3
  have H1 := Lib.hid h1; clear h1 hv
  have H2 := Lib.hid h2; clear h2 hk
  have H3 := Lib.hid h3; clear h3 hh
  have H := Lib.hid h; clear h
  go_enter Tryz.func5, Tryz.ntmps5
  go_wp2_with fail
  refine (H1.out _).mono ?_
  rintro e w1 ⟨rfl, rfl⟩
  go_wp2_with fail
  refine (H2.out _).mono ?_
  rintro e w1 ⟨rfl, hb1⟩
  go_wp2_with fail
  refine (H3.out _).mono ?_
  rintro e w2 ⟨rfl, rfl⟩
  go_wp2_with fail
  obtain ⟨X, hX⟩ : ∃ X, w1.heap.size = X := ⟨_, rfl⟩
  rw [hX]
  have hWX : W.heap.size ≤ X := by have := hb1.size; omega
  have hx0 : SX (w1.alloc (.cells #[.string s, .int .i64 0, .slice none 0 0, .bool false] 35)) X s 0 (.slice none 0 0) false := by
    rw [← hX]; exact heap_alloc_new _ _
  have HX0 := Lib.hid hx0; clear hx0 hX
  go_loopw [] (fun wr => snRel s W.heap.size X R W wr) (fun wr => s.size - pAt wr X)
  case atStart =>
    refine ⟨0, [], Nat.zero_le _, ⟨hWX, _, HX0.out, World.ownsRow_nil _ _ _ _, fun x hx => by cases hx⟩, by rw [sfx_zero]; exact H.out, Nat.zero_le _, hb1.alloc hb1.size _⟩
  case round =>
    obtain ⟨k, ts, hk, hm, hsn, htl, hb⟩ := hrel
    have hlt0 := hm.lt
    have hlt0 := hm.lt
    have hlt0 := hm.lt
    have hlt0 := hm.lt
    have hlt0 := hm.lt
    have hlt0 := hm.lt
    have hlt0 := hm.lt
    have hlt0 := hm.lt
    have hlt0 := hm.lt
    obtain ⟨ov, hx⟩ := hm.sx
    have c1 := hx.c1
    have c3 := hx.c3
    have hpa := hx.pAt
    have HP := Lib.hid hpa; clear hpa hx
    obtain ⟨l, hl⟩ : ∃ l, sfx s k = l := ⟨_, rfl⟩
    obtain ⟨tk, htk⟩ : ∃ tk, ts.map Prod.fst = tk := ⟨_, rfl⟩
    rw [hl, htk] at hsn
    cases hsn with
    | done =>
      have hks : k = s.size := by
        have := congrArg List.length hl
        rw [sfx_length] at this
        simp at this; omega
      have d1 : decide ((k : Int) < (s.size : Int)) = false := by simp; omega
      have d2 : decide (k < s.size) = false := by simp; omega
      obtain ⟨hbx, ov, hx, ho, ha⟩ := hm
      have c2 := hx.c2
      have HX := Lib.hid hx; clear hx
      have HO := Lib.hid ho; clear ho
      have HA := Lib.hid ha; clear ha
      have HTK := Lib.hid htk; clear htk hl hks
      go_wp2_with fail
      go_quiet (fail)
      go_wp2_with fail
      go_ret2
      exact ⟨ov, ts, rfl, HTK.out, HO.out, HA.out, ⟨hb.os, hb.tape, hb.output, hb.size, hb.block⟩⟩
    | start h hc ht ha hn hr =>
      rename_i r r2 c ts1' at_
      obtain ⟨K0, hK0⟩ : ∃ K0, k + findL [60] (sfx s k) = K0 := ⟨_, rfl⟩
      rw [← hl, sfx_drop, hK0] at h
      have hlt : K0 + 1 < s.size := by
        have := congrArg List.length h
        rw [sfx_length] at this
        simp at this; omega
      rw [sfx_cons s K0 (by omega), sfx_cons s (K0 + 1) (by omega)] at h
      obtain ⟨hc60, h⟩ := List.cons.inj h
      obtain ⟨hcc, hrr⟩ := List.cons.inj h
      rw [← hcc] at hc
      have hsf : sfx s (K0 + 1) = c :: r := by rw [sfx_cons s (K0 + 1) hlt, hcc, hrr]
      rw [← hsf] at ha hr hn
      obtain ⟨m, hm1, hm2, hm3⟩ := ha.suffix
      rw [sfx_drop, sfx_length] at hm2
      have hwl := wordL_le (sfx s (K0 + 1))
      rw [sfx_length] at hwl
      obtain ⟨K1, hK1⟩ : ∃ K1, K0 + 1 + (wordL (sfx s (K0 + 1))).length + m = K1 := ⟨_, rfl⟩
      rw [sfx_drop, sfx_drop, hK1] at hm3
      subst hm3
      have hK1s : K1 ≤ s.size := by omega
      obtain ⟨ts1, hts1, hat1, hlen1⟩ := addTok_pair (by rw [htk]; exact ht)
      have hk0s : K0 ≤ s.size := by omega
      have hcall1 := fun W => find_any s ⟨#[60]⟩ k K0 W (by omega) (by show 1 ≤ _; omega) (by show 0 < 1; omega) hk hK0
      have hcall2 := fun W => unescaped_any (s.extract k K0) false W (by simp; omega)
      rw [extract_data, show K0 - k = findL [60] l by rw [← hl]; omega, hl] at hcall2
      obtain ⟨u, hu⟩ : ∃ u, unescL false (l.take (findL [60] l)) = u := ⟨_, rfl⟩
      rw [hu] at hcall2 hat1
      have hcall3 := fun W' hm' => xtext_any s u W.heap.size X k ts ts1 W' hm' (by omega) hat1
      have hcall4 := fun W => isAlpha_any s[K0 + 1] W
      rw [hc] at hcall4
      have hcall5 := fun W' hm' => xtag_any s W.heap.size X (K0 + 1) K1 2 at_ ts1 W' hm' (by omega) (by omega) hK1s (by omega) (by decide) ha
      have H1 := Lib.hid hcall1; clear hcall1
      have H2 := Lib.hid hcall2; clear hcall2
      have H3 := Lib.hid hcall3; clear hcall3
      have H4 := Lib.hid hcall4; clear hcall4
      have H5 := Lib.hid hcall5; clear hcall5
      have HR := Lib.hid hr; clear hr
      have HM := Lib.hid hm; clear hm
      have HB := Lib.hid hb; clear hb
      have HTS := Lib.hid hts1; clear hts1
      have hkK1 : k < K1 := by omega
      have i1 : (0 : Int) ≤ (k : Int) := by omega
      have i2 : (k : Int) ≤ (K0 : Int) := by omega
      have i3 : (K0 : Int) ≤ (s.size : Int) := by omega
      have i4 : ((k : Int)).toNat = k := by omega
      have d1 : decide ((k : Int) < (s.size : Int)) = true := by simp; omega
      have d2 : decide (k < s.size) = true := by simp; omega
      have d3 : ((K0 : Int) == (s.size : Int)) = false := by simp; omega
      have wr1 : IntKind.i64.wrap ((K0 : Int) + 1) = (K0 : Int) + 1 := IntWalk.i64_in _ (by omega)
      have wr2 : IntKind.i64.wrap ((K0 : Int) + 2) = (K0 : Int) + 2 := IntWalk.i64_in _ (by omega)
      have j1 : ((K0 : Int) + 1).toNat = K0 + 1 := by omega
      have j2 : ((K0 : Int) + 2).toNat = K0 + 2 := by omega
      have j3 : (K0 : Int) + 1 < (s.size : Int) := by omega
      obtain ⟨nm0, hnm0⟩ : ∃ nm0 : ByteArray, ⟨(lowL (wordL (sfx s (K0 + 1)))).toArray⟩ = nm0 := ⟨_, rfl⟩
      have hname : (nm0.toList == [116, 105, 116, 108, 101]) = false := by
        rw [← hnm0, ByteArray.toList_eq]
        show (lowL (wordL (sfx s (K0 + 1))) == titleL) = false
        simp [hn]
      have j4 : isAlphaB s[K0 + 1] = true := hc
      have HNM := Lib.hid hnm0; clear hnm0 hn
      clear h hc ht ha hK0 hc60 hcc hrr hsf hm1 hm2 hK1 hat1 hwl hl htk hu
      go_wp2_with fail
      refine (H1.out _).mono ?_
      rintro e w2 ⟨rfl, rfl⟩
      go_wp2_with fail
      refine (H2.out _).mono ?_
      rintro e w3 ⟨rfl, hb3⟩
      have HM3 := Lib.hid (HM.out.below hb3)
      have HB3 := Lib.hid (HB.out.trans (hb3.mono (Nat.le_of_lt (Nat.lt_of_le_of_lt hlt0.1 hlt0.2))))
      clear c1 c3
      go_wp2_with fail
      refine (H3.out _ HM3.out).mono ?_
      rintro e w4 ⟨rfl, hm4, hb4⟩
      have hl4 := hm4.lt
      have hb4 := HB3.out.trans hb4
      have hb5 := hb4.trans (set_below w4 hl4.1 hl4.2 1 (.int .i64 (K0 : Int)))
      have hm5 := hm4.to K0 _ rfl
      obtain ⟨ov4, hx4⟩ := hm4.sx
      have z41 := hx4.fz 1
      have c41 := hx4.c1
      clear hx4
      obtain ⟨ov5, hx5⟩ := hm5.sx
      have HM5 := Lib.hid hm5; clear hm5 hm4
      have HB5 := Lib.hid hb5; clear hb5 hb4
      go_upto_region 9 with fail
      generalize w4.setCell ⟨X, 1, none⟩ (.int .i64 (K0 : Int)) = w5 at HM5 HB5 hx5
      clear z41 c41
      have c5 := hx5.c1
      have z5 := hx5.fz 1
      clear hx5
      have HM6 := Lib.hid (HM5.out.to (K0 + 1) ((K0 : Int) + 1) (by omega))
      have hl5 := HM5.out.lt
      have HB6 := Lib.hid (HB5.out.trans (set_below w5 hl5.1 hl5.2 1 (.int .i64 ((K0 : Int) + 1))))
      go_wp2_with fail
      refine (H4.out _).mono ?_
      rintro e w6 ⟨rfl, rfl⟩
      go_wp2_with fail
      refine (H5.out _ HM6.out).mono ?_
      rintro e w7 ⟨rfl, ⟨av, hm7⟩, hb7⟩
      have hm7c := hm7
      obtain ⟨hbx7, ov7, hx7, ho7, ha7⟩ := hm7c
      have hlen7 : (ts1 ++ [((⟨2, lowL (wordL (sfx s (K0 + 1))), at_⟩ : Tok), av)]).length = ts1.length + 1 := by simp
      obtain ⟨g, cap, hov7, _, _⟩ := ho7.form (by omega)
      have hcell : w7.cell? ⟨g, ts1.length * 3 + 1, none⟩ = some (.string nm0) := by
        rw [hov7] at ho7
        rw [ho7.cellAt _ (by omega), (tcells_at (ts1 ++ [((⟨2, lowL (wordL (sfx s (K0 + 1))), at_⟩ : Tok), av)]) ts1.length ((⟨2, lowL (wordL (sfx s (K0 + 1))), at_⟩ : Tok), av) (by simp)).2.1]
        show some (Value.string ⟨(lowL (wordL (sfx s (K0 + 1)))).toArray⟩) = _
        rw [HNM.out]
      have c2 := hx7.c2
      rw [hov7, hlen7] at c2
      have c3 := hx7.c3
      obtain ⟨n1, hn1⟩ : ∃ n1, ts1.length = n1 := ⟨_, rfl⟩
      have hn1b : n1 ≤ 1000000000000 := by omega
      rw [hn1] at hcell c2
      have hwn : IntKind.i64.wrap (((n1 + 1 : Nat) : Int) - 1) = (n1 : Int) := by rw [IntWalk.i64_in _ (by omega)]; omega
      have hn1l : (n1 : Int) < ((n1 + 1 : Nat) : Int) := by omega
      have HM7 := Lib.hid hm7; clear hm7
      have HB7 := Lib.hid (HB6.out.trans hb7); clear hb7
      clear hx7 ho7 ha7 hlen7 hn1 c5 z5
      go_wp2_with fail
      refine ⟨?rel, ?measure⟩
      case rel =>
        refine ⟨K1, _, hK1s, HM7.out, ?_, ?_, HB7.out⟩
        · rw [List.map_append, HTS.out]; exact HR.out
        · rw [List.length_append]; simp only [List.length_cons, List.length_nil]; omega
      case measure => rw [HM7.out.pAt, HP.out]; omega
    | title h hc ht ha hn ht2 h62 hr =>
      rename_i r r2 q c ts1' tsx2 at_
      obtain ⟨K0, hK0⟩ : ∃ K0, k + findL [60] (sfx s k) = K0 := ⟨_, rfl⟩
      rw [← hl, sfx_drop, hK0] at h
      have hlt : K0 + 1 < s.size := by
        have := congrArg List.length h
        rw [sfx_length] at this
        simp at this; omega
      rw [sfx_cons s K0 (by omega), sfx_cons s (K0 + 1) (by omega)] at h
      obtain ⟨hc60, h⟩ := List.cons.inj h
      obtain ⟨hcc, hrr⟩ := List.cons.inj h
      rw [← hcc] at hc
      have hsf : sfx s (K0 + 1) = c :: r := by rw [sfx_cons s (K0 + 1) hlt, hcc, hrr]
      rw [← hsf] at ha hn
      obtain ⟨m, hm1, hm2, hm3⟩ := ha.suffix
      rw [sfx_drop, sfx_length] at hm2
      have hwl := wordL_le (sfx s (K0 + 1))
      rw [sfx_length] at hwl
      obtain ⟨K1, hK1⟩ : ∃ K1, K0 + 1 + (wordL (sfx s (K0 + 1))).length + m = K1 := ⟨_, rfl⟩
      rw [sfx_drop, sfx_drop, hK1] at hm3
      subst hm3
      have hK1s : K1 ≤ s.size := by omega
      obtain ⟨ts1, hts1, hat1, hlen1⟩ := addTok_pair (by rw [htk]; exact ht)
      have hk0s : K0 ≤ s.size := by omega
      have hcall1 := fun W => find_any s ⟨#[60]⟩ k K0 W (by omega) (by show 1 ≤ _; omega) (by show 0 < 1; omega) hk hK0
      have hcall2 := fun W => unescaped_any (s.extract k K0) false W (by simp; omega)
      rw [extract_data, show K0 - k = findL [60] l by rw [← hl]; omega, hl] at hcall2
      obtain ⟨u, hu⟩ : ∃ u, unescL false (l.take (findL [60] l)) = u := ⟨_, rfl⟩
      rw [hu] at hcall2 hat1
      have hcall3 := fun W' hm' => xtext_any s u W.heap.size X k ts ts1 W' hm' (by omega) hat1
      have hcall4 := fun W => isAlpha_any s[K0 + 1] W
      rw [hc] at hcall4
      have hcall5 := fun W' hm' => xtag_any s W.heap.size X (K0 + 1) K1 2 at_ ts1 W' hm' (by omega) (by omega) hK1s (by omega) (by decide) ha
      rw [sfx_drop] at hr
      have hf2 : findL ttl (lowL (sfx s K1)) + 7 < (sfx s K1).length := by
        have := congrArg List.length h62
        rw [List.length_drop] at this
        simp only [List.length_cons] at this; omega
      rw [sfx_length] at hf2
      rw [sfx_drop] at h62
      obtain ⟨K2, hK2⟩ : ∃ K2, K1 + findL ttl (lowL (sfx s K1)) = K2 := ⟨_, rfl⟩
      rw [hK2] at hr
      have hb7x : K2 + 7 < s.size := by omega
      have hK12 : K1 ≤ K2 := by omega
      rw [← Nat.add_assoc, hK2, sfx_cons s (K2 + 7) hb7x] at h62
      have hc62 := (List.cons.inj h62).1
      have hts1' : (ts1 ++ [((⟨2, lowL (wordL (sfx s (K0 + 1))), at_⟩ : Tok), Value.slice none 0 0)]).map Prod.fst = ts1' ++ [⟨2, titleL, at_⟩] := by
        rw [List.map_append, hts1, hn]; rfl
      have hall : ∀ av, ∃ ts2 : List (Tok × Value), ts2.map Prod.fst = tsx2 ∧ addText (ts1 ++ [((⟨2, lowL (wordL (sfx s (K0 + 1))), at_⟩ : Tok), av)]) (unescL false ((sfx s K1).take (findL ttl (lowL (sfx s K1))))) ts2 ∧ ts2.length ≤ ts1.length + 2 := by
        intro av
        obtain ⟨ts2, h1, h2, h3⟩ := addTok_pair (ts := ts1 ++ [((⟨2, lowL (wordL (sfx s (K0 + 1))), at_⟩ : Tok), av)]) (by rw [List.map_append, hts1, hn]; exact ht2)
        exact ⟨ts2, h1, h2, by simpa using h3⟩
      clear hts1'
      have HALL := Lib.hid hall; clear hall ht2 h62
      have HK2 := Lib.hid hK2; clear hK2
      have HC62 := Lib.hid hc62; clear hc62
      have H1 := Lib.hid hcall1; clear hcall1
      have H2 := Lib.hid hcall2; clear hcall2
      have H3 := Lib.hid hcall3; clear hcall3
      have H4 := Lib.hid hcall4; clear hcall4
      have H5 := Lib.hid hcall5; clear hcall5
      have HR := Lib.hid hr; clear hr
      have HM := Lib.hid hm; clear hm
      have HB := Lib.hid hb; clear hb
      have HTS := Lib.hid hts1; clear hts1
      have hkK1 : k < K1 := by omega
      have i1 : (0 : Int) ≤ (k : Int) := by omega
      have i2 : (k : Int) ≤ (K0 : Int) := by omega
      have i3 : (K0 : Int) ≤ (s.size : Int) := by omega
      have i4 : ((k : Int)).toNat = k := by omega
      have d1 : decide ((k : Int) < (s.size : Int)) = true := by simp; omega
      have d2 : decide (k < s.size) = true := by simp; omega
      have d3 : ((K0 : Int) == (s.size : Int)) = false := by simp; omega
      have wr1 : IntKind.i64.wrap ((K0 : Int) + 1) = (K0 : Int) + 1 := IntWalk.i64_in _ (by omega)
      have wr2 : IntKind.i64.wrap ((K0 : Int) + 2) = (K0 : Int) + 2 := IntWalk.i64_in _ (by omega)
      have j1 : ((K0 : Int) + 1).toNat = K0 + 1 := by omega
      have j2 : ((K0 : Int) + 2).toNat = K0 + 2 := by omega
      have j3 : (K0 : Int) + 1 < (s.size : Int) := by omega
      obtain ⟨nm0, hnm0⟩ : ∃ nm0 : ByteArray, ⟨(lowL (wordL (sfx s (K0 + 1)))).toArray⟩ = nm0 := ⟨_, rfl⟩
      have hname : (nm0.toList == [116, 105, 116, 108, 101]) = true := by
        rw [← hnm0, ByteArray.toList_eq]
        show (lowL (wordL (sfx s (K0 + 1))) == titleL) = true
        simp [hn]
      have j4 : isAlphaB s[K0 + 1] = true := hc
      have HNM := Lib.hid hnm0; clear hnm0 hn
      clear h hc ht ha hK0 hc60 hcc hrr hsf hm1 hm2 hK1 hat1 hwl hl htk hu
      go_wp2_with fail
      refine (H1.out _).mono ?_
      rintro e w2 ⟨rfl, rfl⟩
      go_wp2_with fail
      refine (H2.out _).mono ?_
      rintro e w3 ⟨rfl, hb3⟩
      have HM3 := Lib.hid (HM.out.below hb3)
      have HB3 := Lib.hid (HB.out.trans (hb3.mono (Nat.le_of_lt (Nat.lt_of_le_of_lt hlt0.1 hlt0.2))))
      clear c1 c3
      go_wp2_with fail
      refine (H3.out _ HM3.out).mono ?_
      rintro e w4 ⟨rfl, hm4, hb4⟩
      have hl4 := hm4.lt
      have hb4 := HB3.out.trans hb4
      have hb5 := hb4.trans (set_below w4 hl4.1 hl4.2 1 (.int .i64 (K0 : Int)))
      have hm5 := hm4.to K0 _ rfl
      obtain ⟨ov4, hx4⟩ := hm4.sx
      have z41 := hx4.fz 1
      have c41 := hx4.c1
      clear hx4
      obtain ⟨ov5, hx5⟩ := hm5.sx
      have HM5 := Lib.hid hm5; clear hm5 hm4
      have HB5 := Lib.hid hb5; clear hb5 hb4
      go_upto_region 9 with fail
      generalize w4.setCell ⟨X, 1, none⟩ (.int .i64 (K0 : Int)) = w5 at HM5 HB5 hx5
      clear z41 c41
      have c5 := hx5.c1
      have z5 := hx5.fz 1
      clear hx5
      have HM6 := Lib.hid (HM5.out.to (K0 + 1) ((K0 : Int) + 1) (by omega))
      have hl5 := HM5.out.lt
      have HB6 := Lib.hid (HB5.out.trans (set_below w5 hl5.1 hl5.2 1 (.int .i64 ((K0 : Int) + 1))))
      go_wp2_with fail
      refine (H4.out _).mono ?_
      rintro e w6 ⟨rfl, rfl⟩
      go_wp2_with fail
      refine (H5.out _ HM6.out).mono ?_
      rintro e w7 ⟨rfl, ⟨av, hm7⟩, hb7⟩
      have hm7c := hm7
      obtain ⟨hbx7, ov7, hx7, ho7, ha7⟩ := hm7c
      have hlen7 : (ts1 ++ [((⟨2, lowL (wordL (sfx s (K0 + 1))), at_⟩ : Tok), av)]).length = ts1.length + 1 := by simp
      obtain ⟨g, cap, hov7, _, _⟩ := ho7.form (by omega)
      have hcell : w7.cell? ⟨g, ts1.length * 3 + 1, none⟩ = some (.string nm0) := by
        rw [hov7] at ho7
        rw [ho7.cellAt _ (by omega), (tcells_at (ts1 ++ [((⟨2, lowL (wordL (sfx s (K0 + 1))), at_⟩ : Tok), av)]) ts1.length ((⟨2, lowL (wordL (sfx s (K0 + 1))), at_⟩ : Tok), av) (by simp)).2.1]
        show some (Value.string ⟨(lowL (wordL (sfx s (K0 + 1)))).toArray⟩) = _
        rw [HNM.out]
      have c2 := hx7.c2
      rw [hov7, hlen7] at c2
      have c3 := hx7.c3
      obtain ⟨n1, hn1⟩ : ∃ n1, ts1.length = n1 := ⟨_, rfl⟩
      have hn1b : n1 ≤ 1000000000000 := by omega
      rw [hn1] at hcell c2
      have hwn : IntKind.i64.wrap (((n1 + 1 : Nat) : Int) - 1) = (n1 : Int) := by rw [IntWalk.i64_in _ (by omega)]; omega
      have hn1l : (n1 : Int) < ((n1 + 1 : Nat) : Int) := by omega
      have HM7 := Lib.hid hm7; clear hm7
      have HB7 := Lib.hid (HB6.out.trans hb7); clear hb7
      clear hx7 ho7 ha7 hlen7 hn1 c5 z5
      obtain ⟨ts2, hts2, hat2, hlen2⟩ := HALL.out av
      rw [show findL ttl (lowL (sfx s K1)) = K2 - K1 by have := HK2.out; omega] at hat2
      have h6 := fun W' hm' => xtitle_any s W.heap.size X K1 K2 _ ts2 W' hm' (by omega) (by omega) (by simp; omega) HK2.out (by omega) HC62.out hat2
      have H6 := Lib.hid h6; clear h6 hat2
      have HTS2 := Lib.hid hts2; clear hts2
      go_wp2_with fail
      refine (H6.out _ HM7.out).mono ?_
      rintro e w8 ⟨rfl, hm8, hb8⟩
      have HM8 := Lib.hid hm8; clear hm8
      have HB8 := Lib.hid (HB7.out.trans hb8); clear hb8
      go_wp2_with fail
      refine ⟨?rel, ?measure⟩
      case rel => exact ⟨K2, ts2, by omega, HM8.out, by rw [HTS2.out]; exact HR.out, by omega, HB8.out⟩
      case measure => rw [HM8.out.pAt, HP.out]; omega
    | stop h hc ht ha hr =>
      rename_i r r2 c ts1' at_
      obtain ⟨K0, hK0⟩ : ∃ K0, k + findL [60] (sfx s k) = K0 := ⟨_, rfl⟩
      rw [← hl, sfx_drop, hK0] at h
      have hlt : K0 + 2 < s.size := by
        have := congrArg List.length h
        rw [sfx_length] at this
        simp at this; omega
      have hlt1 : K0 + 1 < s.size := by omega
      rw [sfx_cons s K0 (by omega), sfx_cons s (K0 + 1) (by omega), sfx_cons s (K0 + 2) (by omega)] at h
      obtain ⟨hc60, h⟩ := List.cons.inj h
      obtain ⟨hc47, h⟩ := List.cons.inj h
      obtain ⟨hcc, hrr⟩ := List.cons.inj h
      rw [← hcc] at hc
      have hsf : sfx s (K0 + 2) = c :: r := by rw [sfx_cons s (K0 + 2) hlt, hcc, hrr]
      rw [← hsf] at ha hr
      obtain ⟨m, hm1, hm2, hm3⟩ := ha.suffix
      rw [sfx_drop, sfx_length] at hm2
      have hwl := wordL_le (sfx s (K0 + 2))
      rw [sfx_length] at hwl
      obtain ⟨K1, hK1⟩ : ∃ K1, K0 + 2 + (wordL (sfx s (K0 + 2))).length + m = K1 := ⟨_, rfl⟩
      rw [sfx_drop, sfx_drop, hK1] at hm3
      subst hm3
      have hK1s : K1 ≤ s.size := by omega
      obtain ⟨ts1, hts1, hat1, hlen1⟩ := addTok_pair (by rw [htk]; exact ht)
      have hk0s : K0 ≤ s.size := by omega
      have hcall1 := fun W => find_any s ⟨#[60]⟩ k K0 W (by omega) (by show 1 ≤ _; omega) (by show 0 < 1; omega) hk hK0
      have hcall2 := fun W => unescaped_any (s.extract k K0) false W (by simp; omega)
      rw [extract_data, show K0 - k = findL [60] l by rw [← hl]; omega, hl] at hcall2
      obtain ⟨u, hu⟩ : ∃ u, unescL false (l.take (findL [60] l)) = u := ⟨_, rfl⟩
      rw [hu] at hcall2 hat1
      have hcall3 := fun W' hm' => xtext_any s u W.heap.size X k ts ts1 W' hm' (by omega) hat1
      have hcall4 := fun W => isAlpha_any s[K0 + 2] W
      rw [hc] at hcall4
      have hcall5 := fun W' hm' => xtag_any s W.heap.size X (K0 + 2) K1 3 at_ ts1 W' hm' (by omega) (by omega) hK1s (by omega) (by decide) ha
      have H1 := Lib.hid hcall1; clear hcall1
      have H2 := Lib.hid hcall2; clear hcall2
      have H3 := Lib.hid hcall3; clear hcall3
      have H4 := Lib.hid hcall4; clear hcall4
      have H5 := Lib.hid hcall5; clear hcall5
      have HR := Lib.hid hr; clear hr
      have HM := Lib.hid hm; clear hm
      have HB := Lib.hid hb; clear hb
      have HTS := Lib.hid hts1; clear hts1
      have hkK1 : k < K1 := by omega
      have i1 : (0 : Int) ≤ (k : Int) := by omega
      have i2 : (k : Int) ≤ (K0 : Int) := by omega
      have i3 : (K0 : Int) ≤ (s.size : Int) := by omega
      have i4 : ((k : Int)).toNat = k := by omega
      have d1 : decide ((k : Int) < (s.size : Int)) = true := by simp; omega
      have d2 : decide (k < s.size) = true := by simp; omega
      have d3 : ((K0 : Int) == (s.size : Int)) = false := by simp; omega
      have wr1 : IntKind.i64.wrap ((K0 : Int) + 1) = (K0 : Int) + 1 := IntWalk.i64_in _ (by omega)
      have wr2 : IntKind.i64.wrap ((K0 : Int) + 2) = (K0 : Int) + 2 := IntWalk.i64_in _ (by omega)
      have j1 : ((K0 : Int) + 1).toNat = K0 + 1 := by omega
      have j2 : ((K0 : Int) + 2).toNat = K0 + 2 := by omega
      have j3 : (K0 : Int) + 1 < (s.size : Int) := by omega
      have t47 : ((s[K0 + 1].toNat : Int) == 47) = true := by rw [hc47]; rfl
      have q1 : isAlphaB s[K0 + 1] = false := by rw [hc47]; rfl
      have h7 := fun W => isAlpha_any s[K0 + 1] W
      rw [q1] at h7
      have H7 := Lib.hid h7; clear h7 q1 hc47
      have j5 : (K0 : Int) + 2 < (s.size : Int) := by omega
      clear h hc ht ha hK0 hc60 hcc hrr hsf hm1 hm2 hK1 hat1 hwl hl htk hu
      go_wp2_with fail
      refine (H1.out _).mono ?_
      rintro e w2 ⟨rfl, rfl⟩
      go_wp2_with fail
      refine (H2.out _).mono ?_
      rintro e w3 ⟨rfl, hb3⟩
      have HM3 := Lib.hid (HM.out.below hb3)
      have HB3 := Lib.hid (HB.out.trans (hb3.mono (Nat.le_of_lt (Nat.lt_of_le_of_lt hlt0.1 hlt0.2))))
      clear c1 c3
      go_wp2_with fail
      refine (H3.out _ HM3.out).mono ?_
      rintro e w4 ⟨rfl, hm4, hb4⟩
      have hl4 := hm4.lt
      have hb4 := HB3.out.trans hb4
      have hb5 := hb4.trans (set_below w4 hl4.1 hl4.2 1 (.int .i64 (K0 : Int)))
      have hm5 := hm4.to K0 _ rfl
      obtain ⟨ov4, hx4⟩ := hm4.sx
      have z41 := hx4.fz 1
      have c41 := hx4.c1
      clear hx4
      obtain ⟨ov5, hx5⟩ := hm5.sx
      have HM5 := Lib.hid hm5; clear hm5 hm4
      have HB5 := Lib.hid hb5; clear hb5 hb4
      go_upto_region 9 with fail
      generalize w4.setCell ⟨X, 1, none⟩ (.int .i64 (K0 : Int)) = w5 at HM5 HB5 hx5
      clear z41 c41
      have c5 := hx5.c1
      have z5 := hx5.fz 1
      clear hx5
      have HM6 := Lib.hid (HM5.out.to (K0 + 2) ((K0 : Int) + 2) (by omega))
      have hl5 := HM5.out.lt
      have HB6 := Lib.hid (HB5.out.trans (set_below w5 hl5.1 hl5.2 1 (.int .i64 ((K0 : Int) + 2))))
      go_wp2_with fail
      refine (H7.out _).mono ?_
      rintro e w6 ⟨rfl, rfl⟩
      go_wp2_with fail
      refine (H4.out _).mono ?_
      rintro e w6 ⟨rfl, rfl⟩
      go_wp2_with fail
      refine (H5.out _ HM6.out).mono ?_
      rintro e w7 ⟨rfl, ⟨av, hm7⟩, hb7⟩
      have HM7 := Lib.hid hm7; clear hm7
      have HB7 := Lib.hid (HB6.out.trans hb7); clear hb7
      go_wp2_with fail
      refine ⟨?rel, ?measure⟩
      case rel =>
        refine ⟨K1, _, hK1s, HM7.out, ?_, ?_, HB7.out⟩
        · rw [List.map_append, HTS.out]; exact HR.out
        · rw [List.length_append]; simp only [List.length_cons, List.length_nil]; omega
      case measure => rw [HM7.out.pAt, HP.out]; omega
end Go.Proofs.YtopmbledpalmdaaGreatDoor
