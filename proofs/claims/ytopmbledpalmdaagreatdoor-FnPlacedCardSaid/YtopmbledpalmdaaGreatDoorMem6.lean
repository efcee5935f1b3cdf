/-
  The walk of (*snippet).tag, of a tag whose attributes have values.
-/
import Derived.Test.YtopmbledpalmdaaGreatDoorMem5
import Derived.Deep.RegionLaw
namespace Go.Proofs.YtopmbledpalmdaaGreatDoor
open Go.RowKit Go.Proofs

/-- The attributes in front of l, behind those of acc; what is left behind the >. -/
inductive AttrsL : Bs → List (Bs × Bs) → List (Bs × Bs) → Bs → Prop
  | stop {l r : Bs} {acc : List (Bs × Bs)} (h : l.drop (blanksL l) = 62 :: r) : AttrsL l acc acc r
  | more {l r w q v E : Bs} {c : UInt8} {n : Nat} {acc R : List (Bs × Bs)} (h : l.drop (blanksL l) = c :: r) (hc : c ≠ 62) (hw : wordL (c :: r) = w) (hw0 : w ≠ [])
      (hq : ((c :: r).drop w.length).drop (blanksL ((c :: r).drop w.length)) = 61 :: q) (hv : valueL (q.drop (blanksL q)) = some (v, n)) (hr : AttrsL ((q.drop (blanksL q)).drop n) (acc ++ [(lowL w, v)]) R E) : AttrsL l acc R E

theorem xvalue_some (s : ByteArray) (X p n : Nat) (v : Bs) (ov : Value) (W : World) (hx : SX W X s p ov false) (hp : p ≤ s.size) (hs : s.size ≤ 17592186044416) (hv : valueL (sfx s p) = some (v, n)) :
    Calls Tryz.prog 31 #[.pointer (some ⟨X, 0, none⟩)] W fun e w' => e = .returned (.string ⟨v.toArray⟩) ∧ SXTo W X s (p + n) ov false w' := by
  by_cases hlt : p < s.size
  · by_cases hq : s[p] = 34 ∨ s[p] = 39
    · have h := xvalue_quoted s X p ov W hx hlt hs hq
      rw [hv] at h
      exact h
    · have hq1 : s[p] ≠ 34 := fun h => hq (.inl h)
      have hq2 : s[p] ≠ 39 := fun h => hq (.inr h)
      have hc := sfx_cons s p hlt
      have hu : valueL (sfx s p) = if badL (unqL (sfx s p)) || (unqL (sfx s p)).isEmpty then none else some (unescL true (unqL (sfx s p)), (unqL (sfx s p)).length) := by
        rw [hc]
        simp only [valueL]
        rw [if_neg (by simp [hq1, hq2])]
        rfl
      rw [hu] at hv
      split at hv
      · cases hv
      · rename_i hb
        simp only [Bool.or_eq_true, not_or, Bool.not_eq_true] at hb
        simp only [Option.some.injEq, Prod.mk.injEq] at hv
        obtain ⟨hv1, hv2⟩ := hv
        have hpos : 0 < (unqL (sfx s p)).length := by
          cases h : unqL (sfx s p) with
          | nil => rw [h] at hb; simp at hb
          | cons => simp
        have h := xvalue_bare s X p (p + n) ov W hx hlt hs hq1 hq2 (by omega) (by omega) hb.1
        rw [hv1] at h
        exact h
  · rw [sfx_end s p (by omega)] at hv
    simp [valueL] at hv

theorem valueL_le (l v : Bs) (n : Nat) (h : valueL l = some (v, n)) : n ≤ l.length := by
  cases l with
  | nil => simp [valueL] at h
  | cons c r =>
    simp only [valueL] at h
    split at h
    · split at h
      · cases h
      · rename_i hne
        simp only [Option.some.injEq, Prod.mk.injEq] at h
        have := findL_le [c] r
        simp; omega
    · split at h
      · cases h
      · simp only [Option.some.injEq, Prod.mk.injEq] at h
        rw [← h.2]
        exact (List.takeWhile_prefix _).length_le

/-- The tag that is being read: its own block, and its attributes. -/
def tagRel (s : ByteArray) (X K kind T : Nat) (nm : ByteArray) (R : List (Bs × Bs)) (ov : Value) (W : World) (wr : World) : Prop :=
  ∃ (k : Nat) (acc : List (Bs × Bs)) (av : Value), k ≤ s.size ∧ SX wr X s k ov false ∧ W.grownBy wr (some X) ∧ AttrsL (sfx s k) acc R (sfx s K) ∧ W.heap.size ≤ T ∧ T < wr.heap.size ∧
    wr.heap[T]? = some (.cells #[.int .i64 (kind : Int), .string nm, av] 29 (0, 0)) ∧ wr.ownsRow W.heap.size 31 2 av acc.length (acells acc) ∧ acc.length ≤ k

theorem tag_end {W w4 w5 : World} {base X k1 K kind : Nat} {s nm : ByteArray} {ts : List (Tok × Value)} {ov av v5 : Value} {o : Obj} {name : Bs} {R : List (Bs × Bs)} (hbx : base ≤ X) (_hbw : base ≤ W.heap.size) (_ : ts.length ≤ 1000000000000)
    (ho : w4.ownsRow base 29 3 ov ts.length (tcells ts)) (hx : SX w4 X s (k1 + 1) ov false) (ha : ∀ x ∈ ts, AttrIs w4 base x) (hb : Below base W w4) (hav : w4.ownsRow base 31 2 av R.length (acells R)) (hnm : (⟨name.toArray⟩ : ByteArray) = nm) (hKK : k1 + 1 = K)
    (hown : w5.ownsRow base 29 3 v5 (ts.length + 1) (tcells ts ++ [.int .i64 (kind : Int), .string nm, av])) (hg : ((w4.drew).alloc o).grownBy w5 ov.ownBlock) :
    (∃ av, SM (w5.setCell ⟨X, 2, none⟩ v5) base X s K (ts ++ [(⟨kind, name, R⟩, av)])) ∧ Below base W (w5.setCell ⟨X, 2, none⟩ v5) := by
  subst hnm hKK
  have hown3 : w5.ownsRow base 29 3 v5 (ts.length + 1) (tcells (ts ++ [(⟨kind, name, R⟩, av)])) := by
    rw [← tcells_snoc]; exact hown
  have hXl := hx.lt
  have hb2 := below_own ((hb.trans ((Below.refl base w4).drew)).alloc (by show base ≤ w4.heap.size; omega) o) (by simp; omega) (World.ownsRow.alloc (w := w4.drew) ho o) hg
  refine ⟨⟨av, SM.more hbx (hx.drew.alloc o) (World.ownsRow.alloc (w := w4.drew) ho o) (fun y hy => World.ownsRow.alloc (w := w4.drew) (ha y hy) o) (World.ownsRow.alloc (w := w4.drew) hav o) hown3 hg rfl⟩, ?_⟩
  exact hb2.1.trans (only_under (only_set (only_refl _ _) _ _) hbx hb2.2)

theorem only_more {W a b : World} {X : Nat} {row : Option Nat} (h : W.grownBy a (some X)) (g : a.grownBy b row) (hr : ∀ k, row = some k → W.heap.size ≤ k) : W.grownBy b (some X) :=
  ⟨g.os.trans h.os, g.tape.trans h.tape, g.output.trans h.output, Nat.le_trans h.size g.size, fun k hk hne => (g.block k (Nat.lt_of_lt_of_le hk h.size) (fun e => by have := hr k e.symm; omega)).trans (h.block k hk hne)⟩
theorem agg2 (W : World) (a b : Value) (t : TypeId) : ∀ (j : Nat) (u : Value), [a, b][j]? = some u → (W.alloc (.cells #[a, b] t)).cell? ((⟨W.heap.size, 0, none⟩ : Addr).add j) = some u := by
  intro j u h
  have hadd : (⟨W.heap.size, 0, none⟩ : Addr).add j = ⟨W.heap.size, j, none⟩ := by unfold Addr.add; split <;> simp_all
  rw [hadd, cell_of_row (W.alloc (.cells #[a, b] t)) W.heap.size j #[a, b] t (0, 0) (heap_alloc_new W _)]
  simpa using h

set_option maxRecDepth 1000000 in
set_option maxHeartbeats 3200000 in
theorem xtag_any (s : ByteArray) (base X p K kind : Nat) (R : List (Bs × Bs)) (ts : List (Tok × Value)) (W : World) (hm : SM W base X s p ts) (hp : p ≤ s.size) (hs : s.size ≤ 1000000000000) (hK : K ≤ s.size) (hl : ts.length ≤ 1000000000000) (_hkind : kind < 10)
    (ha : AttrsL ((sfx s p).drop (wordL (sfx s p)).length) [] R (sfx s K)) :
    Calls Tryz.prog 17 #[.pointer (some ⟨X, 0, none⟩), .int .i64 (kind : Int)] W fun e w' => e = .returned (.tuple #[]) ∧ (∃ av, SM w' base X s K (ts ++ [(⟨kind, lowL (wordL (sfx s p)), R⟩, av)])) ∧ Below base W w' := by
  obtain ⟨hbx, ov, hx, ho, hat⟩ := hm
  obtain ⟨i0, hi0, hz0, hz1, hz2⟩ := info_parts infoTok
  have HI := Lib.hid hi0; clear hi0
  have HZ0 := Lib.hid hz0; clear hz0
  have HZ1 := Lib.hid hz1; clear hz1
  have HZ2 := Lib.hid hz2; clear hz2
  obtain ⟨j0, hj0, hy0, hy1, hy2⟩ := info_parts infoAttr
  have JI := Lib.hid hj0; clear hj0
  have JZ0 := Lib.hid hy0; clear hy0
  have JZ1 := Lib.hid hy1; clear hy1
  have JZ2 := Lib.hid hy2; clear hy2
  have hXlt := hx.lt
  have h1 := xword_any s X p ov false W hx hp (by omega)
  have hwl := wordL_le (sfx s p)
  rw [sfx_length] at hwl
  rw [sfx_drop] at ha
  obtain ⟨k0, hk0⟩ : ∃ k0, p + (wordL (sfx s p)).length = k0 := ⟨_, rfl⟩
  rw [hk0] at ha h1
  have hk0s : k0 ≤ s.size := by omega
  obtain ⟨nm, hnm⟩ : ∃ nm : ByteArray, ⟨(lowL (wordL (sfx s p))).toArray⟩ = nm := ⟨_, rfl⟩
  rw [hnm] at h1
  have H1 := Lib.hid h1; clear h1
  have HNM := Lib.hid hnm; clear hnm hk0 hwl
  have HX := Lib.hid hx; clear hx
  have HO := Lib.hid ho; clear ho
  have HAT := Lib.hid hat; clear hat
  have HA := Lib.hid ha; clear ha
  go_enter Tryz.func17, Tryz.ntmps17
  go_wp2_with fail
  refine H1.out.mono ?_
  rintro e w1 ⟨rfl, hx1, hg1⟩
  have HX1 := Lib.hid hx1; clear hx1
  have HG1 := Lib.hid hg1; clear hg1
  go_wp2_with fail
  obtain ⟨T, hTT⟩ : ∃ T, w1.heap.size = T := ⟨_, rfl⟩
  rw [hTT]
  have HTT := Lib.hid hTT; clear hTT
  go_loopw [] (fun wr => tagRel s X K kind T nm R ov W wr) (fun wr => s.size - pAt wr X)
  case atStart =>
    refine ⟨k0, [], .slice none 0 0, hk0s, (HX1.out).alloc _, only_alloc HG1.out _, HA.out, ?_, ?_, ?_, World.ownsRow_nil _ _ _ _, Nat.zero_le _⟩
    · rw [← HTT.out]; exact HG1.out.size
    · rw [← HTT.out]; simp
    · rw [← HTT.out]; exact heap_alloc_new _ _
  case round =>
    obtain ⟨k, acc, av, hk, hx, hg, hat, hT, hTl, hTc, hav, hacc⟩ := hrel
    have c3 := hx.c3
    have hpa := hx.pAt
    have hTX : T ≠ X := by omega
    have HX2 := Lib.hid hx; clear hx
    have HP := Lib.hid hpa; clear hpa
    have h2 := blanks_any s X k ov false wr HX2.out hk (by omega)
    obtain ⟨k1, hk1⟩ : ∃ k1, k + blanksL (sfx s k) = k1 := ⟨_, rfl⟩
    rw [hk1] at h2
    have hb1 : blanksL (sfx s k) ≤ (sfx s k).length := (List.takeWhile_prefix _).length_le
    rw [sfx_length] at hb1
    have hk1s : k1 ≤ s.size := by omega
    cases hat with
    | stop h =>
      rw [sfx_drop, hk1] at h
      have hlt : k1 < s.size := by
        rcases Nat.lt_or_ge k1 s.size with h' | h'
        · exact h'
        · rw [sfx_end s k1 h'] at h; cases h
      rw [sfx_cons s k1 hlt] at h
      have hc62 := (List.cons.inj h).1
      have hKK : k1 + 1 = K := by
        have := congrArg List.length (List.cons.inj h).2
        rw [sfx_length, sfx_length] at this
        omega
      have t2 : ((s[k1].toNat : Int) == 62) = true := by
        have h : ((s[k1].toNat : Int) == 62) = (s[k1] == 62) := u8_beq _ 62
        rw [h]; simp [hc62]
      have d1 : decide ((k1 : Int) < (s.size : Int)) = true := by simp; omega
      have d2 : decide (k1 < s.size) = true := by simp; omega
      have H2 := Lib.hid h2; clear h2 h hc62 hk1 hb1
      go_wp2_with fail
      refine H2.out.mono ?_
      rintro e w2 ⟨rfl, hx2, hg2⟩
      have c0 := hx2.c0
      have c1 := hx2.c1
      have z1 := hx2.fz 1
      have HX3 := Lib.hid hx2; clear hx2
      have HG2 := Lib.hid hg2; clear hg2
      go_wp2_with fail
      go_quiet (fail)
      go_wp2_with fail
      generalize hw4 : (w2.drewN nq).setCell ⟨X, 1, none⟩ (.int .i64 ((k1 : Int) + 1)) = w4
      have hx4 : SX w4 X s (k1 + 1) ov false := by rw [← hw4]; exact (HX3.out.drewN nq).set1' (k1 + 1) ((k1 : Int) + 1) (by omega)
      have hg4 : wr.grownBy w4 (some X) := by rw [← hw4]; exact only_set (only_drewN HG2.out _) _ _
      have hg40 : W.grownBy w4 (some X) := only_trans hg hg4
      have ht4 : w4.heap[T]? = some (.cells #[.int .i64 (kind : Int), .string nm, av] 29 (0, 0)) := (hg4.block T hTl (by simpa using hTX)).trans hTc
      have t0 : w4.cell? ⟨T, 0, none⟩ = some (.int .i64 (kind : Int)) := cell_of_row w4 T 0 _ _ (0, 0) ht4
      have t1 : w4.cell? ⟨T, 1, none⟩ = some (.string nm) := cell_of_row w4 T 1 _ _ (0, 0) ht4
      have t2' : w4.cell? ⟨T, 2, none⟩ = some av := cell_of_row w4 T 2 _ _ (0, 0) ht4
      have c2 := hx4.c2
      have z2 := hx4.fz 2
      have ho4 := HO.out.kept hg40 (.inr (row_apart_X HX.out HO.out (by decide)))
      have hav4 := hav.kept hg4 (.inr (row_apart_X HX2.out hav (by decide)))
      have HX4 := Lib.hid hx4; clear hx4
      have HO4 := Lib.hid ho4; clear ho4
      have HAV4 := Lib.hid hav4; clear hav4
      have HT4 := Lib.hid ht4; clear ht4
      have hX4 := HX4.out.lt
      clear hw4 c0 c1 z1 t2 d1 d2
      clear c3 hTc hav
      have hXr : some X ≠ ov.ownBlock := (row_apart_X HX4.out HO4.out (by decide)).symm
      have hfz : ∀ o w5, ((w4.drew).alloc o).grownBy w5 ov.ownBlock → w5.frozen? ⟨X, 2, none⟩ = false := fun o w5 h => by
        rw [World.frozen?_of_block (a := ⟨X, 2, none⟩) (h.block X (by simp; omega) hXr)]
        exact (HX4.out.drew.alloc _).fz 2
      have hfc : ∀ o w5, ((w4.drew).alloc o).grownBy w5 ov.ownBlock → w5.cell? ⟨X, 2, none⟩ = some ov := fun o w5 h => by
        rw [World.cell?_of_block (a := ⟨X, 2, none⟩) (h.block X (by simp; omega) hXr)]
        exact (HX4.out.drew.alloc _).c2
      have h1c : ∀ u ∈ [Value.int .i64 (kind : Int), .string nm, av], u.oneCell' = true := by
        intro u hu
        simp only [List.mem_cons, List.not_mem_nil, or_false] at hu
        rcases hu with rfl | rfl | rfl
        · rfl
        · rfl
        · rcases HAV4.out.2 with ⟨h, _⟩ | ⟨g, cap, cur, h, _⟩
          · rw [h]; rfl
          · rw [h]; rfl
      have hwb : base ≤ w4.heap.size := by omega
      have HFZ := Lib.hid hfz; clear hfz
      have HFC := Lib.hid hfc; clear hfc
      have H1C := Lib.hid h1c; clear h1c
      go_region_law (refine step_append_lies _ (by rfl) _ _ 23 (by rfl) base 29 i0 (.agg #[.int .i64 0, .string ⟨#[]⟩, .slice none 0 0]) 3 48 Tryz.underlying23 HI.out HZ0.out HZ1.out HZ2.out rfl (by decide) ov ts.length (tcells ts) (by rfl) (HO4.out.alloc _) ⟨w4.heap.size, 0, none⟩ 1 1 [.int .i64 (kind : Int), .string nm, av] (by rfl) rfl (agg3 w4.drew _ _ _ _) H1C.out (by decide) (by simp only [maxLen]; omega) (by omega) (by simp; omega) (w4.heap.size + 1) (by simp) ?_; intro g cap w5 hown5 hg5 hat5 hlt5; have hz5 := HFZ.out _ _ hg5; have hc5 := HFC.out _ _ hg5)
      all_goals go_wp2_with fail
      all_goals
        (try simp only [Exit.inBlock, Exit.then])
        refine bodyPost_ret (results_none rfl _ _ _) rfl ?_
        exact ⟨rfl, tag_end hbx (by omega) hl HO4.out HX4.out (fun y hy => (HAT.out y hy).kept hg40 (.inr (row_apart_X HX.out (HAT.out y hy) (by decide)))) (only_under hg40 hbx (by omega)) (HAV4.out.mono (by omega)) HNM.out hKK hown5 hg5⟩
    | more h hc hw hw0 hq hv hr =>
      rename_i r w q v c n
      rw [sfx_drop, hk1] at h
      have hlt : k1 < s.size := by
        rcases Nat.lt_or_ge k1 s.size with h' | h'
        · exact h'
        · rw [sfx_end s k1 h'] at h; cases h
      rw [← h] at hw hq
      rw [sfx_cons s k1 hlt] at h
      have hcc := (List.cons.inj h).1
      have t2 : ((s[k1].toNat : Int) == 62) = false := by
        have h : ((s[k1].toNat : Int) == 62) = (s[k1] == 62) := u8_beq _ 62
        rw [h]; simp [hcc, hc]
      have d1 : decide ((k1 : Int) < (s.size : Int)) = true := by simp; omega
      have d2 : decide (k1 < s.size) = true := by simp; omega
      have hwpos : 0 < w.length := List.length_pos_iff.2 hw0
      have hwl := wordL_le (sfx s k1)
      rw [hw, sfx_length] at hwl
      obtain ⟨k2, hk2⟩ : ∃ k2, k1 + w.length = k2 := ⟨_, rfl⟩
      rw [sfx_drop, hk2] at hq
      have hb2 : blanksL (sfx s k2) ≤ (sfx s k2).length := (List.takeWhile_prefix _).length_le
      rw [sfx_length] at hb2
      obtain ⟨k3, hk3⟩ : ∃ k3, k2 + blanksL (sfx s k2) = k3 := ⟨_, rfl⟩
      rw [sfx_drop, hk3] at hq
      have hlt3 : k3 < s.size := by
        rcases Nat.lt_or_ge k3 s.size with h' | h'
        · exact h'
        · rw [sfx_end s k3 h'] at hq; cases hq
      rw [sfx_cons s k3 hlt3] at hq
      obtain ⟨hc61, hqq⟩ := List.cons.inj hq
      rw [← hqq] at hv hr
      have t3 : ((s[k3].toNat : Int) == 61) = true := by
        have h : ((s[k3].toNat : Int) == 61) = (s[k3] == 61) := u8_beq _ 61
        rw [h]; simp [hc61]
      have d3 : decide ((k3 : Int) < (s.size : Int)) = true := by simp; omega
      have d4 : decide (k3 < s.size) = true := by simp; omega
      have hb4 : blanksL (sfx s (k3 + 1)) ≤ (sfx s (k3 + 1)).length := (List.takeWhile_prefix _).length_le
      rw [sfx_length] at hb4
      obtain ⟨k4, hk4⟩ : ∃ k4, k3 + 1 + blanksL (sfx s (k3 + 1)) = k4 := ⟨_, rfl⟩
      rw [sfx_drop, hk4] at hv hr
      rw [sfx_drop] at hr
      have hn : n ≤ s.size - k4 := by
        have := valueL_le _ _ _ hv
        rw [sfx_length] at this
        exact this
      have hk1s : k1 ≤ s.size := by omega
      have hk2s : k2 ≤ s.size := by omega
      have hk3s : k3 + 1 ≤ s.size := by omega
      have hk4s : k4 ≤ s.size := by omega
      have hk5s : k4 + n ≤ s.size := by omega
      obtain ⟨key, hkey⟩ : ∃ key : ByteArray, ⟨(lowL w).toArray⟩ = key := ⟨_, rfl⟩
      have hkne : key.toList.isEmpty = false := by
        rw [ByteArray.toList_eq, ← hkey]
        cases w with
        | nil => simp at hwpos
        | cons a b => rfl
      obtain ⟨vs, hvs⟩ : ∃ vs : ByteArray, ⟨v.toArray⟩ = vs := ⟨_, rfl⟩
      have h3 := fun W' (hx : SX W' X s k1 ov false) => xword_any s X k1 ov false W' hx hk1s (by omega)
      rw [hw, hk2, hkey] at h3
      have h4 := fun W' (hx : SX W' X s k2 ov false) => blanks_any s X k2 ov false W' hx hk2s (by omega)
      rw [hk3] at h4
      have h5 := fun W' (hx : SX W' X s (k3 + 1) ov false) => blanks_any s X (k3 + 1) ov false W' hx hk3s (by omega)
      rw [hk4] at h5
      have h6 := fun W' (hx : SX W' X s k4 ov false) => xvalue_some s X k4 n v ov W' hx hk4s (by omega) hv
      rw [hvs] at h6
      have H2 := Lib.hid h2; clear h2
      have H3 := Lib.hid h3; clear h3
      have H4 := Lib.hid h4; clear h4
      have H5 := Lib.hid h5; clear h5
      have H6 := Lib.hid h6; clear h6
      have HKEY := Lib.hid hkey; clear hkey
      have HVS := Lib.hid hvs; clear hvs
      have HR := Lib.hid hr; clear hr
      have hmeas : k < k4 + n := by omega
      have hmeas2 : k + 1 ≤ k4 := by omega
      clear h hc hw hw0 hq hv hcc hk2 hb2 hk3 hb4 hk4 hc61 hqq hk1 hb1
      go_wp2_with fail
      refine H2.out.mono ?_
      rintro e w2 ⟨rfl, hx2, hg2⟩
      have c0 := hx2.c0
      have c1 := hx2.c1
      have HX3 := Lib.hid hx2; clear hx2
      have HG2 := Lib.hid hg2; clear hg2
      go_wp2_with fail
      go_quiet (fail)
      obtain ⟨n1, rfl⟩ : ∃ n1, n1 = nq := ⟨_, rfl⟩
      go_wp2_with fail
      refine (H3.out _ (HX3.out.drewN _)).mono ?_
      rintro e w3 ⟨rfl, hx3, hg3⟩
      have HX4 := Lib.hid hx3; clear hx3
      have HG3 := Lib.hid hg3; clear hg3
      clear c0 c1 t2 d1 d2
      go_wp2_with fail
      refine (H4.out _ (HX4.out.alloc _)).mono ?_
      rintro e w4 ⟨rfl, hx4, hg4⟩
      have c0 := hx4.c0
      have c1 := hx4.c1
      have z1 := hx4.fz 1
      have HX5 := Lib.hid hx4; clear hx4
      have HG4 := Lib.hid hg4; clear hg4
      go_wp2_with fail
      go_quiet (fail)
      go_wp2_with fail
      have hx5 := (HX5.out.drewN nq).set1' (k3 + 1) ((k3 : Int) + 1) (by omega)
      refine (H5.out _ hx5).mono ?_
      rintro e w5 ⟨rfl, hx6, hg5⟩
      have HX6 := Lib.hid hx6; clear hx6
      have HG5 := Lib.hid hg5; clear hg5
      clear c0 c1 z1 t3 d3 d4
      go_wp2_with fail
      refine (H6.out _ HX6.out).mono ?_
      rintro e w6 ⟨rfl, hx7, hg6⟩
      have hgA := only_trans (only_trans (only_set (only_drewN HG4.out nq) 1 (.int .i64 ((k3 : Int) + 1))) HG5.out) hg6
      have hg23 : wr.grownBy w3 (some X) := only_trans (only_drewN HG2.out n1) HG3.out
      have hgT := only_trans (only_alloc hg23 _) hgA
      obtain ⟨A, hA⟩ : ∃ A, w3.heap.size = A := ⟨_, rfl⟩
      have hAT : T < A := by have := hg23.size; omega
      have hAX : X < A := by omega
      have hAl : A < w6.heap.size := by have := hgA.size; simp at this; omega
      have hA6 : w6.heap[A]? = some (.cells #[.string key, .string ⟨#[]⟩] 31 (0, 0)) := by
        rw [hgA.block A (by simp; omega) (by simp; omega), ← hA]
        exact heap_alloc_new _ _
      have a1 : w6.cell? ⟨A, 1, none⟩ = some (.string ⟨#[]⟩) := cell_of_row w6 A 1 _ _ (0, 0) hA6
      have za : w6.frozen? ⟨A, 1, none⟩ = false := by simp [World.frozen?, hA6]
      have hT6 : w6.heap[T]? = some (.cells #[.int .i64 (kind : Int), .string nm, av] 29 (0, 0)) := (hgT.block T hTl (by simpa using hTX)).trans hTc
      have hav6 := hav.kept hgT (.inr (row_apart_X HX2.out hav (by decide)))
      have hg60 : W.grownBy w6 (some X) := only_trans hg hgT
      have hx60 := hx7
      have HX7 := Lib.hid hx7; clear hx7
      have HG6 := Lib.hid hg6; clear hg6
      have HGA := Lib.hid hgA; clear hgA
      have HGT := Lib.hid hgT; clear hgT
      have HA6 := Lib.hid hA6; clear hA6
      have HT6 := Lib.hid hT6; clear hT6
      rw [hA]
      have HAA := Lib.hid hA; clear hA
      go_upto_region 13 with fail
      have hA7 : (w6.setCell ⟨A, 1, none⟩ (.string vs)).heap[A]? = some (.cells #[.string key, .string vs] 31 (0, 0)) := by
        have h := HA6.out
        simp [World.setCell, Array.getElem?_modify, h]
      have hg67 : w6.grownBy (w6.setCell ⟨A, 1, none⟩ (.string vs)) (some A) := only_set (only_refl _ _) _ _
      generalize hw7 : w6.setCell ⟨A, 1, none⟩ (.string vs) = w7 at hA7 hg67
      have hT7 : w7.heap[T]? = some (.cells #[.int .i64 (kind : Int), .string nm, av] 29 (0, 0)) := (hg67.block T (by omega) (by simp; omega)).trans HT6.out
      have hx7 : SX w7 X s (k4 + n) ov false := by rw [← hw7]; exact HX7.out.far (by show X ≠ A; omega) _
      have hav7 : w7.ownsRow W.heap.size 31 2 av acc.length (acells acc) := hav6.kept hg67 (by
        cases ho : av.ownBlock with
        | none => exact .inl rfl
        | some g =>
          have h1 := (hav.lt g ho).2
          have h2 := hg23.size
          have h3 := HAA.out
          exact .inr (by simp; omega))
      have hg70 : W.grownBy w7 (some X) := only_more hg60 hg67 fun k hk => by cases hk; omega
      have t0 : w7.cell? ⟨T, 0, none⟩ = some (.int .i64 (kind : Int)) := cell_of_row w7 T 0 _ _ (0, 0) hT7
      have t1 : w7.cell? ⟨T, 1, none⟩ = some (.string nm) := cell_of_row w7 T 1 _ _ (0, 0) hT7
      have t2' : w7.cell? ⟨T, 2, none⟩ = some av := cell_of_row w7 T 2 _ _ (0, 0) hT7
      have b0 : w7.cell? ⟨A, 0, none⟩ = some (.string key) := cell_of_row w7 A 0 _ _ (0, 0) hA7
      have b1 : w7.cell? ⟨A, 1, none⟩ = some (.string vs) := cell_of_row w7 A 1 _ _ (0, 0) hA7
      have hT7l : T < w7.heap.size := by have := hg67.size; omega
      have hX7l : X < w7.heap.size := by have := hg67.size; omega
      have hW7l : W.heap.size ≤ w7.heap.size := by omega
      have HX8 := Lib.hid hx7; clear hx7
      have HAV7 := Lib.hid hav7; clear hav7
      have HT7 := Lib.hid hT7; clear hT7
      clear hw7 hg67 hA7 hav6 hav a1 za hx60
      have HGW7 := Lib.hid hg70; clear hg70
      have hacl : acc.length ≤ 1000000000000 := by omega
      go_wp2_with (at_builtin; refine wpList_append_own _ rfl (.tmp 99) (.tmp 101) 27 rfl W.heap.size 31 j0 (.agg #[.string ⟨#[]⟩, .string ⟨#[]⟩]) 2 32 Tryz.underlying27 JI.out JZ0.out JZ1.out JZ2.out rfl (by decide) av acc.length (acells acc) rfl (HAV7.out.alloc _) ⟨w7.heap.size, 0, none⟩ 1 1 [.string key, .string vs] rfl rfl ?c1 ?c2 ?c3 ?c4 ?c5 ?_)
      case c1 => exact agg2 w7 _ _ _
      case c2 =>
        intro v hv
        simp only [List.mem_cons, List.not_mem_nil, or_false] at hv
        rcases hv with rfl | rfl <;> rfl
      case c3 => simp only [maxLen]; omega
      case c4 => omega
      case c5 => simp; omega
      intro v' w8 hown8 hg8 _
      have hTne : some T ≠ av.ownBlock := fun h => by
        obtain ⟨c, hc⟩ := row_at HAV7.out h.symm
        rw [HT7.out] at hc
        injection hc with hc
        injection hc with _ hc _
        exact absurd hc (by decide)
      have hT8 : w8.heap[T]? = some (.cells #[.int .i64 (kind : Int), .string nm, av] 29 (0, 0)) := by
        rw [hg8.block T (by simp; omega) hTne, heap_alloc_old _ _ hT7l]
        exact HT7.out
      have hx8 : SX w8 X s (k4 + n) ov false := by
        have h := HX8.out.alloc (.cells #[.agg #[.string key, .string vs]] 31)
        unfold SX at *
        rw [hg8.block X (by simp; omega) (row_apart_X HX8.out HAV7.out (by decide)).symm, heap_alloc_old _ _ hX7l]
        exact HX8.out
      have hg80 : W.grownBy w8 (some X) := only_more (only_alloc HGW7.out _) hg8 fun k hk => (HAV7.out.lt k hk).1
      have hcl : w8.cell? ⟨T, 2, none⟩ = some av := cell_of_row w8 T 2 _ _ (0, 0) hT8
      have hfz : w8.frozen? ⟨T, 2, none⟩ = false := by simp [World.frozen?, hT8]
      obtain ⟨g2, cap2, rfl, _, _⟩ := hown8.form (by omega)
      have HO8 := Lib.hid hown8; clear hown8
      have HG8 := Lib.hid hg8; clear hg8
      have HX9 := Lib.hid hx8; clear hx8
      have HT8 := Lib.hid hT8; clear hT8
      have HG80 := Lib.hid hg80; clear hg80
      go_wp2_with fail
      have hx9 : SX (w8.setCell ⟨T, 2, none⟩ (.slice (some ⟨g2, 0, none⟩) (acc.length + 1) cap2)) X s (k4 + n) ov false := HX9.out.far (by show X ≠ T; omega) _
      go_roundw
      case rel =>
        have hg9 : W.grownBy (w8.setCell ⟨T, 2, none⟩ (.slice (some ⟨g2, 0, none⟩) (acc.length + 1) cap2)) (some X) := only_more HG80.out (only_set (only_refl _ T) _ _) fun k hk => by cases hk; exact hT
        have hTl9 : T < (w8.setCell ⟨T, 2, none⟩ (.slice (some ⟨g2, 0, none⟩) (acc.length + 1) cap2)).heap.size := by
          have h := HG8.out.size
          have h2 : (w8.setCell ⟨T, 2, none⟩ (.slice (some ⟨g2, 0, none⟩) (acc.length + 1) cap2)).heap.size = w8.heap.size := by simp [World.setCell]
          simp at h
          omega
        refine ⟨k4 + n, acc ++ [(lowL w, v)], .slice (some ⟨g2, 0, none⟩) (acc.length + 1) cap2, hk5s, hx9, hg9, HR.out, hT, hTl9, ?_, ?_, by simp; omega⟩
        · have h := HT8.out
          simp [World.setCell, Array.getElem?_modify, h]
        · have ho9 := HO8.out
          rw [← HKEY.out, ← HVS.out, acells_snoc acc (lowL w, v)] at ho9
          rw [List.length_append]
          refine ho9.kept (only_set (only_refl w8 T) 2 _) ?_
          refine .inr fun h => ?_
          obtain ⟨c, hc⟩ := row_at ho9 h
          rw [HT8.out] at hc
          injection hc with hc
          injection hc with _ hc _
          exact absurd hc (by decide)
      case measure => rw [hx9.pAt, HP.out]; omega
end Go.Proofs.YtopmbledpalmdaaGreatDoor
