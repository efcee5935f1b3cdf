/-
  The walk of spec.Unescaped.
-/
import Derived.Test.YtopmbledpalmdaaGreatDoorWalkJ
import Derived.Test.YtopmbledpalmdaaGreatDoorWalkE
import Derived.Test.YtopmbledpalmdaaGreatDoorUnesc
import Derived.Lib.AppendStr
namespace Go.Proofs.YtopmbledpalmdaaGreatDoor
open Go.RowKit Go.Proofs

theorem infoU8 : (Tryz.prog.info? 5).map (fun i => (i.zero, i.size, i.bytes)) = some (some (.int .u8 0), 1, 1) := by kernel_rfl
theorem back_nil (W : World) (_ _ : Nat) : (convert 49 9 (.slice none 0 0)).run Tryz.prog W = .ok (.string ⟨#[]⟩) W := by kernel_rfl
/-- The bytes of a row, as cells. -/
def bcells (l : Bs) : List Value := l.map fun b => Value.int .u8 (b.toNat : Int)
theorem bcells_len (l : Bs) : (bcells l).length = l.length := by simp [bcells]
theorem bcells_str (t : Bs) : Lib.strCells ⟨t.toArray⟩ = bcells t := by
  simp [Lib.strCells, bcells]
/-- 'string(b)' of a row of bytes that the call owns. -/
theorem back_own (W : World) (B : Nat) (v : Value) (acc : Bs) (h : W.ownsRow B 5 1 v acc.length (bcells acc)) :
    (convert 49 9 v).run Tryz.prog W = .ok (.string ⟨acc.toArray⟩) W := by
  rcases h.2 with ⟨rfl, h0⟩ | ⟨g, cap, cur, rfl, _, hh, hn, _, _, ht⟩
  · have : acc = [] := List.eq_nil_of_length_eq_zero h0
    subst this
    exact back_nil W 0 0
  · exact run_convert_bytes_back W 49 9 5 ⟨g, 0, none⟩ cap acc Tryz.underlying49 Tryz.underlying5 Tryz.underlying9 (fun j hj => by
      rw [show (⟨g, 0, none⟩ : Addr).add j = ⟨g, j, none⟩ by unfold Addr.add; split <;> simp_all]
      rw [h.cellAt j (by omega)]
      simp [bcells, hj])

theorem own_below {W W' : World} {B : Nat} {e : TypeId} {size n : Nat} {v : Value} {xs : List Value} (h : W.ownsRow B e size v n xs) (hb : Below W.heap.size W W') : W'.ownsRow B e size v n xs := by
  refine h.kept (row := none) ⟨hb.os, hb.tape, hb.output, hb.size, fun i hi _ => hb.block i hi⟩ ?_
  cases hv : v.ownBlock with
  | none => exact .inl rfl
  | some g => exact .inr (by simp)
theorem below_own {W W' w : World} {B : Nat} {e : TypeId} {size n : Nat} {v : Value} {xs : List Value} (hb : Below B w W) (hBw : B ≤ W.heap.size) (h : W.ownsRow B e size v n xs) (hg : W.grownBy W' v.ownBlock) : Below B w W' ∧ B ≤ W'.heap.size :=
  ⟨hb.grown hg hBw fun k hk => (h.lt k hk).1, by have := hg.size; omega⟩
theorem bcells_snoc (acc : Bs) (c : UInt8) : bcells acc ++ [Value.int .u8 (c.toNat : Int)] = bcells (acc ++ [c]) := by simp [bcells]
theorem bcells_app (acc t : Bs) : bcells acc ++ bcells t = bcells (acc ++ t) := by simp [bcells]

def unRel (s : ByteArray) (a : Bool) (B : Nat) (w : World) (R : Bs) (v i : Value) (W : World) : Prop :=
  ∃ (k : Nat) (acc : Bs), k ≤ s.size ∧ i = .int .i64 k ∧ acc ++ unescL a (sfx s k) = R ∧ acc.length ≤ 5 * k ∧ W.ownsRow B 5 1 v acc.length (bcells acc) ∧ B ≤ W.heap.size ∧ Below B w W

set_option maxRecDepth 1000000 in
set_option maxHeartbeats 3200000 in
theorem unescaped_any (s : ByteArray) (a : Bool) (w : World) (hs : s.size ≤ 17592186044416) :
    Calls Tryz.prog 15 #[.string s, .bool a] w fun e w' => e = .returned (.string ⟨(unescL a s.data.toList).toArray⟩) ∧ Below w.heap.size w w' := by
  obtain ⟨R, hR⟩ : ∃ R, unescL a s.data.toList = R := ⟨_, rfl⟩
  rw [hR]
  have HR0 := Lib.hid hR; clear hR
  obtain ⟨B, hB⟩ : ∃ B, w.heap.size = B := ⟨_, rfl⟩
  rw [hB]
  have hb0 := Below.refl B w
  have HB := Lib.hid hB; clear hB
  obtain ⟨i0, hi0, hz0, hz1, hz2⟩ := info_parts infoU8
  have HI := Lib.hid hi0; clear hi0
  have HZ0 := Lib.hid hz0; clear hz0
  have HZ1 := Lib.hid hz1; clear hz1
  have HZ2 := Lib.hid hz2; clear hz2
  go_enter Tryz.func15, Tryz.ntmps15
  go_wp2_with fail
  go_loopw [5, 6] (fun v i W => unRel s a B w R v i W) (fun _ i _ => s.size - (intOf i).toNat)
  case atStart => exact ⟨0, [], Nat.zero_le _, rfl, HR0.out, Nat.le_refl _, World.ownsRow_nil _ _ _ _, by rw [HB.out]; exact Nat.le_refl _, hb0⟩
  case round =>
    obtain ⟨k, acc, hk, rfl, hr, hal, hown, hBw, hb⟩ := hrel
    by_cases hlt : k < s.size
    · have hc := sfx_cons s k hlt
      rw [hc] at hr
      have h9 : ((s[k].toNat : Int) == 38) = (s[k] == 38) := u8_beq _ 38
      have HOWN := Lib.hid hown; clear hown
      -- one byte appended
      by_cases hamp : s[k] = 38
      · rw [hamp] at hr
        have ht : ((s[k].toNat : Int) == 38) = true := by rw [h9]; simp [hamp]
        have h1 := fun W => reference_any (s.extract k s.size) a W (by simp; omega) (by simp; omega) (by
          have := extract_end s k
          have h2 := list1 (s.extract k s.size) (by simp; omega)
          rw [this, hc] at h2
          exact (List.cons.inj h2).1.symm.trans hamp)
        have hsf : sfx (s.extract k s.size) 1 = sfx s (k + 1) := by
          show (s.extract k s.size).data.toList.drop 1 = sfx s (k + 1)
          rw [extract_end, sfx_drop]
        rw [hsf] at h1
        clear hc hsf h9
        cases href : referenceL (sfx s (k + 1)) a with
        | none =>
          rw [href] at h1
          simp only [numOut] at h1
          rw [unescL_none a _ href, ← hamp] at hr
          have hr2 : (acc ++ [s[k]]) ++ unescL a (sfx s (k + 1)) = R := by rw [← hr]; simp
          have HR := Lib.hid hr2; clear hr hr2
          have H1 := Lib.hid h1; clear h1 href
          have HT := Lib.hid hamp; clear hamp
          go_wp2_with fail
          refine (H1.out _).mono ?_
          rintro e w1 ⟨rfl, hb1⟩
          have hown1 := own_below HOWN.out hb1
          have hb01 : Below B w w1 := hb.trans (hb1.mono hBw)
          have hBw1 : B ≤ w1.heap.size := by have := hb1.size; omega
          have HOWN1 := Lib.hid hown1; clear hown1
          go_wp2_with (at_builtin; refine wpList_append_own _ rfl (.tmp 34) (.tmp 38) 49 rfl B 5 i0 (.int .u8 0) 1 1 Tryz.underlying49 HI.out HZ0.out HZ1.out HZ2.out rfl (by decide) _ acc.length (bcells acc) rfl (HOWN1.out.alloc _) ⟨w1.heap.size, 0, none⟩ 1 1 [.int .u8 (s[k].toNat : Int)] rfl rfl ?c1 ?c2 ?c3 ?c4 ?c5 ?_)
          case c1 => exact cell_one_new _ _ _
          case c2 => intro u hu; simp only [List.mem_singleton] at hu; subst hu; rfl
          case c3 => simp only [maxLen]; omega
          case c4 => omega
          case c5 => simp; omega
          intro v' w2 hown2 hgrow2 _
          have hb2 := below_own (hb01.alloc hBw1 _) (by simp; omega) (HOWN1.out.alloc _) hgrow2
          rw [bcells_snoc] at hown2
          have HO2 := Lib.hid hown2; clear hown2 hgrow2
          go_wp2_with fail
          go_roundw
          case rel => exact ⟨k + 1, acc ++ [s[k]], by omega, by go_num, HR.out, by simp; omega, by rw [List.length_append]; exact HO2.out, hb2.2, hb2.1⟩
          case measure => simp [intOf]; omega
        | some x =>
          obtain ⟨t, n⟩ := x
          have hok := referenceL_ok _ _ _ _ href
          rw [sfx_length] at hok
          obtain ⟨hn1, hn2, htl⟩ := hok
          rw [href] at h1
          rw [unescL_some a _ t n href, ← hamp, ← sfx_cons s k hlt, sfx_drop, ← List.append_assoc] at hr
          have HR := Lib.hid hr; clear hr
          have hn3 : n ≤ s.size - k := by omega
          obtain ⟨ts, hts⟩ : ∃ ts : ByteArray, ⟨t.toArray⟩ = ts := ⟨_, rfl⟩
          have htz : ts.size ≤ 5 := by rw [← hts]; show t.toArray.size ≤ 5; simpa using htl
          have htc : Lib.strCells ts = bcells t := by rw [← hts]; exact bcells_str t
          have htn : ts.size = t.length := by rw [← hts]; show t.toArray.size = _; simp
          simp only [numOut, hts] at h1
          have H1 := Lib.hid h1; clear h1 href
          have HT := Lib.hid hamp; clear hamp
          have HTC := Lib.hid htc; clear htc
          have HTN := Lib.hid htn; clear htn hts
          go_wp2_with fail
          refine (H1.out _).mono ?_
          rintro e w1 ⟨rfl, hb1⟩
          have hown1 := own_below HOWN.out hb1
          have hb01 : Below B w w1 := hb.trans (hb1.mono hBw)
          have hBw1 : B ≤ w1.heap.size := by have := hb1.size; omega
          have HOWN1 := Lib.hid hown1; clear hown1
          go_wp2_with (at_builtin; go_must (refine Lib.wpList_append_own_string _ rfl (.tmp 28) (.tmp 29) 49 9 rfl B 5 i0 Tryz.underlying49 Tryz.underlying9 HI.out HZ0.out HZ1.out HZ2.out _ acc.length (bcells acc) rfl HOWN1.out ts rfl ?c3 ?c4 hBw1 ?_))
          case c3 => simp only [maxLen]; omega
          case c4 => omega
          intro v' w2 hown2 hgrow2 _
          have hb2 := below_own hb01 hBw1 HOWN1.out hgrow2
          rw [HTC.out, HTN.out, bcells_app] at hown2
          have HO2 := Lib.hid hown2; clear hown2 hgrow2
          go_wp2_with fail
          go_roundw
          case rel => exact ⟨k + n, acc ++ t, by omega, by go_num, HR.out, by simp; omega, by rw [List.length_append]; exact HO2.out, hb2.2, hb2.1⟩
          case measure => simp [intOf]; omega
      · have ht : ((s[k].toNat : Int) == 38) = false := by rw [h9]; simp [hamp]
        rw [unescL_plain a _ _ hamp] at hr
        have hr2 : (acc ++ [s[k]]) ++ unescL a (sfx s (k + 1)) = R := by rw [← hr]; simp
        have HR := Lib.hid hr2; clear hr hr2
        have HT := Lib.hid hamp; clear hamp h9 hc
        go_wp2_with (at_builtin; refine wpList_append_own _ rfl (.tmp 34) (.tmp 38) 49 rfl B 5 i0 (.int .u8 0) 1 1 Tryz.underlying49 HI.out HZ0.out HZ1.out HZ2.out rfl (by decide) _ acc.length (bcells acc) rfl (HOWN.out.alloc _) ⟨wr.heap.size, 0, none⟩ 1 1 [.int .u8 (s[k].toNat : Int)] rfl rfl ?c1 ?c2 ?c3 ?c4 ?c5 ?_)
        case c1 => exact cell_one_new _ _ _
        case c2 => intro u hu; simp only [List.mem_singleton] at hu; subst hu; rfl
        case c3 => simp only [maxLen]; omega
        case c4 => omega
        case c5 => simp; omega
        intro v' w2 hown2 hgrow2 _
        have hb2 := below_own (hb.alloc hBw _) (by simp; omega) (HOWN.out.alloc _) hgrow2
        rw [bcells_snoc] at hown2
        have HO2 := Lib.hid hown2; clear hown2 hgrow2
        go_wp2_with fail
        go_roundw
        case rel => exact ⟨k + 1, acc ++ [s[k]], by omega, by go_num, HR.out, by simp; omega, by rw [List.length_append]; exact HO2.out, hb2.2, hb2.1⟩
        case measure => simp [intOf]; omega
    · have hc := sfx_end s k (by omega)
      rw [hc, unescL_nil, List.append_nil] at hr
      have hbk := back_own wr B u5 acc hown
      rw [hr] at hbk
      have HBK := Lib.hid hbk; clear hbk
      have hshape : (u5 = .slice none 0 0) ∨ ∃ g n cap, u5 = .slice (some ⟨g, 0, none⟩) n cap := by
        rcases hown.2 with ⟨h, _⟩ | ⟨g, cap, cur, h, _⟩
        · exact .inl h
        · exact .inr ⟨g, _, cap, h⟩
      clear hr hc hown
      rcases hshape with hv | ⟨g, n, cap, hv⟩
      · rw [hv] at HBK ⊢
        have hbk := HBK.out
        clear hv
        go_wp2_with fail
        go_ret
        exact ⟨rfl, hb⟩
      · rw [hv] at HBK ⊢
        have hbk := HBK.out
        clear hv
        go_wp2_with fail
        go_ret
        exact ⟨rfl, hb⟩
end Go.Proofs.YtopmbledpalmdaaGreatDoor
