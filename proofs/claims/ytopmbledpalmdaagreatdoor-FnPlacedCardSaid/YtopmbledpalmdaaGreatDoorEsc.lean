/-
  The four escapers of impl: what they answer.
-/
import Derived.Test.YtopmbledpalmdaaGreatDoorRepl
import Derived.Test.YtopmbledpalmdaaGreatDoorHex
namespace Go.Proofs.YtopmbledpalmdaaGreatDoor
open Go.RowKit Go.Proofs

def EscAt (W : World) : Prop := Lib.Utf8Tabs 1 2 W ∧ BruijnAt W
theorem EscAt.below {W W' : World} (h : EscAt W) (hb : Below W.heap.size W W') : EscAt W' := ⟨Utf8Tabs_below h.1 hb, h.2.below hb⟩
theorem replB_big (r : Nat) (h : 63 ≤ r) : replB r = [] := by
  unfold replB
  repeat rw [if_neg (by omega)]
theorem replN_big (r : Nat) (h : 97 ≤ r) : replN r = [] := by
  unfold replN
  repeat rw [if_neg (by omega)]
theorem replB_len (r : Nat) : (replB r).length ≤ 8 := by
  have h : ∀ x : Fin 63, (replB x.val).length ≤ 8 := by decide
  by_cases hr : r < 63
  · exact h ⟨r, hr⟩
  · rw [replB_big r (by omega)]; decide
theorem replN_len (r : Nat) : (replN r).length ≤ 8 := by
  have h : ∀ x : Fin 97, (replN x.val).length ≤ 8 := by decide
  by_cases hr : r < 97
  · exact h ⟨r, hr⟩
  · rw [replN_big r (by omega)]; decide
/-- The escapers' output. -/
def encB (s : ByteArray) : ByteArray := ⟨(encL replB 63 true s.data.toList).toArray⟩
def encN (s : ByteArray) : ByteArray := ⟨(encL replN 97 false s.data.toList).toArray⟩

theorem replB_any (s : ByteArray) (W W1 : World) (hs : s.size ≤ 10000000000) (h : EscAt W) (hw : W.alloc (.cells (tabCells replB 63) 9) = W1) :
    Calls Tryz.prog 40 #[.string s, .slice (some ⟨W.heap.size, 0, none⟩) 63 63, .bool true] W1 fun e w' => e = .returned (.string (encB s)) ∧ Below W.heap.size W w' := by
  subst hw
  have hb := (Below.refl W.heap.size W).alloc (Nat.le_refl _) (.cells (tabCells replB 63) 9)
  have h1 := h.below hb
  refine (replacer_any replB 63 true s W.heap.size _ hs (by omega) replB_len (heap_alloc_new _ _) h1.1 fun W' r hb' hn => zzHex_any r W' hn (h1.2.below hb')).mono ?_
  rintro e w' ⟨rfl, hb2⟩
  exact ⟨rfl, hb.trans (hb2.mono hb.size)⟩
theorem replN_any (s : ByteArray) (W W1 : World) (hs : s.size ≤ 10000000000) (h : EscAt W) (hw : W.alloc (.cells (tabCells replN 97) 9) = W1) :
    Calls Tryz.prog 40 #[.string s, .slice (some ⟨W.heap.size, 0, none⟩) 97 97, .bool false] W1 fun e w' => e = .returned (.string (encN s)) ∧ Below W.heap.size W w' := by
  subst hw
  have hb := (Below.refl W.heap.size W).alloc (Nat.le_refl _) (.cells (tabCells replN 97) 9)
  have h1 := h.below hb
  refine (replacer_any replN 97 false s W.heap.size _ hs (by omega) replN_len (heap_alloc_new _ _) h1.1 fun W' r hb' hn => zzHex_any r W' hn (h1.2.below hb')).mono ?_
  rintro e w' ⟨rfl, hb2⟩
  exact ⟨rfl, hb.trans (hb2.mono hb.size)⟩

set_option maxRecDepth 1000000 in
theorem htmlEsc_any (s : ByteArray) (W : World) (hs : s.size ≤ 10000000000) (h : EscAt W) :
    Calls Tryz.prog 36 #[.string s, .int .u8 0] W fun e w' => e = .returned (.string (encB s)) ∧ Below W.heap.size W w' := by
  have H1 := Lib.hid fun w => tableB_any w
  have H2 := Lib.hid fun w w1 (hb : Below W.heap.size W w) hw => replB_any s w w1 hs (h.below hb) hw
  clear h
  go_enter Tryz.func36, Tryz.ntmps36
  go_wp2_with fail
  refine (H1.out _).mono ?_
  rintro e w1 ⟨rfl, hw1⟩
  have H3 := Lib.hid (H2.out _ _ (Below.refl _ W) hw1)
  clear hw1
  go_wp2_with fail
  refine H3.out.mono ?_
  rintro e w2 ⟨rfl, hb⟩
  go_wp2_with fail
  go_ret
  exact ⟨rfl, hb⟩

set_option maxRecDepth 1000000 in
theorem rcdataEsc_any (s : ByteArray) (W : World) (hs : s.size ≤ 10000000000) (h : EscAt W) :
    Calls Tryz.prog 35 #[.string s, .int .u8 0] W fun e w' => e = .returned (.string (encB s)) ∧ Below W.heap.size W w' := by
  have H1 := Lib.hid fun w => tableB_any w
  have H2 := Lib.hid fun w w1 (hb : Below W.heap.size W w) hw => replB_any s w w1 hs (h.below hb) hw
  clear h
  go_enter Tryz.func35, Tryz.ntmps35
  go_wp2_with fail
  refine (H1.out _).mono ?_
  rintro e w1 ⟨rfl, hw1⟩
  have H3 := Lib.hid (H2.out _ _ (Below.refl _ W) hw1)
  clear hw1
  go_wp2_with fail
  refine H3.out.mono ?_
  rintro e w2 ⟨rfl, hb⟩
  go_wp2_with fail
  go_ret
  exact ⟨rfl, hb⟩

set_option maxRecDepth 1000000 in
theorem attrEsc_any (s : ByteArray) (W : World) (hs : s.size ≤ 10000000000) (h : EscAt W) :
    Calls Tryz.prog 33 #[.string s, .int .u8 0] W fun e w' => e = .returned (.string (encB s)) ∧ Below W.heap.size W w' := by
  have H1 := Lib.hid fun w => tableB_any w
  have H2 := Lib.hid fun w w1 (hb : Below W.heap.size W w) hw => replB_any s w w1 hs (h.below hb) hw
  clear h
  go_enter Tryz.func33, Tryz.ntmps33
  go_wp2_with fail
  refine (H1.out _).mono ?_
  rintro e w1 ⟨rfl, hw1⟩
  have H3 := Lib.hid (H2.out _ _ (Below.refl _ W) hw1)
  clear hw1
  go_wp2_with fail
  refine H3.out.mono ?_
  rintro e w2 ⟨rfl, hb⟩
  go_wp2_with fail
  go_ret
  exact ⟨rfl, hb⟩

set_option maxRecDepth 1000000 in
theorem nospaceEsc_any (s : ByteArray) (W : World) (hs : s.size ≤ 10000000000) (h : EscAt W) (hne : s.data.toList ≠ []) :
    Calls Tryz.prog 34 #[.string s, .int .u8 0] W fun e w' => e = .returned (.string (encN s)) ∧ Below W.heap.size W w' := by
  have H1 := Lib.hid fun w => tableN_any w
  have H2 := Lib.hid fun w w1 (hb : Below W.heap.size W w) hw => replN_any s w w1 hs (h.below hb) hw
  clear h
  have t2 : s.toList.isEmpty = false := by rw [Lib.toList_data]; simpa using hne
  go_enter Tryz.func34, Tryz.ntmps34
  go_wp2_with fail
  refine (H1.out _).mono ?_
  rintro e w1 ⟨rfl, hw1⟩
  have H3 := Lib.hid (H2.out _ _ (Below.refl _ W) hw1)
  clear hw1
  go_wp2_with fail
  refine H3.out.mono ?_
  rintro e w2 ⟨rfl, hb⟩
  go_wp2_with fail
  go_ret
  exact ⟨rfl, hb⟩

set_option maxRecDepth 1000000 in
theorem zztext_any (s : ByteArray) (W : World) (hs : s.size ≤ 10000000000) (h : EscAt W) :
    Calls Tryz.prog 22 #[.string s] W fun e w' => e = .returned (.string (encB s)) ∧ Below W.heap.size W w' := by
  have H1 := Lib.hid (htmlEsc_any s W hs h)
  clear h
  go_enter Tryz.func22, Tryz.ntmps22
  go_wp2_with fail
  refine H1.out.mono ?_
  rintro e w1 ⟨rfl, hb⟩
  go_wp2_with fail
  go_ret
  exact ⟨rfl, hb⟩

set_option maxRecDepth 1000000 in
theorem impl_text_any (s : ByteArray) (W : World) (hs : s.size ≤ 10000000000) (h : EscAt W) :
    Calls Tryz.prog 9 #[.string s] W fun e w' => e = .returned (.string (encB s)) ∧ Below W.heap.size W w' := by
  have H1 := Lib.hid (zztext_any s W hs h)
  clear h
  go_enter Tryz.func9, Tryz.ntmps9
  go_wp2_with fail
  refine H1.out.mono ?_
  rintro e w1 ⟨rfl, hb⟩
  go_wp2_with fail
  go_ret
  exact ⟨rfl, hb⟩

set_option maxRecDepth 1000000 in
theorem zzrcdata_any (s : ByteArray) (W : World) (hs : s.size ≤ 10000000000) (h : EscAt W) :
    Calls Tryz.prog 21 #[.string s] W fun e w' => e = .returned (.string (encB s)) ∧ Below W.heap.size W w' := by
  have H1 := Lib.hid (rcdataEsc_any s W hs h)
  clear h
  go_enter Tryz.func21, Tryz.ntmps21
  go_wp2_with fail
  refine H1.out.mono ?_
  rintro e w1 ⟨rfl, hb⟩
  go_wp2_with fail
  go_ret
  exact ⟨rfl, hb⟩

set_option maxRecDepth 1000000 in
theorem impl_rcdata_any (s : ByteArray) (W : World) (hs : s.size ≤ 10000000000) (h : EscAt W) :
    Calls Tryz.prog 8 #[.string s] W fun e w' => e = .returned (.string (encB s)) ∧ Below W.heap.size W w' := by
  have H1 := Lib.hid (zzrcdata_any s W hs h)
  clear h
  go_enter Tryz.func8, Tryz.ntmps8
  go_wp2_with fail
  refine H1.out.mono ?_
  rintro e w1 ⟨rfl, hb⟩
  go_wp2_with fail
  go_ret
  exact ⟨rfl, hb⟩

set_option maxRecDepth 1000000 in
theorem zzquoted_any (s : ByteArray) (W : World) (hs : s.size ≤ 10000000000) (h : EscAt W) :
    Calls Tryz.prog 19 #[.string s] W fun e w' => e = .returned (.string (encB s)) ∧ Below W.heap.size W w' := by
  have H1 := Lib.hid (attrEsc_any s W hs h)
  clear h
  go_enter Tryz.func19, Tryz.ntmps19
  go_wp2_with fail
  refine H1.out.mono ?_
  rintro e w1 ⟨rfl, hb⟩
  go_wp2_with fail
  go_ret
  exact ⟨rfl, hb⟩

set_option maxRecDepth 1000000 in
theorem impl_quoted_any (s : ByteArray) (W : World) (hs : s.size ≤ 10000000000) (h : EscAt W) :
    Calls Tryz.prog 6 #[.string s] W fun e w' => e = .returned (.string (encB s)) ∧ Below W.heap.size W w' := by
  have H1 := Lib.hid (zzquoted_any s W hs h)
  clear h
  go_enter Tryz.func6, Tryz.ntmps6
  go_wp2_with fail
  refine H1.out.mono ?_
  rintro e w1 ⟨rfl, hb⟩
  go_wp2_with fail
  go_ret
  exact ⟨rfl, hb⟩

set_option maxRecDepth 1000000 in
theorem zzunquoted_any (s : ByteArray) (W : World) (hs : s.size ≤ 10000000000) (h : EscAt W) (hne : s.data.toList ≠ []) :
    Calls Tryz.prog 20 #[.string s] W fun e w' => e = .returned (.string (encN s)) ∧ Below W.heap.size W w' := by
  have H1 := Lib.hid (nospaceEsc_any s W hs h hne)
  clear h
  go_enter Tryz.func20, Tryz.ntmps20
  go_wp2_with fail
  refine H1.out.mono ?_
  rintro e w1 ⟨rfl, hb⟩
  go_wp2_with fail
  go_ret
  exact ⟨rfl, hb⟩

set_option maxRecDepth 1000000 in
theorem impl_unquoted_any (s : ByteArray) (W : World) (hs : s.size ≤ 10000000000) (h : EscAt W) (hne : s.data.toList ≠ []) :
    Calls Tryz.prog 7 #[.string s] W fun e w' => e = .returned (.string (encN s)) ∧ Below W.heap.size W w' := by
  have H1 := Lib.hid (zzunquoted_any s W hs h hne)
  clear h
  go_enter Tryz.func7, Tryz.ntmps7
  go_wp2_with fail
  refine H1.out.mono ?_
  rintro e w1 ⟨rfl, hb⟩
  go_wp2_with fail
  go_ret
  exact ⟨rfl, hb⟩
end Go.Proofs.YtopmbledpalmdaaGreatDoor
