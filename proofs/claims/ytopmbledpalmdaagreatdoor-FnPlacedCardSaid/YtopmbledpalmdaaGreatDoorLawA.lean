/-
  Plain laws of the escapers' output: unescaped it is the value again; it has none of the signs that would end it; its references are known ones; its bytes are valid where the value's are.
-/
import Derived.Test.YtopmbledpalmdaaGreatDoorEnc
import Derived.Test.YtopmbledpalmdaaGreatDoorSnip
import Derived.KernelRfl
namespace Go.Proofs.YtopmbledpalmdaaGreatDoor

theorem sizeL_cases (l : Bs) (h : sizeL l ≠ 0) :
    (∃ c q, l = c :: q ∧ c.toNat < 128) ∨
    (∃ c c1 q, l = c :: c1 :: q ∧ 194 ≤ c.toNat ∧ c.toNat < 224 ∧ c1.toNat / 64 = 2) ∨
    (∃ c c1 c2 q, l = c :: c1 :: c2 :: q ∧ 224 ≤ c.toNat ∧ c.toNat < 240 ∧ (c1.toNat / 64 = 2 ∧ c2.toNat / 64 = 2) ∧ ¬ ((c.toNat % 16 * 64 + c1.toNat % 64) * 64 + c2.toNat % 64 < 2048 ∨ (55296 ≤ (c.toNat % 16 * 64 + c1.toNat % 64) * 64 + c2.toNat % 64 ∧ (c.toNat % 16 * 64 + c1.toNat % 64) * 64 + c2.toNat % 64 ≤ 57343))) ∨
    (∃ c c1 c2 c3 q, l = c :: c1 :: c2 :: c3 :: q ∧ 240 ≤ c.toNat ∧ c.toNat < 245 ∧ (c1.toNat / 64 = 2 ∧ c2.toNat / 64 = 2 ∧ c3.toNat / 64 = 2) ∧ ¬ (((c.toNat % 8 * 64 + c1.toNat % 64) * 64 + c2.toNat % 64) * 64 + c3.toNat % 64 < 65536 ∨ 1114111 < ((c.toNat % 8 * 64 + c1.toNat % 64) * 64 + c2.toNat % 64) * 64 + c3.toNat % 64)) := by
  rcases l with _ | ⟨c, r⟩
  · exact absurd rfl h
  · simp only [sizeL] at h
    split at h
    · rename_i h1; exact .inl ⟨c, r, rfl, h1⟩
    · split at h
      · rename_i h1
        rcases r with _ | ⟨c1, q⟩
        · exact absurd rfl h
        · simp only [] at h
          split at h
          · rename_i h2; exact .inr (.inl ⟨c, c1, q, rfl, h1.1, h1.2, h2⟩)
          · exact absurd rfl h
      · split at h
        · rename_i h1
          rcases r with _ | ⟨c1, _ | ⟨c2, q⟩⟩
          · exact absurd rfl h
          · exact absurd rfl h
          · simp only [] at h
            split at h
            · rename_i h2
              split at h
              · exact absurd rfl h
              · rename_i h3; exact .inr (.inr (.inl ⟨c, c1, c2, q, rfl, h1.1, h1.2, h2, h3⟩))
            · exact absurd rfl h
        · split at h
          · rename_i h1
            rcases r with _ | ⟨c1, _ | ⟨c2, _ | ⟨c3, q⟩⟩⟩
            · exact absurd rfl h
            · exact absurd rfl h
            · exact absurd rfl h
            · simp only [] at h
              split at h
              · rename_i h2
                split at h
                · exact absurd rfl h
                · rename_i h3; exact .inr (.inr (.inr ⟨c, c1, c2, c3, q, rfl, h1.1, h1.2, h2, h3⟩))
              · exact absurd rfl h
          · exact absurd rfl h

theorem u8_eq {a b : UInt8} (h : a.toNat = b.toNat) : a = b := UInt8.toNat_inj.1 h
theorem ofNat_toNat' (n : Nat) (h : n < 256) : (UInt8.ofNat n).toNat = n := by simp; omega

/-- The character in front of a valid text. -/
structure Front (l : Bs) (r w : Nat) : Prop where
  pos : 1 ≤ w
  le : w ≤ l.length
  size : sizeL l = w
  again : ∀ rest, sizeL (l.take w ++ rest) = w
  kind : (∃ c q, l = c :: q ∧ c.toNat < 128 ∧ r = c.toNat ∧ w = 1) ∨ (128 ≤ r ∧ (∀ x ∈ l.take w, 128 ≤ x.toNat) ∧ (nonB r = true → codedL r = l.take w))

theorem front_any (l : Bs) (h : sizeL l ≠ 0) : Front l (runL l).1 (runL l).2 := by
  rcases sizeL_cases l h with ⟨c, q, rfl, h1⟩ | ⟨c, c1, q, rfl, h1, h2, h3⟩ | ⟨c, c1, c2, q, rfl, h1, h2, h3, h4⟩ | ⟨c, c1, c2, c3, q, rfl, h1, h2, h3, h4⟩
  · have hr : runL (c :: q) = (c.toNat, 1) := by
      unfold runL
      rw [Lib.decodeL_N]
      exact Lib.decodeN_ascii _ _ _ _ _ h1
    rw [hr]
    have hs : ∀ q, sizeL (c :: q) = 1 := fun q => by simp only [sizeL]; rw [if_pos h1]
    exact ⟨Nat.le_refl _, by simp, hs q, fun rest => hs _, .inl ⟨c, q, rfl, h1, rfl, rfl⟩⟩
  · have hr : runL (c :: c1 :: q) = (c.toNat % 32 * 64 + c1.toNat % 64, 2) := by
      unfold runL
      rw [Lib.decodeL_N]
      simp only [List.getD_cons_zero, List.getD_cons_succ, List.length_cons]
      unfold Lib.decodeN
      rw [if_neg (by omega), if_pos ⟨by omega, by omega, by omega⟩, if_pos (by omega)]
    rw [hr]
    have hs : ∀ q, sizeL (c :: c1 :: q) = 2 := fun q => by simp only [sizeL]; rw [if_neg (by omega), if_pos ⟨h1, h2⟩, if_pos h3]
    refine ⟨by simp, by simp, hs q, fun rest => hs _, .inr ⟨by simp only []; omega, ?_, ?_⟩⟩
    · intro x hx
      simp only [List.take_succ_cons, List.take_zero, List.mem_cons, List.mem_nil_iff, or_false] at hx
      rcases hx with rfl | rfl <;> omega
    · intro hn
      simp only [nonB, Bool.or_eq_true, Bool.and_eq_true, decide_eq_true_eq] at hn
      have := UInt8.toNat_lt c
      omega
  · have hr : runL (c :: c1 :: c2 :: q) = (c.toNat % 16 * 4096 + c1.toNat % 64 * 64 + c2.toNat % 64, 3) := by
      unfold runL
      rw [Lib.decodeL_N]
      simp only [List.getD_cons_zero, List.getD_cons_succ, List.length_cons]
      unfold Lib.decodeN
      rw [if_neg (by omega), if_neg (by omega), if_pos ⟨by omega, ⟨by omega, by omega⟩, by omega, by omega⟩, if_pos ⟨by omega, by omega⟩]
    rw [hr]
    have hs : ∀ q, sizeL (c :: c1 :: c2 :: q) = 3 := fun q => by simp only [sizeL]; rw [if_neg (by omega), if_neg (by omega), if_pos ⟨h1, h2⟩, if_pos h3, if_neg h4]
    refine ⟨by simp, by simp, hs q, fun rest => hs _, .inr ⟨by simp only []; omega, ?_, ?_⟩⟩
    · intro x hx
      simp only [List.take_succ_cons, List.take_zero, List.mem_cons, List.mem_nil_iff, or_false] at hx
      rcases hx with rfl | rfl | rfl <;> omega
    · intro _
      obtain ⟨r, hrr⟩ : ∃ r, c.toNat % 16 * 4096 + c1.toNat % 64 * 64 + c2.toNat % 64 = r := ⟨_, rfl⟩
      simp only [List.take_succ_cons, List.take_zero, hrr]
      unfold codedL
      rw [if_neg (by omega), if_neg (by omega), if_pos (by omega)]
      congr 1
      · apply u8_eq; rw [ofNat_toNat' _ (by omega)]; omega
      · congr 1
        · apply u8_eq; rw [ofNat_toNat' _ (by omega)]; omega
        · congr 1
          apply u8_eq; rw [ofNat_toNat' _ (by omega)]; omega
  · have hr : runL (c :: c1 :: c2 :: c3 :: q) = (c.toNat % 8 * 262144 + c1.toNat % 64 * 4096 + c2.toNat % 64 * 64 + c3.toNat % 64, 4) := by
      unfold runL
      rw [Lib.decodeL_N]
      simp only [List.getD_cons_zero, List.getD_cons_succ, List.length_cons]
      unfold Lib.decodeN
      rw [if_neg (by omega), if_neg (by omega), if_neg (by omega), if_pos ⟨by omega, ⟨by omega, by omega⟩, ⟨by omega, by omega⟩, by omega, by omega⟩, if_pos ⟨by omega, by omega⟩]
    rw [hr]
    have hs : ∀ q, sizeL (c :: c1 :: c2 :: c3 :: q) = 4 := fun q => by simp only [sizeL]; rw [if_neg (by omega), if_neg (by omega), if_neg (by omega), if_pos ⟨h1, h2⟩, if_pos h3, if_neg h4]
    refine ⟨by simp, by simp, hs q, fun rest => hs _, .inr ⟨by simp only []; omega, ?_, ?_⟩⟩
    · intro x hx
      simp only [List.take_succ_cons, List.take_zero, List.mem_cons, List.mem_nil_iff, or_false] at hx
      rcases hx with rfl | rfl | rfl | rfl <;> omega
    · intro hn
      simp only [nonB, Bool.or_eq_true, Bool.and_eq_true, decide_eq_true_eq] at hn
      omega

/-- A piece of an escaper's output: what it stands for. -/
structure Chunk (bad : Bs) (c e : Bs) : Prop where
  un : ∀ a rest, unescL a (e ++ rest) = c ++ unescL a rest
  ok : ∀ x ∈ e, x ∉ bad
  kn : ∀ rest, knownL (e ++ rest) = knownL rest
  va : ∀ rest, validL (e ++ rest) = validL rest
  ne : e ≠ []
inductive Emb (bad : Bs) : Bs → Bs → Prop
  | nil : Emb bad [] []
  | cons {c e l E : Bs} (h : Chunk bad c e) (t : Emb bad l E) : Emb bad (c ++ l) (e ++ E)
theorem Emb.un {bad l E : Bs} (h : Emb bad l E) (a : Bool) (rest : Bs) : unescL a (E ++ rest) = l ++ unescL a rest := by
  induction h with
  | nil => rfl
  | cons h t ih => rw [List.append_assoc, h.un, ih, List.append_assoc]
theorem Emb.kn {bad l E : Bs} (h : Emb bad l E) (rest : Bs) : knownL (E ++ rest) = knownL rest := by
  induction h with
  | nil => rfl
  | cons h t ih => rw [List.append_assoc, h.kn, ih]
theorem Emb.va {bad l E : Bs} (h : Emb bad l E) (rest : Bs) : validL (E ++ rest) = validL rest := by
  induction h with
  | nil => rfl
  | cons h t ih => rw [List.append_assoc, h.va, ih]
theorem Emb.ok {bad l E : Bs} (h : Emb bad l E) : ∀ x ∈ E, x ∉ bad := by
  induction h with
  | nil => intro x hx; cases hx
  | cons h t ih =>
    intro x hx
    rcases List.mem_append.1 hx with hx | hx
    · exact h.ok x hx
    · exact ih x hx
theorem Emb.ne {bad l E : Bs} (h : Emb bad l E) (hl : l ≠ []) : E ≠ [] := by
  cases h with
  | nil => exact absurd rfl hl
  | cons h t =>
    intro he
    exact h.ne (List.append_eq_nil_iff.1 he).1

theorem un_plain (a : Bool) (rest : Bs) : ∀ e : Bs, (∀ x ∈ e, x ≠ 38) → unescL a (e ++ rest) = e ++ unescL a rest
  | [], _ => rfl
  | c :: r, h => by
    rw [List.cons_append, unescL_plain a c _ (h c (List.mem_cons_self ..)), un_plain a rest r fun x hx => h x (List.mem_cons_of_mem _ hx)]
    rfl
theorem kn_plain (rest : Bs) : ∀ e : Bs, (∀ x ∈ e, x ≠ 38) → knownL (e ++ rest) = knownL rest
  | [], _ => rfl
  | c :: r, h => by
    have : (c == 38) = false := by simp [h c (List.mem_cons_self ..)]
    rw [List.cons_append]
    simp only [knownL, this, Bool.false_eq_true, if_false]
    exact kn_plain rest r fun x hx => h x (List.mem_cons_of_mem _ hx)
theorem va_ascii (rest : Bs) : ∀ e : Bs, (∀ x ∈ e, x.toNat < 128) → validL (e ++ rest) = validL rest
  | [], _ => rfl
  | c :: r, h => by
    have hc := h c (List.mem_cons_self ..)
    have hs : sizeL (c :: (r ++ rest)) = 1 := by simp only [sizeL]; rw [if_pos hc]
    rw [List.cons_append, validL_step _ (by simp), hs, if_neg (by omega)]
    exact va_ascii rest r fun x hx => h x (List.mem_cons_of_mem _ hx)

theorem chunk_copy (bad l : Bs) (r w : Nat) (h : Front l r w) (h38 : ∀ x ∈ l.take w, x ≠ 38) (hok : ∀ x ∈ l.take w, x ∉ bad) : Chunk bad (l.take w) (l.take w) := by
  have hl : (l.take w).length = w := by rw [List.length_take]; exact Nat.min_eq_left h.le
  have hne : l.take w ≠ [] := by intro e; rw [e] at hl; have := h.pos; simp at hl; omega
  refine ⟨fun a rest => un_plain a rest _ h38, hok, fun rest => kn_plain rest _ h38, fun rest => ?_, hne⟩
  rw [validL_step _ (by simp [hne]), h.again, if_neg (by have := h.pos; omega)]
  rw [List.drop_append_of_le_length (by omega), List.drop_eq_nil_of_le (by omega)]
  rfl
theorem chunk_ref (bad t q : Bs) (hq : ∀ rest a, referenceL (q ++ rest) a = some (t, q.length + 1)) (hk : ∀ rest, knownAt (q ++ rest) = true) (h38 : ∀ x ∈ q, x ≠ 38) (ha : ∀ x ∈ q, x.toNat < 128) (hok : ∀ x ∈ 38 :: q, x ∉ bad) : Chunk bad t (38 :: q) := by
  refine ⟨fun a rest => ?_, hok, fun rest => ?_, fun rest => va_ascii rest _ ?_, by simp⟩
  · rw [List.cons_append, unescL_some a _ t _ (hq rest a), List.drop_succ_cons, List.drop_append_of_le_length (Nat.le_refl _), List.drop_eq_nil_of_le (Nat.le_refl _)]
    rfl
  · rw [List.cons_append]
    simp only [knownL, hk rest, if_true]
    exact kn_plain rest q h38
  · intro x hx
    rcases List.mem_cons.1 hx with rfl | hx
    · decide
    · exact ha x hx

theorem digitsL_step (base v : Nat) (c : UInt8) (r : Bs) (h : digV c < base) (hv : v * base + digV c ≤ 1114112) :
    digitsL base v (c :: r) = ((digitsL base (v * base + digV c) r).1, (digitsL base (v * base + digV c) r).2 + 1) := by
  simp only [digitsL, if_pos h, Nat.min_eq_left hv]
theorem digitsL_stop (base v : Nat) (c : UInt8) (r : Bs) (h : ¬ digV c < base) : digitsL base v (c :: r) = (v, 0) := by
  simp only [digitsL, if_neg h]
theorem digV_hexB (d : Nat) (h : d < 16) : digV (hexB d) = d := by
  have : ∀ x : Fin 16, digV (hexB x.val) = x.val := by decide
  exact this ⟨d, h⟩
theorem hexB_ascii (d : Nat) (h : d < 16) : (hexB d).toNat < 128 ∧ hexB d ≠ 38 ∧ hexB d ≠ 0 ∧ hexB d ≠ 13 ∧ hexB d ≠ 34 ∧ hexB d ≠ 39 ∧ hexB d ≠ 60 ∧ hexB d ≠ 62 ∧ hexB d ≠ 32 ∧ hexB d ≠ 10 ∧ hexB d ≠ 9 ∧ hexB d ≠ 12 ∧ hexB d ≠ 61 ∧ hexB d ≠ 96 := by
  have : ∀ x : Fin 16, (hexB x.val).toNat < 128 ∧ hexB x.val ≠ 38 ∧ hexB x.val ≠ 0 ∧ hexB x.val ≠ 13 ∧ hexB x.val ≠ 34 ∧ hexB x.val ≠ 39 ∧ hexB x.val ≠ 60 ∧ hexB x.val ≠ 62 ∧ hexB x.val ≠ 32 ∧ hexB x.val ≠ 10 ∧ hexB x.val ≠ 9 ∧ hexB x.val ≠ 12 ∧ hexB x.val ≠ 61 ∧ hexB x.val ≠ 96 := by decide
  exact this ⟨d, h⟩
/-- The bytes that would end a value. -/
def badB : Bs := [0, 13, 34, 39, 60, 62]
def badN : Bs := [0, 13, 34, 39, 60, 62, 32, 10, 9, 12, 61, 96]

theorem ref_hex (r : Nat) (hr : nonB r = true) (rest : Bs) (a : Bool) : referenceL ([35, 120] ++ hexL r ++ [59] ++ rest) a = some (codedL r, 8) := by
  have hr' : 4096 ≤ r ∧ r < 65536 := by
    simp only [nonB, Bool.or_eq_true, Bool.and_eq_true, decide_eq_true_eq] at hr
    omega
  have h57 : ¬ (57344 > r) := by
    simp only [nonB, Bool.or_eq_true, Bool.and_eq_true, decide_eq_true_eq] at hr
    omega
  have hd : digitsL 16 0 (hexB (r / 4096) :: hexB (r / 256 % 16) :: hexB (r / 16 % 16) :: hexB (r % 16) :: 59 :: rest) = (r, 4) := by
    rw [digitsL_step _ _ _ _ (by rw [digV_hexB _ (by omega)]; omega) (by rw [digV_hexB _ (by omega)]; omega), digV_hexB _ (by omega)]
    rw [digitsL_step _ _ _ _ (by rw [digV_hexB _ (by omega)]; omega) (by rw [digV_hexB _ (by omega)]; omega), digV_hexB _ (by omega)]
    rw [digitsL_step _ _ _ _ (by rw [digV_hexB _ (by omega)]; omega) (by rw [digV_hexB _ (by omega)]; omega), digV_hexB _ (by omega)]
    rw [digitsL_step _ _ _ _ (by rw [digV_hexB _ (by omega)]; omega) (by rw [digV_hexB _ (by omega)]; omega), digV_hexB _ (by omega)]
    rw [digitsL_stop _ _ _ _ (by decide)]
    refine Prod.ext ?_ rfl
    show (((0 * 16 + r / 4096) * 16 + r / 256 % 16) * 16 + r / 16 % 16) * 16 + r % 16 = r
    omega
  have hc : charOfL r = r := by
    unfold charOfL
    rw [if_neg (by omega), if_neg (by omega)]
  simp only [hexL, List.cons_append, List.nil_append, referenceL]
  rw [if_pos (by decide)]
  unfold numericL
  simp only [List.head?_cons, List.drop_succ_cons, List.drop_zero, show ((some (120 : UInt8) == some 120) = true) from rfl, Bool.true_or, if_true, hd, hc]
  rfl
theorem chunk_hex (bad : Bs) (hbad : ∀ x ∈ bad, x ∈ badN) (r : Nat) (hr : nonB r = true) : Chunk bad (codedL r) ([38, 35, 120] ++ hexL r ++ [59]) := by
  have hr' : 4096 ≤ r ∧ r < 65536 := by
    simp only [nonB, Bool.or_eq_true, Bool.and_eq_true, decide_eq_true_eq] at hr
    omega
  have h1 := hexB_ascii (r / 4096) (by omega)
  have h2 := hexB_ascii (r / 256 % 16) (by omega)
  have h3 := hexB_ascii (r / 16 % 16) (by omega)
  have h4 := hexB_ascii (r % 16) (by omega)
  refine chunk_ref bad (codedL r) ([35, 120] ++ hexL r ++ [59]) (fun rest a => ref_hex r hr rest a) (fun rest => rfl) ?_ ?_ ?_
  · intro x hx
    simp only [hexL, List.cons_append, List.nil_append, List.mem_cons, List.mem_nil_iff, or_false] at hx
    rcases hx with rfl | rfl | rfl | rfl | rfl | rfl | rfl
    · decide
    · decide
    · exact h1.2.1
    · exact h2.2.1
    · exact h3.2.1
    · exact h4.2.1
    · decide
  · intro x hx
    simp only [hexL, List.cons_append, List.nil_append, List.mem_cons, List.mem_nil_iff, or_false] at hx
    rcases hx with rfl | rfl | rfl | rfl | rfl | rfl | rfl
    · decide
    · decide
    · exact h1.1
    · exact h2.1
    · exact h3.1
    · exact h4.1
    · decide
  · intro x hx hb
    have hb' := hbad x hb
    simp only [badN, List.mem_cons, List.mem_nil_iff, or_false] at hb'
    simp only [hexL, List.cons_append, List.nil_append, List.mem_cons, List.mem_nil_iff, or_false] at hx
    rcases hx with rfl | rfl | rfl | rfl | rfl | rfl | rfl | rfl
    · revert hb'; decide
    · revert hb'; decide
    · revert hb'; decide
    · simp [h1] at hb'
    · simp [h2] at hb'
    · simp [h3] at hb'
    · simp [h4] at hb'
    · revert hb'; decide
theorem mem_of_all {P : UInt8 → Bool} {l : Bs} (h : l.all P = true) : ∀ x ∈ l, P x = true := fun x hx => List.all_eq_true.1 h x hx
/-- A reference without letters that vary. -/
theorem chunk_lit (bad t q : Bs) (hq : ∀ rest a, referenceL (q ++ rest) a = some (t, q.length + 1)) (hk : ∀ rest, knownAt (q ++ rest) = true) (hall : (q.all fun x => x != 38 && decide (x.toNat < 128)) = true) (hok : ((38 :: q).all fun x => !bad.contains x) = true) : Chunk bad t (38 :: q) := by
  refine chunk_ref bad t q hq hk (fun x hx => ?_) (fun x hx => ?_) (fun x hx => ?_)
  · have := mem_of_all hall x hx; simp at this; exact this.1
  · have := mem_of_all hall x hx; simp at this; exact this.2
  · have := mem_of_all hok x hx; simpa using this
def bareRefs : List (Bs × Bs) := [([35, 51, 52, 59], [34]), ([97, 109, 112, 59], [38]), ([35, 51, 57, 59], [39]), ([35, 52, 51, 59], [43]), ([108, 116, 59], [60]), ([103, 116, 59], [62]),
  ([35, 57, 59], [9]), ([35, 49, 48, 59], [10]), ([35, 49, 49, 59], [11]), ([35, 49, 50, 59], [12]), ([35, 51, 50, 59], [32]), ([35, 54, 49, 59], [61]), ([35, 57, 54, 59], [96])]
set_option maxRecDepth 100000 in
theorem chunk_bare (bad : Bs) (hbad : (badN.all fun _ => true) = true → ∀ x ∈ bad, x ∈ badN) : ∀ p ∈ bareRefs, Chunk bad p.2 (38 :: p.1) := by
  have hb := hbad (by decide)
  have key : ∀ p ∈ bareRefs, (∀ rest a, referenceL (p.1 ++ rest) a = some (p.2, p.1.length + 1)) ∧ (∀ rest, knownAt (p.1 ++ rest) = true) := by
    intro p hp
    simp only [bareRefs, List.mem_cons, List.mem_nil_iff, or_false] at hp
    rcases hp with rfl | rfl | rfl | rfl | rfl | rfl | rfl | rfl | rfl | rfl | rfl | rfl | rfl
    all_goals exact ⟨fun rest a => by cases a <;> kernel_rfl, fun rest => by kernel_rfl⟩
  have hall : ∀ p ∈ bareRefs, (p.1.all fun x => x != 38 && decide (x.toNat < 128)) = true := by decide
  have hok : ∀ p ∈ bareRefs, ((38 :: p.1).all fun x => !badN.contains x) = true := by decide
  intro p hp
  refine chunk_ref bad p.2 p.1 (key p hp).1 (key p hp).2 (fun x hx => ?_) (fun x hx => ?_) (fun x hx hxb => ?_)
  · have := mem_of_all (hall p hp) x hx; simp at this; exact this.1
  · have := mem_of_all (hall p hp) x hx; simp at this; exact this.2
  · have := mem_of_all (hok p hp) x hx
    have h2 := hb x hxb
    simp at this
    exact this h2
end Go.Proofs.YtopmbledpalmdaaGreatDoor
