/-
  Plain laws: the escapers' output stands for the value, at both tables.
-/
import Derived.Test.YtopmbledpalmdaaGreatDoorLawA
namespace Go.Proofs.YtopmbledpalmdaaGreatDoor

theorem any_drop (l : Bs) (w : Nat) (P : UInt8 → Bool) (h : l.any P = false) : (l.drop w).any P = false := by
  rw [List.any_eq_false] at h ⊢
  exact fun x hx => h x (List.mem_of_mem_drop hx)
theorem no_zero (l : Bs) (h : hasAnyL l [0, 13] = false) (x : UInt8) (hx : x ∈ l) : x ≠ 0 ∧ x ≠ 13 := by
  unfold hasAnyL at h
  rw [List.any_eq_false] at h
  have := h x hx
  simp [hasL] at this
  exact ⟨fun e => this.1 e.symm, fun e => this.2 e.symm⟩

theorem emb_any (tab : Nat → Bs) (n : Nat) (bad : Bool) (no : Bs) (hno : ∀ x ∈ no, x ∈ badN) (hn : n ≤ 128)
    (hT : ∀ r, r < n → r ≠ 0 → r ≠ 13 → tab r ≠ [] → Chunk no [UInt8.ofNat r] (tab r))
    (hS : ∀ r, r < 128 → r ≠ 0 → r ≠ 13 → (r < n → tab r = []) → UInt8.ofNat r ≠ 38 ∧ UInt8.ofNat r ∉ no) :
    ∀ (f : Nat) (l : Bs), l.length ≤ f → validL l = true → hasAnyL l [0, 13] = false → Emb no l (encL tab n bad l)
  | 0, l, hf, _, _ => by
    have : l = [] := List.eq_nil_of_length_eq_zero (by omega)
    subst this
    exact .nil
  | f + 1, l, hf, hv, hz => by
    by_cases hl : l = []
    · subst hl; exact .nil
    · rw [validL_step l hl] at hv
      have hs : sizeL l ≠ 0 := by intro e; rw [if_pos e] at hv; cases hv
      rw [if_neg hs] at hv
      have hF := front_any l hs
      rw [encL_step tab n bad l hl]
      generalize (runL l).1 = r at hF ⊢
      generalize (runL l).2 = w at hF ⊢
      rw [hF.size] at hv
      have hpos := hF.pos
      have ht := emb_any tab n bad no hno hn hT hS f (l.drop w) (by rw [List.length_drop]; omega) hv (any_drop l w _ hz)
      have h128 : ∀ x ∈ no, x.toNat < 128 := by
        intro x hx
        have h : ∀ y ∈ badN, y.toNat < 128 := by decide
        exact h x (hno x hx)
      have key : Chunk no (l.take w) (match replOf tab n bad r with | some t => t | none => l.take w) := by
        rcases hF.kind with ⟨c, q, rfl, hc, rfl, rfl⟩ | ⟨hr, hbig, hcode⟩
        · obtain ⟨h0, h13⟩ := no_zero _ hz c (List.mem_cons_self ..)
          have h0' : c.toNat ≠ 0 := fun e => h0 (u8_eq e)
          have h13' : c.toNat ≠ 13 := fun e => h13 (u8_eq e)
          have hnb : nonB c.toNat = false := by
            simp only [nonB, Bool.or_eq_false_iff, Bool.and_eq_false_iff, decide_eq_false_iff_not]
            omega
          have hcc : UInt8.ofNat c.toNat = c := by simp
          have htk : (c :: q).take 1 = [c] := rfl
          have hcopy : (c.toNat < n → tab c.toNat = []) → Chunk no ((c :: q).take 1) ((c :: q).take 1) := by
            intro htab
            have h := hS c.toNat hc h0' h13' htab
            rw [hcc] at h
            refine chunk_copy no (c :: q) c.toNat 1 hF ?_ ?_
            · intro x hx; rw [htk, List.mem_singleton] at hx; rw [hx]; exact h.1
            · intro x hx; rw [htk, List.mem_singleton] at hx; rw [hx]; exact h.2
          unfold replOf
          by_cases hlt : c.toNat < n
          · rw [if_pos hlt]
            by_cases htab : tab c.toNat = []
            · rw [if_pos htab]; exact hcopy fun _ => htab
            · rw [if_neg htab, htk]
              have h := hT c.toNat hlt h0' h13' htab
              rw [hcc] at h
              exact h
          · rw [if_neg hlt, hnb, Bool.and_false]
            exact hcopy fun h => absurd h hlt
        · unfold replOf
          rw [if_neg (by omega)]
          by_cases hnb : nonB r = true
          · cases bad with
            | false =>
              rw [hnb, ← hcode hnb]
              exact chunk_hex no hno r hnb
            | true =>
              refine chunk_copy no l r w hF ?_ ?_
              · intro x hx e; have := hbig x hx; subst e; revert this; decide
              · intro x hx e; have := hbig x hx; have := h128 x e; omega
          · rw [Bool.not_eq_true] at hnb
            rw [hnb, Bool.and_false]
            refine chunk_copy no l r w hF ?_ ?_
            · intro x hx e; have := hbig x hx; subst e; revert this; decide
            · intro x hx e; have := hbig x hx; have := h128 x e; omega
      have := Emb.cons key ht
      rw [List.take_append_drop] at this
      exact this

theorem emb_B (l : Bs) (hv : validL l = true) (hz : hasAnyL l [0, 13] = false) : Emb badB l (encL replB 63 true l) := by
  have hb : ∀ x ∈ badB, x ∈ badN := by decide
  have hc := chunk_bare badB (fun _ => hb)
  refine emb_any replB 63 true badB hb (by omega) ?_ ?_ l.length l (Nat.le_refl _) hv hz
  · intro r hr h0 h13 ht
    have key : ∀ x : Fin 63, x.val ≠ 0 → x.val ≠ 13 → replB x.val ≠ [] → ∃ p ∈ bareRefs, p.2 = [UInt8.ofNat x.val] ∧ 38 :: p.1 = replB x.val := by decide +kernel
    obtain ⟨p, hp, h1, h2⟩ := key ⟨r, hr⟩ h0 h13 ht
    have := hc p hp
    rw [h1, h2] at this
    exact this
  · intro r hr h0 h13 ht
    have key : ∀ x : Fin 128, x.val ≠ 0 → x.val ≠ 13 → (x.val < 63 → replB x.val = []) → UInt8.ofNat x.val ≠ 38 ∧ UInt8.ofNat x.val ∉ badB := by decide +kernel
    exact key ⟨r, hr⟩ h0 h13 ht
theorem emb_N (l : Bs) (hv : validL l = true) (hz : hasAnyL l [0, 13] = false) : Emb badN l (encL replN 97 false l) := by
  have hb : ∀ x ∈ badN, x ∈ badN := fun _ h => h
  have hc := chunk_bare badN (fun _ => hb)
  refine emb_any replN 97 false badN hb (by omega) ?_ ?_ l.length l (Nat.le_refl _) hv hz
  · intro r hr h0 h13 ht
    have key : ∀ x : Fin 97, x.val ≠ 0 → x.val ≠ 13 → replN x.val ≠ [] → ∃ p ∈ bareRefs, p.2 = [UInt8.ofNat x.val] ∧ 38 :: p.1 = replN x.val := by decide +kernel
    obtain ⟨p, hp, h1, h2⟩ := key ⟨r, hr⟩ h0 h13 ht
    have := hc p hp
    rw [h1, h2] at this
    exact this
  · intro r hr h0 h13 ht
    have key : ∀ x : Fin 128, x.val ≠ 0 → x.val ≠ 13 → (x.val < 97 → replN x.val = []) → UInt8.ofNat x.val ≠ 38 ∧ UInt8.ofNat x.val ∉ badN := by decide +kernel
    exact key ⟨r, hr⟩ h0 h13 ht

theorem encF_len (tab : Nat → Bs) (n : Nat) (bad : Bool) (ht : ∀ r, (tab r).length ≤ 8) : ∀ (f : Nat) (l : Bs), l.length ≤ f → (encF tab n bad f l).length ≤ 8 * l.length
  | 0, l, hf => by simp [encF]
  | f + 1, l, hf => by
    simp only [encF]
    split
    · simp
    · rename_i hl
      have h1 := runL_pos l
      have h2 := runL_le l hl
      have h3 := encF_len tab n bad ht f (l.drop (runL l).2) (by rw [List.length_drop]; omega)
      rw [List.length_drop] at h3
      have h4 : (match replOf tab n bad (runL l).1 with | some t => t | none => l.take (runL l).2).length ≤ 8 * (runL l).2 := by
        cases hr : replOf tab n bad (runL l).1 with
        | none =>
          simp only [List.length_take]
          omega
        | some t =>
          simp only
          have ht8 : t.length ≤ 8 := by
            unfold replOf at hr
            split at hr
            · split at hr
              · cases hr
              · injection hr with hr; subst hr; exact ht _
            · split at hr
              · injection hr with hr; subst hr; simp [hexL]
              · cases hr
          omega
      rw [List.length_append]
      exact Nat.le_trans (Nat.add_le_add h4 h3) (by omega)
theorem encL_len (tab : Nat → Bs) (n : Nat) (bad : Bool) (ht : ∀ r, (tab r).length ≤ 8) (l : Bs) : (encL tab n bad l).length ≤ 8 * l.length := encF_len tab n bad ht l.length l (Nat.le_refl _)
end Go.Proofs.YtopmbledpalmdaaGreatDoor
