/-
  Plain laws: the snippet with the four escaped values has its eight tokens.
-/
import Derived.Test.YtopmbledpalmdaaGreatDoorLawB
namespace Go.Proofs.YtopmbledpalmdaaGreatDoor

theorem takeWhile_stop {p : UInt8 → Bool} {b : UInt8} (r : Bs) (hb : p b = false) : ∀ l : Bs, (∀ x ∈ l, p x = true) → (l ++ b :: r).takeWhile p = l
  | [], _ => by rw [List.nil_append, List.takeWhile_cons, hb]; rfl
  | c :: q, h => by
    rw [List.cons_append, List.takeWhile_cons, h c (List.mem_cons_self ..), if_pos rfl, takeWhile_stop r hb q fun x hx => h x (List.mem_cons_of_mem _ hx)]
theorem findL_at (b : UInt8) (ws rest : Bs) : ∀ E : Bs, (∀ x ∈ E, x ≠ b) → findL (b :: ws) (E ++ ((b :: ws) ++ rest)) = E.length
  | [], _ => by
    have : (b :: ws).isPrefixOf (b :: (ws ++ rest)) = true := List.isPrefixOf_iff_prefix.2 ⟨rest, rfl⟩
    simp only [List.nil_append, List.cons_append, findL, this, if_true, List.length_nil]
  | c :: q, h => by
    have hc : (b == c) = false := by
      have := h c (List.mem_cons_self ..)
      simp; exact fun e => this e.symm
    have : (b :: ws).isPrefixOf (c :: (q ++ ((b :: ws) ++ rest))) = false := by
      simp only [List.isPrefixOf, hc, Bool.false_and]
    rw [List.cons_append]
    simp only [findL, this, Bool.false_eq_true, if_false, List.length_cons]
    rw [findL_at b ws rest q fun x hx => h x (List.mem_cons_of_mem _ hx)]
theorem drop_len (E rest : Bs) : (E ++ rest).drop E.length = rest := by
  rw [List.drop_append_of_le_length (Nat.le_refl _), List.drop_eq_nil_of_le (Nat.le_refl _), List.nil_append]
theorem take_len (E rest : Bs) : (E ++ rest).take E.length = E := by
  rw [List.take_append_of_le_length (Nat.le_refl _), List.take_length]
theorem findL_one (b : UInt8) (rest E : Bs) (h : ∀ x ∈ E, x ≠ b) : findL [b] (E ++ b :: rest) = E.length := findL_at b [] rest E h

theorem alnum_space (c : UInt8) (h : isAlnumB c = true) : isSpaceB c = false := by
  have : ∀ x : Fin 256, isAlnumB (UInt8.ofNat x.val) = true → isSpaceB (UInt8.ofNat x.val) = false := by decide +kernel
  have h2 := this ⟨c.toNat, UInt8.toNat_lt c⟩
  simp only [UInt8.ofNat_toNat] at h2
  exact h2 h
theorem alnum_62 (c : UInt8) (h : isAlnumB c = true) : c ≠ 62 := by rintro rfl; revert h; decide

theorem value_quoted (b : UInt8) (E rest : Bs) (hb : b = 34 ∨ b = 39) (h : ∀ x ∈ E, x ≠ b) : valueL (b :: (E ++ b :: rest)) = some (unescL true E, E.length + 2) := by
  have hq : (b == 34 || b == 39) = true := by rcases hb with rfl | rfl <;> rfl
  simp only [valueL, hq, if_true, findL_one b rest E h]
  rw [if_neg (by simp), take_len]
theorem value_bare (U rest : Bs) (hne : U ≠ []) (h : ∀ x ∈ U, x ∉ badN) : valueL (U ++ 32 :: rest) = some (unescL true U, U.length) := by
  have hall : ∀ x : UInt8, x ∉ badN → (!isSpaceB x && x != 62) = true ∧ hasL [34, 39, 60, 61, 96] x = false ∧ (x == 34 || x == 39) = false := by
    have key : ∀ n : Fin 256, UInt8.ofNat n.val ∉ badN → (!isSpaceB (UInt8.ofNat n.val) && UInt8.ofNat n.val != 62) = true ∧ hasL [34, 39, 60, 61, 96] (UInt8.ofNat n.val) = false ∧ (UInt8.ofNat n.val == 34 || UInt8.ofNat n.val == 39) = false := by decide +kernel
    intro x
    have := key ⟨x.toNat, UInt8.toNat_lt x⟩
    simpa only [UInt8.ofNat_toNat] using this
  have htw : (U ++ 32 :: rest).takeWhile (fun x => !isSpaceB x && x != 62) = U := takeWhile_stop rest (by decide) U fun x hx => (hall x (h x hx)).1
  have hany : U.any (hasL [34, 39, 60, 61, 96]) = false := by
    rw [List.any_eq_false]
    exact fun x hx => by rw [(hall x (h x hx)).2.1]; decide
  rcases U with _ | ⟨c, q⟩
  · exact absurd rfl hne
  · have hc := (hall c (h c (List.mem_cons_self ..))).2.2
    rw [List.cons_append] at htw ⊢
    simp only [valueL, hc, Bool.false_eq_true, if_false]
    rw [htw, hany]
    rfl

theorem attr_add {name V v E : Bs} {n : Nat} {acc R : List (Bs × Bs)} (hn : name ≠ []) (ha : ∀ x ∈ name, isAlnumB x = true) (hb : blanksL V = 0) (hv : valueL V = some (v, n)) (hr : AttrsL (V.drop n) (acc ++ [(lowL name, v)]) R E) :
    AttrsL (32 :: (name ++ 61 :: V)) acc R E := by
  rcases name with _ | ⟨c, q⟩
  · exact absurd rfl hn
  · have hc := ha c (List.mem_cons_self ..)
    have hbl : blanksL (32 :: c :: (q ++ 61 :: V)) = 1 := by
      unfold blanksL
      rw [List.takeWhile_cons, show isSpaceB 32 = true from rfl, if_pos rfl, List.takeWhile_cons, alnum_space c hc]
      rfl
    have hw : wordL ((c :: q) ++ 61 :: V) = c :: q := takeWhile_stop V (by decide) (c :: q) ha
    have hb61 : blanksL (61 :: V) = 0 := by unfold blanksL; rw [List.takeWhile_cons, show isSpaceB 61 = false from rfl]; rfl
    refine .more (c := c) (r := q ++ 61 :: V) (w := c :: q) (q := V) (v := v) (n := n) ?_ (alnum_62 c hc) hw (by simp) ?_ ?_ ?_
    · rw [List.cons_append, hbl]; rfl
    · have hd : (c :: (q ++ 61 :: V)).drop (c :: q).length = 61 :: V := drop_len (c :: q) (61 :: V)
      rw [hd, hb61]; rfl
    · rw [hb]; exact hv
    · rw [hb]; exact hr
theorem attr_stop {acc : List (Bs × Bs)} {r : Bs} : AttrsL (62 :: r) acc acc r := .stop rfl

theorem word_front {name rest : Bs} {b : UInt8} (ha : ∀ x ∈ name, isAlnumB x = true) (hb : isAlnumB b = false) : wordL (name ++ b :: rest) = name := takeWhile_stop rest hb name ha

theorem snip_start {E0 q rest r2 : Bs} {c b : UInt8} {ts ts1 R : List Tok} {at_ : List (Bs × Bs)} (hE : ∀ x ∈ E0, x ≠ 60) (hc : isAlphaB c = true) (ha : ∀ x ∈ c :: q, isAlnumB x = true) (hb : isAlnumB b = false)
    (ht : addTok ts (unescL false E0) ts1) (hat : AttrsL (b :: rest) [] at_ r2) (hne : lowL (c :: q) ≠ titleL) (hr : SnipL r2 (ts1 ++ [⟨2, lowL (c :: q), at_⟩]) R) : SnipL (E0 ++ 60 :: ((c :: q) ++ b :: rest)) ts R := by
  have hf := findL_one 60 ((c :: q) ++ b :: rest) E0 hE
  have hw : wordL (c :: (q ++ b :: rest)) = c :: q := word_front ha hb
  have hd : (c :: (q ++ b :: rest)).drop (c :: q).length = b :: rest := drop_len (c :: q) (b :: rest)
  refine .start (c := c) (r := q ++ b :: rest) (r2 := r2) (ts1 := ts1) (at_ := at_) ?_ hc ?_ ?_ ?_ ?_
  · rw [hf, drop_len]; rfl
  · rw [hf, take_len]; exact ht
  · rw [hw, hd]; exact hat
  · rw [hw]; exact hne
  · rw [hw]; exact hr
theorem snip_stop {E0 q rest r2 : Bs} {c b : UInt8} {ts ts1 R : List Tok} {at_ : List (Bs × Bs)} (hE : ∀ x ∈ E0, x ≠ 60) (hc : isAlphaB c = true) (ha : ∀ x ∈ c :: q, isAlnumB x = true) (hb : isAlnumB b = false)
    (ht : addTok ts (unescL false E0) ts1) (hat : AttrsL (b :: rest) [] at_ r2) (hr : SnipL r2 (ts1 ++ [⟨3, lowL (c :: q), at_⟩]) R) : SnipL (E0 ++ 60 :: 47 :: ((c :: q) ++ b :: rest)) ts R := by
  have hf := findL_one 60 (47 :: ((c :: q) ++ b :: rest)) E0 hE
  have hw : wordL (c :: (q ++ b :: rest)) = c :: q := word_front ha hb
  have hd : (c :: (q ++ b :: rest)).drop (c :: q).length = b :: rest := drop_len (c :: q) (b :: rest)
  refine .stop (c := c) (r := q ++ b :: rest) (r2 := r2) (ts1 := ts1) (at_ := at_) ?_ hc ?_ ?_ ?_
  · rw [hf, drop_len]; rfl
  · rw [hf, take_len]; exact ht
  · rw [hw, hd]; exact hat
  · rw [hw]; exact hr

/-- lower leaves the signs that are no capital letters, and the sign < with them. -/
theorem low_60 (x : UInt8) (h : x ≠ 60) : lowB x ≠ 60 := by
  have key : ∀ n : Fin 256, UInt8.ofNat n.val ≠ 60 → lowB (UInt8.ofNat n.val) ≠ 60 := by decide +kernel
  have := key ⟨x.toNat, UInt8.toNat_lt x⟩
  simp only [UInt8.ofNat_toNat] at this
  exact this h

def placedL (E U : Bs) : Bs :=
  [60, 112, 32, 116, 105, 116, 108, 101, 61, 34] ++ (E ++ ([34, 32, 97, 108, 116, 61, 39] ++ (E ++ ([39, 32, 99, 108, 97, 115, 115, 61] ++ (U ++ ([32, 105, 100, 61, 120, 62, 60, 116, 105, 116, 108, 101, 62] ++
    (E ++ ([60, 47, 116, 105, 116, 108, 101, 62, 60, 98, 62] ++ (E ++ [60, 47, 98, 62, 60, 47, 112, 62])))))))))
def wantL (s : Bs) : List Tok :=
  [⟨2, [112], [([116, 105, 116, 108, 101], s), ([97, 108, 116], s), ([99, 108, 97, 115, 115], s), ([105, 100], [120])]⟩, ⟨2, titleL, []⟩, ⟨1, s, []⟩, ⟨3, titleL, []⟩, ⟨2, [98], []⟩, ⟨1, s, []⟩, ⟨3, [98], []⟩, ⟨3, [112], []⟩]

theorem un_whole {no s E : Bs} (h : Emb no s E) (a : Bool) : unescL a E = s := by
  have := h.un a []
  rwa [List.append_nil, unescL_nil, List.append_nil] at this

theorem placed_snip (s E U : Bs) (hs : s ≠ []) (hE : Emb badB s E) (hU : Emb badN s U) : SnipL (placedL E U) [] (wantL s) := by
  have hEs := fun a => un_whole hE a
  have hUs := fun a => un_whole hU a
  have hUn := hU.ne hs
  have h34 : ∀ x ∈ E, x ≠ 34 := by rintro x hx rfl; exact hE.ok _ hx (by decide)
  have h39 : ∀ x ∈ E, x ≠ 39 := by rintro x hx rfl; exact hE.ok _ hx (by decide)
  have h60 : ∀ x ∈ E, x ≠ 60 := by rintro x hx rfl; exact hE.ok _ hx (by decide)
  have hnil : ∀ x ∈ ([] : Bs), x ≠ 60 := by intro x hx; cases hx
  have hUb : ∀ r, blanksL (U ++ r) = 0 := by
    intro r
    rcases U with _ | ⟨c, q⟩
    · exact absurd rfl hUn
    · have : isSpaceB c = false := by
        have key : ∀ n : Fin 256, UInt8.ofNat n.val ∉ badN → isSpaceB (UInt8.ofNat n.val) = false := by decide +kernel
        have h2 := key ⟨c.toNat, UInt8.toNat_lt c⟩
        simp only [UInt8.ofNat_toNat] at h2
        exact h2 (hU.ok c (List.mem_cons_self ..))
      rw [List.cons_append]
      unfold blanksL
      rw [List.takeWhile_cons, this]
      rfl
  -- the tokens behind the first tag
  have t8 : SnipL ([60, 47, 112, 62] : Bs) [⟨2, [112], [([116, 105, 116, 108, 101], s), ([97, 108, 116], s), ([99, 108, 97, 115, 115], s), ([105, 100], [120])]⟩, ⟨2, titleL, []⟩, ⟨1, s, []⟩, ⟨3, titleL, []⟩, ⟨2, [98], []⟩, ⟨1, s, []⟩, ⟨3, [98], []⟩] (wantL s) :=
    snip_stop (E0 := []) (q := []) (rest := []) (c := 112) (b := 62) hnil (by decide) (by decide) (by decide) (.inl ⟨rfl, rfl⟩) attr_stop .done
  have t7 : SnipL (E ++ [60, 47, 98, 62, 60, 47, 112, 62]) [⟨2, [112], [([116, 105, 116, 108, 101], s), ([97, 108, 116], s), ([99, 108, 97, 115, 115], s), ([105, 100], [120])]⟩, ⟨2, titleL, []⟩, ⟨1, s, []⟩, ⟨3, titleL, []⟩, ⟨2, [98], []⟩] (wantL s) :=
    snip_stop (E0 := E) (q := []) (rest := [60, 47, 112, 62]) (c := 98) (b := 62) h60 (by decide) (by decide) (by decide) (.inr ⟨by rw [hEs]; exact hs, by simp, rfl⟩) attr_stop (by rw [hEs]; exact t8)
  have t5 : SnipL ([60, 98, 62] ++ (E ++ [60, 47, 98, 62, 60, 47, 112, 62])) [⟨2, [112], [([116, 105, 116, 108, 101], s), ([97, 108, 116], s), ([99, 108, 97, 115, 115], s), ([105, 100], [120])]⟩, ⟨2, titleL, []⟩, ⟨1, s, []⟩, ⟨3, titleL, []⟩] (wantL s) :=
    snip_start (E0 := []) (q := []) (rest := E ++ [60, 47, 98, 62, 60, 47, 112, 62]) (c := 98) (b := 62) hnil (by decide) (by decide) (by decide) (.inl ⟨rfl, rfl⟩) attr_stop (by decide) t7
  have t4 : SnipL ([60, 47, 116, 105, 116, 108, 101, 62, 60, 98, 62] ++ (E ++ [60, 47, 98, 62, 60, 47, 112, 62])) [⟨2, [112], [([116, 105, 116, 108, 101], s), ([97, 108, 116], s), ([99, 108, 97, 115, 115], s), ([105, 100], [120])]⟩, ⟨2, titleL, []⟩, ⟨1, s, []⟩] (wantL s) := by
    have h := snip_stop (E0 := []) (q := [105, 116, 108, 101]) (rest := [60, 98, 62] ++ (E ++ [60, 47, 98, 62, 60, 47, 112, 62])) (c := 116) (b := 62) (ts := [⟨2, [112], [([116, 105, 116, 108, 101], s), ([97, 108, 116], s), ([99, 108, 97, 115, 115], s), ([105, 100], [120])]⟩, ⟨2, titleL, []⟩, ⟨1, s, []⟩]) (R := wantL s)
      hnil (by decide) (by decide) (by decide) (.inl ⟨rfl, rfl⟩) attr_stop t5
    simpa only [List.nil_append, List.cons_append] using h
  have t2 : SnipL ([60, 116, 105, 116, 108, 101, 62] ++ (E ++ ([60, 47, 116, 105, 116, 108, 101, 62, 60, 98, 62] ++ (E ++ [60, 47, 98, 62, 60, 47, 112, 62])))) [⟨2, [112], [([116, 105, 116, 108, 101], s), ([97, 108, 116], s), ([99, 108, 97, 115, 115], s), ([105, 100], [120])]⟩] (wantL s) := by
    have hw : wordL ([116, 105, 116, 108, 101] ++ 62 :: (E ++ ([60, 47, 116, 105, 116, 108, 101, 62, 60, 98, 62] ++ (E ++ [60, 47, 98, 62, 60, 47, 112, 62])))) = [116, 105, 116, 108, 101] := word_front (by decide) (by decide)
    have hlow : findL ttl (lowL (E ++ ([60, 47, 116, 105, 116, 108, 101, 62, 60, 98, 62] ++ (E ++ [60, 47, 98, 62, 60, 47, 112, 62])))) = E.length := by
      have h := findL_at 60 [47, 116, 105, 116, 108, 101] (lowL ([62, 60, 98, 62] ++ (E ++ [60, 47, 98, 62, 60, 47, 112, 62]))) (lowL E) (by
        intro x hx
        obtain ⟨y, hy, rfl⟩ := List.mem_map.1 hx
        exact low_60 y (h60 y hy))
      rw [show (lowL E).length = E.length by simp [lowL]] at h
      rw [← h]
      simp only [lowL, List.map_append]
      rfl
    refine .title (c := 116) (r := [105, 116, 108, 101] ++ 62 :: (E ++ ([60, 47, 116, 105, 116, 108, 101, 62, 60, 98, 62] ++ (E ++ [60, 47, 98, 62, 60, 47, 112, 62])))) (r2 := E ++ ([60, 47, 116, 105, 116, 108, 101, 62, 60, 98, 62] ++ (E ++ [60, 47, 98, 62, 60, 47, 112, 62])))
      (q := [60, 98, 62] ++ (E ++ [60, 47, 98, 62, 60, 47, 112, 62])) (ts1 := [⟨2, [112], [([116, 105, 116, 108, 101], s), ([97, 108, 116], s), ([99, 108, 97, 115, 115], s), ([105, 100], [120])]⟩])
      (ts2 := [⟨2, [112], [([116, 105, 116, 108, 101], s), ([97, 108, 116], s), ([99, 108, 97, 115, 115], s), ([105, 100], [120])]⟩, ⟨2, titleL, []⟩, ⟨1, s, []⟩]) (at_ := []) rfl (by decide) (.inl ⟨rfl, rfl⟩) ?_ ?_ ?_ ?_ ?_
    · rw [show wordL (116 :: ([105, 116, 108, 101] ++ 62 :: (E ++ ([60, 47, 116, 105, 116, 108, 101, 62, 60, 98, 62] ++ (E ++ [60, 47, 98, 62, 60, 47, 112, 62]))))) = [116, 105, 116, 108, 101] from hw]
      exact attr_stop
    · rw [show wordL (116 :: ([105, 116, 108, 101] ++ 62 :: (E ++ ([60, 47, 116, 105, 116, 108, 101, 62, 60, 98, 62] ++ (E ++ [60, 47, 98, 62, 60, 47, 112, 62]))))) = [116, 105, 116, 108, 101] from hw]
      decide
    · rw [hlow, take_len, hEs]
      exact .inr ⟨hs, by simp, rfl⟩
    · rw [hlow, ← List.drop_drop, drop_len]
      rfl
    · rw [hlow, drop_len]
      exact t4
  refine snip_start (E0 := []) (q := []) (c := 112) (b := 32) (r2 := [60, 116, 105, 116, 108, 101, 62] ++ (E ++ ([60, 47, 116, 105, 116, 108, 101, 62, 60, 98, 62] ++ (E ++ [60, 47, 98, 62, 60, 47, 112, 62]))))
    (at_ := [([116, 105, 116, 108, 101], s), ([97, 108, 116], s), ([99, 108, 97, 115, 115], s), ([105, 100], [120])]) hnil (by decide) (by decide) (by decide) (.inl ⟨rfl, rfl⟩) ?_ (by decide) t2
  have dq : ∀ (b : UInt8) (X r : Bs), (b :: (X ++ b :: r)).drop (X.length + 2) = r := by
    intro b X r
    rw [show X.length + 2 = (X.length + 1) + 1 by omega, List.drop_succ_cons, ← List.drop_drop, drop_len]
    rfl
  refine attr_add (name := [116, 105, 116, 108, 101]) (V := 34 :: (E ++ 34 :: _)) (v := s) (n := E.length + 2) (by decide) (by decide) rfl (by rw [value_quoted 34 E _ (.inl rfl) h34, hEs]) ?_
  rw [dq]
  refine attr_add (name := [97, 108, 116]) (V := 39 :: (E ++ 39 :: _)) (v := s) (n := E.length + 2) (by decide) (by decide) rfl (by rw [value_quoted 39 E _ (.inr rfl) h39, hEs]) ?_
  rw [dq]
  refine attr_add (name := [99, 108, 97, 115, 115]) (V := U ++ 32 :: _) (v := s) (n := U.length) (by decide) (by decide) (hUb _) (by rw [value_bare U _ hUn hU.ok, hUs]) ?_
  rw [drop_len]
  exact attr_add (name := [105, 100]) (V := 120 :: 62 :: _) (v := [120]) (n := 1) (by decide) (by decide) rfl rfl attr_stop

theorem placed_valid (s E U : Bs) (hE : Emb badB s E) (hU : Emb badN s U) : validL (placedL E U) = true := by
  unfold placedL
  rw [va_ascii _ _ (by decide), hE.va, va_ascii _ _ (by decide), hE.va, va_ascii _ _ (by decide), hU.va, va_ascii _ _ (by decide), hE.va, va_ascii _ _ (by decide), hE.va]
  decide
theorem placed_known (s E U : Bs) (hE : Emb badB s E) (hU : Emb badN s U) : knownL (placedL E U) = true := by
  unfold placedL
  rw [kn_plain _ _ (by decide), hE.kn, kn_plain _ _ (by decide), hE.kn, kn_plain _ _ (by decide), hU.kn, kn_plain _ _ (by decide), hE.kn, kn_plain _ _ (by decide), hE.kn]
  decide
theorem hasAny_none {no s E : Bs} (h : Emb no s E) (h0 : (0 : UInt8) ∈ no) (h13 : (13 : UInt8) ∈ no) : hasAnyL E [0, 13] = false := by
  unfold hasAnyL
  rw [List.any_eq_false]
  intro x hx
  have := h.ok x hx
  simp only [hasL, List.any_cons, List.any_nil, Bool.or_false, Bool.or_eq_true, beq_iff_eq]
  rintro (rfl | rfl)
  · exact this h0
  · exact this h13
theorem hasAny_append (a b w : Bs) : hasAnyL (a ++ b) w = (hasAnyL a w || hasAnyL b w) := by simp [hasAnyL]
theorem placed_any (s E U : Bs) (hE : Emb badB s E) (hU : Emb badN s U) : hasAnyL (placedL E U) [0, 13] = false := by
  have h1 := hasAny_none hE (by decide) (by decide)
  have h2 := hasAny_none hU (by decide) (by decide)
  unfold placedL
  simp only [hasAny_append, h1, h2, Bool.false_or]
  decide
theorem placed_len (E U : Bs) : (placedL E U).length = 4 * E.length + U.length + 57 := by
  unfold placedL
  simp only [List.length_append, List.length_cons, List.length_nil]
  omega
end Go.Proofs.YtopmbledpalmdaaGreatDoor
