/- The state set as plain lists: what an add does, and that it answers right. No Go in sight. -/
namespace Go.Proofs.Qxb6600375a

/-- The index of the word that holds position pos in page number k. -/
def idx (ps k pos : Nat) : Nat := k * 2 ^ ps + pos / 64 % 2 ^ ps

def rowL (rn : Nat) (L : List Nat) : List Nat := if L = [] then List.replicate rn 0 else L

/-- The pages behind an add for whose state there was no page: the new page is number num. -/
def missP (rn rs : Nat) (P : List (List Nat)) (row pos num : Nat) : List (List Nat) :=
  (P ++ List.replicate (row + 1 - P.length) []).set row ((rowL rn ((P ++ List.replicate (row + 1 - P.length) []).getD row [])).set (pos / 2 ^ rs) num)

/-- The page number of row r's run q; 0 for none. -/
def pg (P : List (List Nat)) (r q : Nat) : Nat := (P.getD r []).getD q 0

theorem getD_set {α : Type} (l : List α) (i j : Nat) (x d : α) (h : i < l.length) : (l.set i x).getD j d = if j = i then x else l.getD j d := by
  rw [List.getD_eq_getElem?_getD, List.getElem?_set, List.getD_eq_getElem?_getD]
  by_cases e : j = i
  · subst e; simp [h]
  · rw [if_neg (fun e' => e e'.symm), if_neg e]

theorem getD_zeros (l : List Nat) (n j : Nat) : (l ++ List.replicate n 0).getD j 0 = l.getD j 0 := by
  rw [List.getD_eq_getElem?_getD, List.getD_eq_getElem?_getD]
  by_cases h : j < l.length
  · rw [List.getElem?_append_left h]
  · rw [List.getElem?_append_right (by omega), List.getElem?_eq_none (l := l) (by omega), List.getElem?_replicate]
    split <;> rfl

theorem getD_nils (l : List (List Nat)) (n j : Nat) : (l ++ List.replicate n []).getD j [] = l.getD j [] := by
  rw [List.getD_eq_getElem?_getD, List.getD_eq_getElem?_getD]
  by_cases h : j < l.length
  · rw [List.getElem?_append_left h]
  · rw [List.getElem?_append_right (by omega), List.getElem?_eq_none (l := l) (by omega), List.getElem?_replicate]
    split <;> rfl

theorem rowL_len {rn : Nat} {L : List Nat} (h : L = [] ∨ L.length = rn) : (rowL rn L).length = rn := by
  unfold rowL
  split
  · simp
  · rcases h with h | h
    · contradiction
    · exact h

theorem rowL_getD (rn : Nat) (L : List Nat) (j : Nat) : (rowL rn L).getD j 0 = L.getD j 0 := by
  unfold rowL
  split
  · rename_i h; subst h; have := getD_zeros [] rn j; simpa using this
  · rfl

/-- What is known of the set behind the adds of the states in Sn: m pages are made. -/
structure Good (ps rs rn : Nat) (P : List (List Nat)) (W : List Nat) (m : Nat) (Sn : Nat → Nat → Prop) : Prop where
  wlen : W.length = m * 2 ^ ps
  wbits : ∀ j, W.getD j 0 < 18446744073709551616
  plen : ∀ r, P.getD r [] = [] ∨ (P.getD r []).length = rn
  le : ∀ r q, pg P r q ≤ m
  inj : ∀ r q r' q', pg P r q = pg P r' q' → pg P r q ≠ 0 → r = r' ∧ q = q'
  page : ∀ r q, pg P r q ≠ 0 ↔ ∃ p, Sn r p ∧ p / 2 ^ rs = q
  bit : ∀ r p, Sn r p ↔ pg P r (p / 2 ^ rs) ≠ 0 ∧ (W.getD (idx ps (pg P r (p / 2 ^ rs) - 1) p) 0).testBit (p % 64) = true

theorem good_nil (ps rs rn : Nat) : Good ps rs rn [] [] 0 (fun _ _ => False) :=
  ⟨by simp, by simp, by simp, by simp [pg], by simp [pg], by simp [pg], by simp [pg]⟩

theorem pg_miss {ps rs rn : Nat} {P : List (List Nat)} {W : List Nat} {m : Nat} {Sn : Nat → Nat → Prop} (h : Good ps rs rn P W m Sn) (row pos num : Nat) (hq : pos / 2 ^ rs < rn) (r q : Nat) :
    pg (missP rn rs P row pos num) r q = if r = row ∧ q = pos / 2 ^ rs then num else pg P r q := by
  unfold pg missP
  rw [getD_set _ _ _ _ _ (by simp; omega)]
  by_cases hr : r = row
  · subst hr
    rw [if_pos rfl, getD_nils, getD_set _ _ _ _ _ (by rw [rowL_len (h.plen r)]; exact hq), rowL_getD]
    by_cases hq' : q = pos / 2 ^ rs
    · rw [if_pos hq', if_pos ⟨rfl, hq'⟩]
    · rw [if_neg hq', if_neg (fun e => hq' e.2)]
  · rw [if_neg hr, if_neg (fun e => hr e.1), getD_nils]

theorem plen_miss {ps rs rn : Nat} {P : List (List Nat)} {W : List Nat} {m : Nat} {Sn : Nat → Nat → Prop} (h : Good ps rs rn P W m Sn) (row pos num : Nat) (r : Nat) :
    (missP rn rs P row pos num).getD r [] = [] ∨ ((missP rn rs P row pos num).getD r []).length = rn := by
  unfold missP
  rw [getD_set _ _ _ _ _ (by simp; omega)]
  split
  · right; rw [List.length_set, getD_nils]; exact rowL_len (h.plen row)
  · rw [getD_nils]; exact h.plen r

theorem length_miss (rn rs : Nat) (P : List (List Nat)) (row pos num : Nat) : (missP rn rs P row pos num).length = max P.length (row + 1) := by
  unfold missP
  simp
  omega

theorem idx_inj {ps k k' pos pos' : Nat} (h : idx ps k pos = idx ps k' pos') : k = k' ∧ pos / 64 % 2 ^ ps = pos' / 64 % 2 ^ ps := by
  unfold idx at h
  have hp : 0 < 2 ^ ps := Nat.two_pow_pos ps
  have h1 := Nat.mod_lt (pos / 64) hp
  have h2 := Nat.mod_lt (pos' / 64) hp
  generalize pos / 64 % 2 ^ ps = a at *
  generalize pos' / 64 % 2 ^ ps = b at *
  generalize 2 ^ ps = z at *
  have hk : k = k' := by
    have e1 : (k * z + a) / z = k := by rw [Nat.mul_comm, Nat.mul_add_div hp, Nat.div_eq_of_lt h1]; rfl
    have e2 : (k' * z + b) / z = k' := by rw [Nat.mul_comm, Nat.mul_add_div hp, Nat.div_eq_of_lt h2]; rfl
    rw [← e1, ← e2, h]
  subst hk
  exact ⟨rfl, by omega⟩

theorem pos_eq {ps rs pos pos' : Nat} (hrs : rs ≤ ps + 6) (h1 : pos / 64 % 2 ^ ps = pos' / 64 % 2 ^ ps) (h2 : pos % 64 = pos' % 64) (h3 : pos / 2 ^ rs = pos' / 2 ^ rs) : pos = pos' := by
  have e : ∀ x : Nat, x % (64 * 2 ^ ps) = x % 64 + 64 * (x / 64 % 2 ^ ps) := fun x => Nat.mod_mul
  have h4 : pos % (64 * 2 ^ ps) = pos' % (64 * 2 ^ ps) := by rw [e, e, h1, h2]
  have hd : (2 ^ rs) ∣ (64 * 2 ^ ps) := by
    have : 64 * 2 ^ ps = 2 ^ (ps + 6) := by rw [Nat.pow_add]; omega
    rw [this]
    exact Nat.pow_dvd_pow 2 hrs
  have h5 : pos % 2 ^ rs = pos' % 2 ^ rs := by
    rw [← Nat.mod_mod_of_dvd pos hd, ← Nat.mod_mod_of_dvd pos' hd, h4]
  rw [← Nat.div_add_mod pos (2 ^ rs), ← Nat.div_add_mod pos' (2 ^ rs), h3, h5]

theorem idx_bound {ps m k pos : Nat} (h : k < m) : idx ps k pos < m * 2 ^ ps := by
  unfold idx
  have hp : 0 < 2 ^ ps := Nat.two_pow_pos ps
  have h1 := Nat.mod_lt (pos / 64) hp
  have h2 : (k + 1) * 2 ^ ps ≤ m * 2 ^ ps := Nat.mul_le_mul_right _ h
  rw [Nat.add_mul, Nat.one_mul] at h2
  omega

theorem bit_free (x b : Nat) : (x &&& 2 ^ b == 0) = !x.testBit b := by
  cases h : x.testBit b
  · have e : x &&& 2 ^ b = 0 := by
      apply Nat.eq_of_testBit_eq
      intro i
      rw [Nat.testBit_and, Nat.testBit_two_pow, Nat.zero_testBit]
      by_cases hi : b = i
      · subst hi; rw [h]; rfl
      · simp [hi]
    rw [e]; rfl
  · have e : x &&& 2 ^ b ≠ 0 := by
      intro e
      have h1 : (x &&& 2 ^ b).testBit b = true := by rw [Nat.testBit_and, h, Nat.testBit_two_pow_self]; rfl
      rw [e, Nat.zero_testBit] at h1
      cases h1
    simpa using e

/-- An add whose state has a page. -/
theorem good_hit {ps rs rn : Nat} {P : List (List Nat)} {W : List Nat} {m : Nat} {Sn : Nat → Nat → Prop} (h : Good ps rs rn P W m Sn) (hrs : rs ≤ ps + 6) (row pos k : Nat) (hk : pg P row (pos / 2 ^ rs) = k + 1) :
    Good ps rs rn P (W.set (idx ps k pos) (W.getD (idx ps k pos) 0 ||| 2 ^ (pos % 64))) m (fun r p => Sn r p ∨ (r = row ∧ p = pos)) ∧
      ((W.getD (idx ps k pos) 0 &&& 2 ^ (pos % 64) == 0) = true ↔ ¬ Sn row pos) := by
  have hkm : k < m := by have := h.le row (pos / 2 ^ rs); omega
  have hi : idx ps k pos < W.length := by rw [h.wlen]; exact idx_bound hkm
  have hb : pos % 64 < 64 := Nat.mod_lt _ (by decide)
  refine ⟨⟨by rw [List.length_set]; exact h.wlen, ?_, h.plen, h.le, h.inj, ?_, ?_⟩, ?_⟩
  · intro j
    rw [getD_set _ _ _ _ _ hi]
    split
    · exact Nat.or_lt_two_pow (n := 64) (h.wbits _) (Nat.pow_lt_pow_right (by decide) hb)
    · exact h.wbits j
  · intro r q
    rw [h.page r q]
    constructor
    · rintro ⟨p, h1, h2⟩; exact ⟨p, Or.inl h1, h2⟩
    · rintro ⟨p, h1 | ⟨rfl, rfl⟩, h2⟩
      · exact ⟨p, h1, h2⟩
      · subst h2; exact (h.page r _).1 (by omega)
  · intro r p
    rw [h.bit r p, getD_set _ _ _ _ _ hi]
    constructor
    · rintro (⟨h1, h2⟩ | ⟨rfl, rfl⟩)
      · refine ⟨h1, ?_⟩
        split
        · rename_i e
          rw [Nat.testBit_or, ← e, h2]; rfl
        · exact h2
      · rw [hk]
        refine ⟨by omega, ?_⟩
        rw [Nat.add_sub_cancel, if_pos rfl, Nat.testBit_or, Nat.testBit_two_pow_self]
        simp
    · rintro ⟨h1, h2⟩
      split at h2
      · rename_i e
        rw [Nat.testBit_or, Nat.testBit_two_pow, Bool.or_eq_true] at h2
        rcases h2 with h2 | h2
        · exact Or.inl ⟨h1, by rw [e]; exact h2⟩
        · right
          obtain ⟨e1, e2⟩ := idx_inj e
          have e3 : pg P r (p / 2 ^ rs) = pg P row (pos / 2 ^ rs) := by omega
          obtain ⟨e4, e5⟩ := h.inj _ _ _ _ e3 h1
          exact ⟨e4, pos_eq hrs e2 (by simpa using (of_decide_eq_true h2).symm) e5⟩
      · exact Or.inl ⟨h1, h2⟩
  · rw [bit_free, h.bit row pos, hk, Nat.add_sub_cancel]
    simp

/-- An add whose state has no page. -/
theorem good_miss {ps rs rn : Nat} {P : List (List Nat)} {W : List Nat} {m : Nat} {Sn : Nat → Nat → Prop} (h : Good ps rs rn P W m Sn) (hrs : rs ≤ ps + 6) (row pos : Nat) (hq : pos / 2 ^ rs < rn) (hk : pg P row (pos / 2 ^ rs) = 0) :
    Good ps rs rn (missP rn rs P row pos (m + 1)) ((W ++ List.replicate (2 ^ ps) 0).set (idx ps m pos) (2 ^ (pos % 64))) (m + 1) (fun r p => Sn r p ∨ (r = row ∧ p = pos)) ∧ ¬ Sn row pos := by
  have hi : idx ps m pos < (W ++ List.replicate (2 ^ ps) 0).length := by
    rw [List.length_append, List.length_replicate, h.wlen, ← Nat.succ_mul]
    exact idx_bound (Nat.lt_succ_self m)
  have hb : pos % 64 < 64 := Nat.mod_lt _ (by decide)
  have hold : ∀ r q, pg P r q ≠ 0 → ¬ (r = row ∧ q = pos / 2 ^ rs) := by
    rintro r q h1 ⟨rfl, rfl⟩; exact h1 hk
  have hnew : ∀ r q p, pg P r q ≠ 0 → idx ps (pg P r q - 1) p ≠ idx ps m pos := by
    intro r q p h1 e
    have := (idx_inj e).1
    have := h.le r q
    omega
  refine ⟨⟨by rw [List.length_set, List.length_append, List.length_replicate, h.wlen, Nat.succ_mul], ?_, plen_miss h row pos _, ?_, ?_, ?_, ?_⟩, ?_⟩
  · intro j
    rw [getD_set _ _ _ _ _ hi, getD_zeros]
    split
    · exact Nat.pow_lt_pow_right (by decide) hb
    · exact h.wbits j
  · intro r q
    rw [pg_miss h row pos _ hq]
    split
    · omega
    · have := h.le r q; omega
  · intro r q r' q' e h0
    rw [pg_miss h row pos _ hq, pg_miss h row pos _ hq] at e
    rw [pg_miss h row pos _ hq] at h0
    by_cases c1 : r = row ∧ q = pos / 2 ^ rs
    · by_cases c2 : r' = row ∧ q' = pos / 2 ^ rs
      · exact ⟨c1.1.trans c2.1.symm, c1.2.trans c2.2.symm⟩
      · rw [if_pos c1, if_neg c2] at e
        have := h.le r' q'; omega
    · by_cases c2 : r' = row ∧ q' = pos / 2 ^ rs
      · rw [if_neg c1, if_pos c2] at e
        have := h.le r q; omega
      · rw [if_neg c1, if_neg c2] at e
        rw [if_neg c1] at h0
        exact h.inj _ _ _ _ e h0
  · intro r q
    rw [pg_miss h row pos _ hq]
    by_cases c1 : r = row ∧ q = pos / 2 ^ rs
    · rw [if_pos c1]
      exact ⟨fun _ => ⟨pos, Or.inr ⟨c1.1, rfl⟩, c1.2.symm⟩, fun _ => by omega⟩
    · rw [if_neg c1, h.page r q]
      constructor
      · rintro ⟨p, h1, h2⟩; exact ⟨p, Or.inl h1, h2⟩
      · rintro ⟨p, h1 | ⟨rfl, rfl⟩, h2⟩
        · exact ⟨p, h1, h2⟩
        · exact absurd ⟨rfl, h2.symm⟩ c1
  · intro r p
    rw [pg_miss h row pos _ hq, h.bit r p, getD_set _ _ _ _ _ hi, getD_zeros]
    by_cases c1 : r = row ∧ p / 2 ^ rs = pos / 2 ^ rs
    · rw [if_pos c1, Nat.add_sub_cancel]
      constructor
      · rintro (⟨h1, h2⟩ | ⟨rfl, rfl⟩)
        · exact absurd c1 (hold _ _ h1)
        · exact ⟨by omega, by rw [if_pos rfl, Nat.testBit_two_pow_self]⟩
      · rintro ⟨_, h2⟩
        by_cases e : idx ps m p = idx ps m pos
        · rw [if_pos e, Nat.testBit_two_pow] at h2
          exact Or.inr ⟨c1.1, pos_eq hrs (idx_inj e).2 (of_decide_eq_true h2).symm c1.2⟩
        · rw [if_neg e] at h2
          have hz : W.getD (idx ps m p) 0 = 0 := by
            rw [List.getD_eq_getElem?_getD, List.getElem?_eq_none (by rw [h.wlen]; unfold idx; omega)]; rfl
          rw [hz] at h2
          simp at h2
    · rw [if_neg c1]
      constructor
      · rintro (⟨h1, h2⟩ | ⟨rfl, rfl⟩)
        · exact ⟨h1, by rw [if_neg (hnew _ _ _ h1)]; exact h2⟩
        · exact absurd ⟨rfl, rfl⟩ c1
      · rintro ⟨h1, h2⟩
        rw [if_neg (hnew _ _ _ h1)] at h2
        exact Or.inl ⟨h1, h2⟩
  · rw [h.bit row pos]
    rintro ⟨h1, _⟩
    exact h1 hk
end Go.Proofs.Qxb6600375a
