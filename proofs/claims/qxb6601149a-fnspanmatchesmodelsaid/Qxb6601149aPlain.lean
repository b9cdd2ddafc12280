/- The strings and brackets of a text, byte by byte. No Go in sight. -/
namespace Go.Proofs.Qxb6601149a

/-- The state behind a byte: 0 outside every string, 1 in a string, 2 just behind a backslash in a string. -/
def next (s : Nat) (c : Int) : Nat := if s = 2 then 1 else if s = 1 then (if c = 92 then 2 else if c = 34 then 0 else 1) else (if c = 34 then 1 else 0)
/-- A byte's mark: 1 an opening bracket, 2 a closing one, 3 the quotation mark that closes a string, 0 none of them. -/
def mark (s : Nat) (c : Int) : Nat := if s = 2 then 0 else if s = 1 then (if c = 92 then 0 else if c = 34 then 3 else 0) else (if c = 34 then 0 else if c = 123 ∨ c = 91 then 1 else if c = 125 ∨ c = 93 then 2 else 0)

def stOf (Z : Nat → Int) : Nat → Nat
  | 0 => 0
  | i + 1 => next (stOf Z i) (Z i)
def mk (Z : Nat → Int) (i : Nat) : Nat := mark (stOf Z i) (Z i)
def turn (m : Nat) : Int := if m = 1 then 1 else if m = 2 then -1 else 0
def dep (Z : Nat → Int) : Nat → Int
  | 0 => 0
  | i + 1 => dep Z i + turn (mk Z i)

/-- The byte that leaves the text outside every string and bracket. -/
def Stop (Z : Nat → Int) (i : Nat) : Prop := (mk Z i = 2 ∨ mk Z i = 3) ∧ dep Z (i + 1) = 0

/-- The answer with stop: one past the first such byte; -1 where there is none. -/
def Ans (Z : Nat → Int) (n : Nat) (a : Int) : Prop := (∃ i, i < n ∧ Stop Z i ∧ (∀ j, j < i → ¬ Stop Z j) ∧ a = (i : Int) + 1) ∨ ((∀ j, j < n → ¬ Stop Z j) ∧ a = -1)

theorem ans_one {Z : Nat → Int} {n : Nat} {a b : Int} (h : Ans Z n a) (k : Ans Z n b) : a = b := by
  rcases h with ⟨i, h1, h2, h3, rfl⟩ | ⟨h1, rfl⟩
  · rcases k with ⟨j, k1, k2, k3, rfl⟩ | ⟨k1, rfl⟩
    · have e1 : ¬ i < j := fun h => k3 i h h2
      have e2 : ¬ j < i := fun h => h3 j h k2
      have e3 : i = j := by omega
      rw [e3]
    · exact absurd h2 (k1 i h1)
  · rcases k with ⟨j, k1, k2, k3, rfl⟩ | ⟨k1, rfl⟩
    · exact absurd k2 (h1 j k1)
    · rfl

theorem ans_ge {Z : Nat → Int} {n : Nat} {a : Int} (h : Ans Z n a) : -1 ≤ a ∧ a ≤ n := by
  rcases h with ⟨i, h1, h2, h3, rfl⟩ | ⟨h1, rfl⟩ <;> omega

theorem stOf_succ (Z : Nat → Int) (i : Nat) : stOf Z (i + 1) = next (stOf Z i) (Z i) := rfl
theorem dep_succ (Z : Nat → Int) (i : Nat) : dep Z (i + 1) = dep Z i + turn (mk Z i) := rfl

theorem stOf_le (Z : Nat → Int) (i : Nat) : stOf Z i ≤ 2 := by
  cases i with
  | zero => exact Nat.zero_le _
  | succ i =>
    rw [stOf_succ]; unfold next
    repeat' split
    all_goals omega

theorem turn_bd (m : Nat) : -1 ≤ turn m ∧ turn m ≤ 1 := by
  unfold turn
  repeat' split
  all_goals omega

theorem dep_bd (Z : Nat → Int) (i : Nat) : -(i : Int) ≤ dep Z i ∧ dep Z i ≤ i := by
  induction i with
  | zero => exact ⟨by simp [dep], by simp [dep]⟩
  | succ i ih =>
    rw [dep_succ]
    have := turn_bd (mk Z i)
    omega

theorem none_succ {Q : Nat → Prop} {j : Nat} (h : ∀ i, i < j → ¬ Q i) (hj : ¬ Q j) : ∀ i, i < j + 1 → ¬ Q i := by
  intro i hi
  by_cases e : i < j
  · exact h i e
  · have e2 : i = j := by omega
    subst e2; exact hj

theorem not_stop {Z : Nat → Int} {i : Nat} (h : mk Z i = 0 ∨ mk Z i = 1) : ¬ Stop Z i := by
  rintro ⟨h1, _⟩; omega

/- One byte, by the state ahead of it. -/
theorem at2 {Z : Nat → Int} {i : Nat} (h : stOf Z i = 2) : mk Z i = 0 ∧ stOf Z (i + 1) = 1 ∧ dep Z (i + 1) = dep Z i := by
  have e : mk Z i = 0 := by simp [mk, mark, h]
  exact ⟨e, by rw [stOf_succ, h]; rfl, by rw [dep_succ, e]; simp [turn]⟩
theorem at1_slash {Z : Nat → Int} {i : Nat} (h : stOf Z i = 1) (c : Z i = 92) : mk Z i = 0 ∧ stOf Z (i + 1) = 2 ∧ dep Z (i + 1) = dep Z i := by
  have e : mk Z i = 0 := by simp [mk, mark, h, c]
  exact ⟨e, by rw [stOf_succ, h, c]; rfl, by rw [dep_succ, e]; simp [turn]⟩
theorem at1_quote {Z : Nat → Int} {i : Nat} (h : stOf Z i = 1) (c : Z i = 34) : mk Z i = 3 ∧ stOf Z (i + 1) = 0 ∧ dep Z (i + 1) = dep Z i := by
  have e : mk Z i = 3 := by simp [mk, mark, h, c]
  exact ⟨e, by rw [stOf_succ, h, c]; rfl, by rw [dep_succ, e]; simp [turn]⟩
theorem at1_other {Z : Nat → Int} {i : Nat} (h : stOf Z i = 1) (c : Z i ≠ 92) (c' : Z i ≠ 34) : mk Z i = 0 ∧ stOf Z (i + 1) = 1 ∧ dep Z (i + 1) = dep Z i := by
  have e : mk Z i = 0 := by simp [mk, mark, h, c, c']
  exact ⟨e, by rw [stOf_succ, h]; simp [next, c, c'], by rw [dep_succ, e]; simp [turn]⟩
theorem at0_quote {Z : Nat → Int} {i : Nat} (h : stOf Z i = 0) (c : Z i = 34) : mk Z i = 0 ∧ stOf Z (i + 1) = 1 ∧ dep Z (i + 1) = dep Z i := by
  have e : mk Z i = 0 := by simp [mk, mark, h, c]
  exact ⟨e, by rw [stOf_succ, h, c]; rfl, by rw [dep_succ, e]; simp [turn]⟩
theorem at0_open {Z : Nat → Int} {i : Nat} (h : stOf Z i = 0) (c : Z i = 123 ∨ Z i = 91) : mk Z i = 1 ∧ stOf Z (i + 1) = 0 ∧ dep Z (i + 1) = dep Z i + 1 := by
  have c0 : Z i ≠ 34 := by omega
  have e : mk Z i = 1 := by simp [mk, mark, h, c, c0]
  exact ⟨e, by rw [stOf_succ, h]; simp [next, c0], by rw [dep_succ, e]; simp [turn]⟩
theorem at0_shut {Z : Nat → Int} {i : Nat} (h : stOf Z i = 0) (c : Z i = 125 ∨ Z i = 93) : mk Z i = 2 ∧ stOf Z (i + 1) = 0 ∧ dep Z (i + 1) = dep Z i - 1 := by
  have c0 : Z i ≠ 34 := by omega
  have c1 : ¬ (Z i = 123 ∨ Z i = 91) := by omega
  have e : mk Z i = 2 := by simp [mk, mark, h, c, c0, c1]
  exact ⟨e, by rw [stOf_succ, h]; simp [next, c0], by rw [dep_succ, e]; simp [turn]; omega⟩
theorem at0_other {Z : Nat → Int} {i : Nat} (h : stOf Z i = 0) (c0 : Z i ≠ 34) (c1 : Z i ≠ 123) (c2 : Z i ≠ 91) (c3 : Z i ≠ 125) (c4 : Z i ≠ 93) : mk Z i = 0 ∧ stOf Z (i + 1) = 0 ∧ dep Z (i + 1) = dep Z i := by
  have e : mk Z i = 0 := by simp [mk, mark, h, c0, c1, c2, c3, c4]
  exact ⟨e, by rw [stOf_succ, h]; simp [next, c0], by rw [dep_succ, e]; simp [turn]⟩
end Go.Proofs.Qxb6601149a
