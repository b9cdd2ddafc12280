/- walk, with stop, by a contract. -/
import Derived.Test.Qxb6601149aProg
import Derived.Test.Qxb6601149aPlain
import Derived.WalkKit
import Derived.WalkSpells
import Derived.WalkLawsBesides
import Derived.Below
namespace Go.Proofs.Qxb6601149a
open Go.RowKit
set_option linter.unusedVariables false

theorem hideIt {p : Prop} (h : p) : Hid p := h
theorem ne_f {a b : Int} (h : ¬ a = b) : (a == b) = false := by simpa using h

/-- The walk stands outside every string at byte k; or the text has ended. -/
def OutAt (Z : Nat → Int) (n k : Nat) (d : Int) : Prop := (k ≤ n ∧ stOf Z k = 0 ∧ d = dep Z k ∧ ∀ j, j < k → ¬ Stop Z j) ∨ (n < k ∧ ∀ j, j < n → ¬ Stop Z j)
/-- The walk stands inside a string at byte q; or the text has ended. -/
def InAt (Z : Nat → Int) (n q : Nat) (d : Int) : Prop := (q ≤ n ∧ stOf Z q = 1 ∧ d = dep Z q ∧ ∀ j, j < q → ¬ Stop Z j) ∨ (n < q ∧ ∀ j, j < n → ¬ Stop Z j)

theorem OutAt.ended {Z : Nat → Int} {n k : Nat} {d : Int} (h : OutAt Z n k d) (hk : n ≤ k) : Ans Z n (-1) := by
  rcases h with ⟨h1, _, _, h4⟩ | ⟨_, h4⟩
  · exact Or.inr ⟨fun j hj => h4 j (by omega), rfl⟩
  · exact Or.inr ⟨h4, rfl⟩
theorem InAt.ended {Z : Nat → Int} {n q : Nat} {d : Int} (h : InAt Z n q d) (hk : n ≤ q) : OutAt Z n (q + 1) d := by
  rcases h with ⟨h1, _, _, h4⟩ | ⟨_, h4⟩
  · exact Or.inr ⟨by omega, fun j hj => h4 j (by omega)⟩
  · exact Or.inr ⟨by omega, h4⟩
theorem OutAt.here {Z : Nat → Int} {n k : Nat} {d : Int} (h : OutAt Z n k d) (hk : k < n) : stOf Z k = 0 ∧ d = dep Z k ∧ ∀ j, j < k → ¬ Stop Z j := by
  rcases h with ⟨_, h2, h3, h4⟩ | ⟨h1, _⟩
  · exact ⟨h2, h3, h4⟩
  · omega
theorem InAt.here {Z : Nat → Int} {n k : Nat} {d : Int} (h : InAt Z n k d) (hk : k < n) : stOf Z k = 1 ∧ d = dep Z k ∧ ∀ j, j < k → ¬ Stop Z j := by
  rcases h with ⟨_, h2, h3, h4⟩ | ⟨h1, _⟩
  · exact ⟨h2, h3, h4⟩
  · omega

theorem out_quote {Z : Nat → Int} {n k : Nat} {d : Int} (h : OutAt Z n k d) (hk : k < n) (c : Z k = 34) : InAt Z n (k + 1) d := by
  obtain ⟨h1, h2, h3⟩ := h.here hk
  obtain ⟨e1, e2, e3⟩ := at0_quote h1 c
  exact Or.inl ⟨by omega, e2, by rw [e3]; exact h2, none_succ h3 (not_stop (Or.inl e1))⟩
theorem out_open {Z : Nat → Int} {n k : Nat} {d : Int} (h : OutAt Z n k d) (hk : k < n) (c : Z k = 123 ∨ Z k = 91) : OutAt Z n (k + 1) (d + 1) := by
  obtain ⟨h1, h2, h3⟩ := h.here hk
  obtain ⟨e1, e2, e3⟩ := at0_open h1 c
  exact Or.inl ⟨by omega, e2, by rw [e3, h2], none_succ h3 (not_stop (Or.inr e1))⟩
theorem out_other {Z : Nat → Int} {n k : Nat} {d : Int} (h : OutAt Z n k d) (hk : k < n) (c0 : Z k ≠ 34) (c1 : Z k ≠ 123) (c2 : Z k ≠ 91) (c3 : Z k ≠ 125) (c4 : Z k ≠ 93) : OutAt Z n (k + 1) d := by
  obtain ⟨h1, h2, h3⟩ := h.here hk
  obtain ⟨e1, e2, e3⟩ := at0_other h1 c0 c1 c2 c3 c4
  exact Or.inl ⟨by omega, e2, by rw [e3, h2], none_succ h3 (not_stop (Or.inl e1))⟩
theorem out_shut {Z : Nat → Int} {n k : Nat} {d : Int} (h : OutAt Z n k d) (hk : k < n) (c : Z k = 125 ∨ Z k = 93) (hd : d - 1 ≠ 0) : OutAt Z n (k + 1) (d - 1) := by
  obtain ⟨h1, h2, h3⟩ := h.here hk
  obtain ⟨e1, e2, e3⟩ := at0_shut h1 c
  refine Or.inl ⟨by omega, e2, by rw [e3, h2], none_succ h3 ?_⟩
  rintro ⟨_, h5⟩
  rw [e3, ← h2] at h5
  exact hd h5
theorem out_stop {Z : Nat → Int} {n k : Nat} {d : Int} (h : OutAt Z n k d) (hk : k < n) (c : Z k = 125 ∨ Z k = 93) (hd : d - 1 = 0) : Ans Z n ((k : Int) + 1) := by
  obtain ⟨h1, h2, h3⟩ := h.here hk
  obtain ⟨e1, e2, e3⟩ := at0_shut h1 c
  exact Or.inl ⟨k, hk, ⟨Or.inl e1, by rw [e3, ← h2]; exact hd⟩, h3, rfl⟩
theorem in_slash {Z : Nat → Int} {n q : Nat} {d : Int} (h : InAt Z n q d) (hk : q < n) (c : Z q = 92) : InAt Z n (q + 2) d := by
  obtain ⟨h1, h2, h3⟩ := h.here hk
  obtain ⟨e1, e2, e3⟩ := at1_slash h1 c
  have h4 := none_succ h3 (not_stop (Or.inl e1))
  by_cases hq : q + 1 < n
  · obtain ⟨f1, f2, f3⟩ := at2 e2
    exact Or.inl ⟨by omega, f2, by rw [f3, e3, h2], none_succ h4 (not_stop (Or.inl f1))⟩
  · exact Or.inr ⟨by omega, fun j hj => h4 j (by omega)⟩
theorem in_other {Z : Nat → Int} {n q : Nat} {d : Int} (h : InAt Z n q d) (hk : q < n) (c : Z q ≠ 92) (c' : Z q ≠ 34) : InAt Z n (q + 1) d := by
  obtain ⟨h1, h2, h3⟩ := h.here hk
  obtain ⟨e1, e2, e3⟩ := at1_other h1 c c'
  exact Or.inl ⟨by omega, e2, by rw [e3, h2], none_succ h3 (not_stop (Or.inl e1))⟩
theorem in_quote {Z : Nat → Int} {n q : Nat} {d : Int} (h : InAt Z n q d) (hk : q < n) (c : Z q = 34) (hd : d ≠ 0) : OutAt Z n (q + 1) d := by
  obtain ⟨h1, h2, h3⟩ := h.here hk
  obtain ⟨e1, e2, e3⟩ := at1_quote h1 c
  refine Or.inl ⟨by omega, e2, by rw [e3, h2], none_succ h3 ?_⟩
  rintro ⟨_, h5⟩
  rw [e3, ← h2] at h5
  exact hd h5
theorem in_stop {Z : Nat → Int} {n q : Nat} {d : Int} (h : InAt Z n q d) (hk : q < n) (c : Z q = 34) (hd : d = 0) : Ans Z n ((q : Int) + 1) := by
  obtain ⟨h1, h2, h3⟩ := h.here hk
  obtain ⟨e1, e2, e3⟩ := at1_quote h1 c
  exact Or.inl ⟨q, hk, ⟨Or.inr e1, by rw [e3, ← h2]; exact hd⟩, h3, rfl⟩

def WPost (Z : Nat → Int) (n : Nat) (e : Ending) : Prop := ∃ a dd, e = .returned (.tuple #[.int .i64 a, .int .i64 dd]) ∧ Ans Z n a

set_option maxHeartbeats 1000000 in
theorem walk_any (g n cap : Nat) (Z : Nat → Int) (w : World) (hn : n ≤ 1048576) (hc : ∀ i, i < n → w.cell? ⟨g, i, none⟩ = some (.int .u8 (Z i))) :
    Calls Try.prog 26 #[.slice (some ⟨g, 0, none⟩) n cap, .bool true] w fun e w' => WPost Z n e ∧ w' = w := by
  have HC := hideIt hc
  clear hc
  go_enter Try.func26, Try.ntmps26
  go_wp2
  go_loop [5, 6, 7] (fun dv pv iv => ∃ (k : Nat) (d dd : Int), iv = .int .i64 k ∧ k ≤ n + 2 ∧ pv = .int .i64 d ∧ -(k : Int) ≤ d ∧ d ≤ k ∧ dv = .int .i64 dd ∧ Hid (OutAt Z n k d)) (fun _ _ iv => n + 2 - (intOf iv).toNat)
  case atStart => exact ⟨0, 0, 0, rfl, by omega, rfl, by omega, by omega, rfl, Or.inl ⟨Nat.zero_le _, rfl, rfl, fun j hj => by omega⟩⟩
  case round =>
    obtain ⟨k, d, dd, rfl, hk, rfl, hd1, hd2, rfl, hout⟩ := hrel
    by_cases hkn : k < n
    · have c0 := HC.out k hkn
      by_cases t34 : Z k = 34
      · have hin := hideIt (out_quote hout.out hkn t34)
        rw [t34] at c0
        clear t34 hout
        go_wp2
        go_loop [7] (fun iv => ∃ q : Nat, iv = .int .i64 q ∧ k < q ∧ q ≤ n + 1 ∧ Hid (InAt Z n q d)) (fun iv => n + 1 - (intOf iv).toNat)
        case atStart => exact ⟨k + 1, by go_num, by omega, by omega, hin⟩
        case round =>
          obtain ⟨q, rfl, hkq, hq, hinq⟩ := hrel
          clear hin
          by_cases hqn : q < n
          · have c1 := HC.out q hqn
            by_cases u34 : Z q = 34
            · rw [u34] at c1
              by_cases hd0 : d = 0
              · have ha := hideIt (in_stop hinq.out hqn u34 hd0)
                have hb : (d == 0) = true := by simpa using hd0
                clear hinq u34
                have HD := hideIt hd0
                clear hd0
                go_wp2
                go_ret2
                exact ⟨⟨_, _, rfl, ha.out⟩, rfl⟩
              · have hnx := hideIt (in_quote hinq.out hqn u34 hd0)
                have hb : (d == 0) = false := ne_f hd0
                clear hinq u34 hd0
                go_wp2
                go_round
                case rel => exact ⟨q + 1, d, _, by go_num, by omega, rfl, by omega, by omega, rfl, hnx⟩
                case measure => simp [intOf]; omega
            · by_cases u92 : Z q = 92
              · have hnx := hideIt (in_slash hinq.out hqn u92)
                rw [u92] at c1
                clear hinq u34 u92
                go_wp2
                go_round
                case rel => exact ⟨q + 2, by go_num, by omega, by omega, hnx⟩
                case measure => simp [intOf]; omega
              · have hnx := hideIt (in_other hinq.out hqn u92 u34)
                have b1 : (Z q == 92) = false := ne_f u92
                have b2 : (Z q == 34) = false := ne_f u34
                have b3 : (Z q != 34) = true := by simpa using u34
                clear hinq u34 u92
                go_wp2
                go_round
                case rel => exact ⟨q + 1, by go_num, by omega, by omega, hnx⟩
                case measure => simp [intOf]; omega
          · have hnx := hideIt (hinq.out.ended (by omega))
            clear hinq
            go_wp2
            go_round
            case rel => exact ⟨q + 1, d, _, by go_num, by omega, rfl, by omega, by omega, rfl, hnx⟩
            case measure => simp [intOf]; omega
      by_cases t123 : Z k = 123
      · have hnx := hideIt (out_open hout.out hkn (Or.inl t123))
        rw [t123] at c0
        clear hout
        go_wp2
        go_round
        case rel => exact ⟨k + 1, d + 1, _, by go_num, by omega, rfl, by omega, by omega, rfl, hnx⟩
        case measure => simp [intOf]; omega
      by_cases t91 : Z k = 91
      · have hnx := hideIt (out_open hout.out hkn (Or.inr t91))
        rw [t91] at c0
        clear hout
        go_wp2
        go_round
        case rel => exact ⟨k + 1, d + 1, _, by go_num, by omega, rfl, by omega, by omega, rfl, hnx⟩
        case measure => simp [intOf]; omega
      by_cases t125 : Z k = 125
      · rw [t125] at c0
        by_cases hd0 : d - 1 = 0
        · have ha := hideIt (out_stop hout.out hkn (Or.inl t125) hd0)
          have hb : (d - 1 == 0) = true := by simpa using hd0
          clear hout hd0
          go_wp2
          go_ret2
          exact ⟨⟨_, _, rfl, ha.out⟩, rfl⟩
        · have hnx := hideIt (out_shut hout.out hkn (Or.inl t125) hd0)
          have hb : (d - 1 == 0) = false := ne_f hd0
          clear hout hd0
          go_wp2
          go_round
          case rel => exact ⟨k + 1, d - 1, _, by go_num, by omega, rfl, by omega, by omega, rfl, hnx⟩
          case measure => simp [intOf]; omega
      by_cases t93 : Z k = 93
      · rw [t93] at c0
        by_cases hd0 : d - 1 = 0
        · have ha := hideIt (out_stop hout.out hkn (Or.inr t93) hd0)
          have hb : (d - 1 == 0) = true := by simpa using hd0
          clear hout hd0
          go_wp2
          go_ret2
          exact ⟨⟨_, _, rfl, ha.out⟩, rfl⟩
        · have hnx := hideIt (out_shut hout.out hkn (Or.inr t93) hd0)
          have hb : (d - 1 == 0) = false := ne_f hd0
          clear hout hd0
          go_wp2
          go_round
          case rel => exact ⟨k + 1, d - 1, _, by go_num, by omega, rfl, by omega, by omega, rfl, hnx⟩
          case measure => simp [intOf]; omega
      have hnx := hideIt (out_other hout.out hkn t34 t123 t91 t125 t93)
      have b1 := ne_f t34
      have b2 := ne_f t123
      have b3 := ne_f t91
      have b4 := ne_f t125
      have b5 := ne_f t93
      clear hout t34 t123 t91 t125 t93
      go_wp2
      go_round
      case rel => exact ⟨k + 1, d, _, by go_num, by omega, rfl, by omega, by omega, rfl, hnx⟩
      case measure => simp [intOf]; omega
    · have ha := hideIt (hout.out.ended (by omega))
      clear hout
      go_wp2
      go_ret2
      exact ⟨⟨_, _, rfl, ha.out⟩, rfl⟩
end Go.Proofs.Qxb6601149a
