/- Span and spanModel by contracts. -/
import Derived.Test.Qxb6601149aModel
namespace Go.Proofs.Qxb6601149a
open Go.RowKit
set_option linter.unusedVariables false

/-- The answer of a text that opens a value. -/
def SPost (Z : Nat → Int) (n : Nat) (e : Ending) : Prop := ∃ a, Ans Z n a ∧ e = .returned (.int .i64 (if a < 0 then 0 else a))
def Opens (c : Int) : Prop := c = 34 ∨ c = 123 ∨ c = 91

theorem span_empty (p : Option Addr) (cap : Nat) (w : World) : Calls Try.prog 18 #[.slice p 0 cap] w fun e w' => e = .returned (.int .i64 0) ∧ w' = w := by
  go_enter Try.func18, Try.ntmps18
  go_wp2
  go_ret
  exact ⟨rfl, rfl⟩
theorem model_empty (p : Option Addr) (cap : Nat) (w : World) : Calls Try.prog 23 #[.slice p 0 cap] w fun e w' => e = .returned (.int .i64 0) ∧ w' = w := by
  go_enter Try.func23, Try.ntmps23
  go_wp2
  go_ret
  exact ⟨rfl, rfl⟩

theorem ne_t {a b : Int} (h : ¬ a = b) : (a != b) = true := by simpa using h

set_option maxHeartbeats 400000 in
theorem span_none (g n cap : Nat) (c : Int) (w : World) (hn : n ≤ 1048576) (h0 : 0 < n) (hc : w.cell? ⟨g, 0, none⟩ = some (.int .u8 c)) (ho : ¬ Opens c) :
    Calls Try.prog 18 #[.slice (some ⟨g, 0, none⟩) n cap] w fun e w' => e = .returned (.int .i64 0) ∧ w' = w := by
  have b1 := ne_t (fun h => ho (Or.inl h))
  have b2 := ne_t (fun h => ho (Or.inr (Or.inl h)))
  have b3 := ne_t (fun h => ho (Or.inr (Or.inr h)))
  have hz : ((n : Int) == 0) = false := by simp; omega
  clear ho
  go_enter Try.func18, Try.ntmps18
  go_wp2
  go_ret
  exact ⟨rfl, rfl⟩
set_option maxHeartbeats 400000 in
theorem model_none (g n cap : Nat) (c : Int) (w : World) (hn : n ≤ 1048576) (h0 : 0 < n) (hc : w.cell? ⟨g, 0, none⟩ = some (.int .u8 c)) (ho : ¬ Opens c) :
    Calls Try.prog 23 #[.slice (some ⟨g, 0, none⟩) n cap] w fun e w' => e = .returned (.int .i64 0) ∧ w' = w := by
  have b1 := ne_t (fun h => ho (Or.inl h))
  have b2 := ne_t (fun h => ho (Or.inr (Or.inl h)))
  have b3 := ne_t (fun h => ho (Or.inr (Or.inr h)))
  have hz : ((n : Int) == 0) = false := by simp; omega
  clear ho
  go_enter Try.func23, Try.ntmps23
  go_wp2
  go_ret
  exact ⟨rfl, rfl⟩

set_option maxHeartbeats 400000 in
theorem span_open (g n cap : Nat) (Z : Nat → Int) (w : World) (hn : n ≤ 1048576) (h0 : 0 < n) (hc : ∀ i, i < n → w.cell? ⟨g, i, none⟩ = some (.int .u8 (Z i))) (ho : Opens (Z 0)) :
    Calls Try.prog 18 #[.slice (some ⟨g, 0, none⟩) n cap] w fun e w' => SPost Z n e ∧ w' = w := by
  have W := walk_any g n cap Z w hn hc
  have c0 := hc 0 h0
  have hz : ((n : Int) == 0) = false := by simp; omega
  clear hc
  rcases ho with h | h | h
  all_goals
    rw [h] at c0
    clear h
    go_enter Try.func18, Try.ntmps18
    go_wp2_with fail
    refine W.mono ?_
    clear W
    rintro e w' ⟨⟨a, dd, rfl, ha⟩, rfl⟩
    have HA := hideIt ha
    clear ha
    by_cases hneg : a < 0
    · go_wp2_with fail
      go_ret
      exact ⟨⟨a, HA.out, by rw [if_pos hneg]; rfl⟩, rfl⟩
    · go_wp2_with fail
      go_ret
      exact ⟨⟨a, HA.out, by rw [if_neg (by omega)]; rfl⟩, rfl⟩

set_option maxHeartbeats 400000 in
theorem model_open (g n cap : Nat) (Z : Nat → Int) (w : World) (hn : n ≤ 1048576) (h0 : 0 < n) (hgw : g < w.heap.size) (hc : ∀ i, i < n → w.cell? ⟨g, i, none⟩ = some (.int .u8 (Z i))) (ho : Opens (Z 0)) :
    Calls Try.prog 23 #[.slice (some ⟨g, 0, none⟩) n cap] w fun e w' => SPost Z n e ∧ Below w.heap.size w w' := by
  have W := model_any g n cap Z w hn hgw hc
  have c0 := hc 0 h0
  have hz : ((n : Int) == 0) = false := by simp; omega
  clear hc
  rcases ho with h | h | h
  all_goals
    rw [h] at c0
    clear h
    go_enter Try.func23, Try.ntmps23
    go_wp2_with fail
    refine W.mono ?_
    clear W
    rintro e w' ⟨⟨a, dd, rfl, ha⟩, hb⟩
    have HA := hideIt ha
    clear ha
    by_cases hneg : a < 0
    · go_wp2_with fail
      go_ret
      exact ⟨⟨a, HA.out, by rw [if_pos hneg]; rfl⟩, hb⟩
    · go_wp2_with fail
      go_ret
      exact ⟨⟨a, HA.out, by rw [if_neg (by omega)]; rfl⟩, hb⟩
end Go.Proofs.Qxb6601149a
