/- decimal and shortHeader by contracts. -/
import Derived.Test.Qxb6600336aProg
import Derived.WalkKit
import Derived.WalkSpells
import Derived.WalkLawsBesides
import Derived.Below
import Derived.BigQuiet
namespace Go.Proofs.Qxb6600336a
open Go.RowKit

theorem dec0 (a : Option Addr) (c : Nat) (w : World) : Calls Try.prog 11 #[.slice a 0 c] w fun e w' => e = .returned (.tuple #[.int .i64 0, .bool false]) ∧ w' = w := by
  go_enter Try.func11, Try.ntmps11
  go_wp2
  go_ret2
  exact ⟨rfl, rfl⟩

set_option maxHeartbeats 400000 in
theorem dec1_yes (b o c : Nat) (c1 : Int) (w : World) (h : w.cell? ⟨b, o, none⟩ = some (.int .u8 c1)) (h1 : 48 ≤ c1) (h2 : c1 ≤ 57) :
    Calls Try.prog 11 #[.slice (some ⟨b, o, none⟩) 1 c] w fun e w' => e = .returned (.tuple #[.int .i64 (c1 - 48), .bool true]) ∧ w' = w := by
  go_enter Try.func11, Try.ntmps11
  go_wp2
  refine wp_loop_rounds 2 ?_
  rw [rounds_succ]
  go_wp2
  rw [rounds_succ]
  go_wp2
  go_ret2
  exact ⟨rfl, rfl⟩

set_option maxHeartbeats 400000 in
theorem dec1_no (b o c : Nat) (c1 : Int) (w : World) (h : w.cell? ⟨b, o, none⟩ = some (.int .u8 c1)) (h0 : 0 ≤ c1) (h1 : c1 ≤ 255) (h2 : c1 < 48 ∨ 57 < c1) :
    Calls Try.prog 11 #[.slice (some ⟨b, o, none⟩) 1 c] w fun e w' => e = .returned (.tuple #[.int .i64 0, .bool false]) ∧ w' = w := by
  rcases h2 with h2 | h2
  all_goals
    go_enter Try.func11, Try.ntmps11
    go_wp2
    refine wp_loop_rounds 2 ?_
    rw [rounds_succ]
    go_wp2
    go_ret2
    exact ⟨rfl, rfl⟩

set_option maxHeartbeats 400000 in
theorem dec2_yes (b o c : Nat) (c1 c2 : Int) (w : World) (h : w.cell? ⟨b, o, none⟩ = some (.int .u8 c1)) (hh : w.cell? ⟨b, o + 1, none⟩ = some (.int .u8 c2)) (h1 : 48 ≤ c1) (h2 : c1 ≤ 57) (h3 : 48 ≤ c2) (h4 : c2 ≤ 57) :
    Calls Try.prog 11 #[.slice (some ⟨b, o, none⟩) 2 c] w fun e w' => e = .returned (.tuple #[.int .i64 (10 * (c1 - 48) + (c2 - 48)), .bool true]) ∧ w' = w := by
  go_enter Try.func11, Try.ntmps11
  go_wp2
  refine wp_loop_rounds 3 ?_
  rw [rounds_succ]
  go_wp2
  rw [rounds_succ]
  go_wp2
  rw [rounds_succ]
  go_wp2
  go_ret2
  exact ⟨rfl, rfl⟩

set_option maxHeartbeats 400000 in
theorem dec2_no (b o c : Nat) (c1 c2 : Int) (w : World) (h : w.cell? ⟨b, o, none⟩ = some (.int .u8 c1)) (hh : w.cell? ⟨b, o + 1, none⟩ = some (.int .u8 c2)) (h0 : 0 ≤ c1) (h1 : c1 ≤ 255) (h3 : 0 ≤ c2) (h4 : c2 ≤ 255)
    (h2 : c1 < 48 ∨ 57 < c1 ∨ (48 ≤ c1 ∧ c1 ≤ 57 ∧ c2 < 48) ∨ (48 ≤ c1 ∧ c1 ≤ 57 ∧ 57 < c2)) :
    Calls Try.prog 11 #[.slice (some ⟨b, o, none⟩) 2 c] w fun e w' => e = .returned (.tuple #[.int .i64 0, .bool false]) ∧ w' = w := by
  rcases h2 with h2 | h2 | ⟨h5, h6, h2⟩ | ⟨h5, h6, h2⟩
  · go_enter Try.func11, Try.ntmps11
    go_wp2
    refine wp_loop_rounds 3 ?_
    rw [rounds_succ]
    go_wp2
    go_ret2
    exact ⟨rfl, rfl⟩
  · go_enter Try.func11, Try.ntmps11
    go_wp2
    refine wp_loop_rounds 3 ?_
    rw [rounds_succ]
    go_wp2
    go_ret2
    exact ⟨rfl, rfl⟩
  all_goals
    go_enter Try.func11, Try.ntmps11
    go_wp2
    refine wp_loop_rounds 3 ?_
    rw [rounds_succ]
    go_wp2
    rw [rounds_succ]
    go_wp2
    go_ret2
    exact ⟨rfl, rfl⟩
end Go.Proofs.Qxb6600336a
