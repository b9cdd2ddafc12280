/- word by contracts. -/
import Derived.Test.Qxb6600375aProg
import Derived.Test.Qxb6600375aPlain
import Derived.WalkKit
import Derived.WalkSpells
import Derived.WalkLawsBesides
import Derived.Below
import Derived.BigQuiet
namespace Go.Proofs.Qxb6600375a
open Go.RowKit
set_option linter.unusedVariables false

set_option maxHeartbeats 400000 in
theorem word_out (S : Nat) (pa : Option Addr) (R C row pos : Nat) (w : World)
    (c0 : w.cell? ⟨S, 0, none⟩ = some (.slice pa R C)) (hR : R ≤ 65537) (hr : row ≤ 65536) (h : R ≤ row) :
    Calls Try.prog 12 #[.pointer (some ⟨S, 0, none⟩), .int .i64 row, .int .i64 pos] w fun e w' => e = .returned (.int .i64 (-1)) ∧ w' = w := by
  go_enter Try.func12, Try.ntmps12
  go_wp2
  go_ret
  exact ⟨rfl, rfl⟩

set_option maxHeartbeats 400000 in
theorem word_nil (S g : Nat) (R C row pos : Nat) (w : World)
    (c0 : w.cell? ⟨S, 0, none⟩ = some (.slice (some ⟨g, 0, none⟩) R C)) (hR : R ≤ 65537) (hr : row ≤ 65536) (h : row < R)
    (c1 : w.cell? ⟨g, row, none⟩ = some (.slice none 0 0)) :
    Calls Try.prog 12 #[.pointer (some ⟨S, 0, none⟩), .int .i64 row, .int .i64 pos] w fun e w' => e = .returned (.int .i64 (-1)) ∧ w' = w := by
  go_enter Try.func12, Try.ntmps12
  go_wp2
  go_ret
  exact ⟨rfl, rfl⟩

set_option maxHeartbeats 400000 in
theorem word_none (S g gr : Nat) (R C row pos rs rn cr run : Nat) (w : World)
    (c0 : w.cell? ⟨S, 0, none⟩ = some (.slice (some ⟨g, 0, none⟩) R C)) (hR : R ≤ 65537) (hr : row ≤ 65536) (h : row < R)
    (c1 : w.cell? ⟨g, row, none⟩ = some (.slice (some ⟨gr, 0, none⟩) rn cr)) (hrn : 1 ≤ rn) (hrn2 : rn ≤ 65536) (c3 : w.cell? ⟨S, 3, none⟩ = some (.int .i64 rs)) (hrs : rs ≤ 12) (hpos : pos ≤ 1000000000)
    (hrun : (pos : Int) / 2 ^ rs = run) (hlt : run < rn) (cc : w.cell? ⟨gr, run, none⟩ = some (.int .i32 0)) :
    Calls Try.prog 12 #[.pointer (some ⟨S, 0, none⟩), .int .i64 row, .int .i64 pos] w fun e w' => e = .returned (.int .i64 (-1)) ∧ ∃ n, w' = w.drewN n := by
  have hz : ((rn : Int) == 0) = false := by simp; omega
  go_enter Try.func12, Try.ntmps12
  go_wp2
  go_quiet (fail)
  go_wp2
  go_ret
  exact ⟨rfl, _, rfl⟩

theorem two_pow_le (ps : Nat) (h : ps ≤ 6) : (1 : Int) ≤ 2 ^ ps ∧ (2 : Int) ^ ps ≤ 64 := by
  match ps, h with
  | 0, _ => decide
  | 1, _ => decide
  | 2, _ => decide
  | 3, _ => decide
  | 4, _ => decide
  | 5, _ => decide
  | 6, _ => decide

theorem wraps_i64 (n : Int) (h0 : 0 ≤ n) (h1 : n < 2 ^ 63) : IntKind.i64.wrap n = n := by rw [IntKind.wrap_i64]; omega

theorem word_num (k ps pos : Nat) (hps : ps ≤ 6) (hk : k ≤ 8192) (hpos : pos ≤ 1000000000) :
    wrap64 (wrap64 ((k : Int) * 2 ^ ps) + bits BinOp.and IntKind.i64 ((pos : Int) / 64) (wrap64 (wrap64 (2 ^ ps) - 1))) = (k : Int) * 2 ^ ps + (pos : Int) / 64 % 2 ^ ps := by
  obtain ⟨h1, h2⟩ := two_pow_le ps hps
  have e1 : wrap64 (2 ^ ps) = 2 ^ ps := by unfold wrap64; omega
  have e2 : wrap64 ((2 : Int) ^ ps - 1) = 2 ^ ps - 1 := by unfold wrap64; omega
  have hm : bits BinOp.and IntKind.i64 ((pos : Int) / 64) (2 ^ ps - 1) = (pos : Int) / 64 % 2 ^ ps :=
    bits_mask .i64 63 (by decide) wraps_i64 ps (by omega) ((pos : Int) / 64) (by omega) (by omega)
  have hk2 : (k : Int) * 2 ^ ps ≤ 8192 * 64 := Int.mul_le_mul (by omega) h2 (by omega) (by omega)
  have hk0 : 0 ≤ (k : Int) * 2 ^ ps := Int.mul_nonneg (by omega) (by omega)
  have hr0 : 0 ≤ (pos : Int) / 64 % 2 ^ ps := Int.emod_nonneg _ (by omega)
  have hr1 : (pos : Int) / 64 % 2 ^ ps < 2 ^ ps := Int.emod_lt_of_pos _ (by omega)
  rw [e1, e2, hm]
  generalize (k : Int) * 2 ^ ps = A at *
  generalize (pos : Int) / 64 % 2 ^ ps = B at *
  have e3 : wrap64 A = A := by unfold wrap64; omega
  rw [e3]
  unfold wrap64; omega

theorem idx_int (ps k pos : Nat) : (k : Int) * 2 ^ ps + (pos : Int) / 64 % 2 ^ ps = (idx ps k pos : Int) := by simp [idx]

theorem ret_int {k : IntKind} {a b : Int} (h : a = b) : Ending.returned (.int k a) = .returned (.int k b) := by rw [h]

set_option maxHeartbeats 400000 in
theorem word_some (S g gr : Nat) (R C row pos ps rs rn cr run k : Nat) (w : World)
    (c0 : w.cell? ⟨S, 0, none⟩ = some (.slice (some ⟨g, 0, none⟩) R C)) (hR : R ≤ 65537) (hr : row ≤ 65536) (h : row < R)
    (c1 : w.cell? ⟨g, row, none⟩ = some (.slice (some ⟨gr, 0, none⟩) rn cr)) (hrn : 1 ≤ rn) (hrn2 : rn ≤ 65536) (c2 : w.cell? ⟨S, 2, none⟩ = some (.int .i64 ps)) (hps : ps ≤ 6) (c3 : w.cell? ⟨S, 3, none⟩ = some (.int .i64 rs)) (hrs : rs ≤ 12) (hpos : pos ≤ 1000000000)
    (hrun : (pos : Int) / 2 ^ rs = run) (hlt : run < rn) (cc : w.cell? ⟨gr, run, none⟩ = some (.int .i32 ((k : Int) + 1))) (hk : k ≤ 8192) :
    Calls Try.prog 12 #[.pointer (some ⟨S, 0, none⟩), .int .i64 row, .int .i64 pos] w fun e w' => e = .returned (.int .i64 (idx ps k pos : Int)) ∧ ∃ n, w' = w.drewN n := by
  have hz : ((rn : Int) == 0) = false := by simp; omega
  go_enter Try.func12, Try.ntmps12
  go_wp2
  go_quiet (fail)
  go_wp2
  go_quiet (fail)
  go_wp2
  go_ret
  exact ⟨ret_int ((word_num k ps pos hps hk hpos).trans (idx_int ps k pos)), _, World.drewN_drewN _ _ _⟩
end Go.Proofs.Qxb6600375a
