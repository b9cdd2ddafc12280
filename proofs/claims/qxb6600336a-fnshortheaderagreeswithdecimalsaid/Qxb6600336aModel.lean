/- shortHeaderModel by a contract. -/
import Derived.Test.Qxb6600336aShort
namespace Go.Proofs.Qxb6600336a
open Go.RowKit
set_option linter.unusedVariables false

theorem ii {a b c d : Int} (h : a = b) (h' : c = d) : Ending.returned (.tuple #[.int .i64 a, .int .i64 c]) = .returned (.tuple #[.int .i64 b, .int .i64 d]) := by rw [h, h']

theorem md_short (p : Option Addr) (len cap : Nat) (at_ : Nat) (kind : Int) (w : World) (h1 : len ≤ 1048576) (h2 : at_ ≤ 2097152) (h : len ≤ at_ + 4) :
    Calls Try.prog 16 #[.slice p len cap, .int .i64 at_, .int .u8 kind] w fun e w' => e = .returned (.tuple #[.int .i64 0, .int .i64 0]) ∧ w' = w := by
  go_enter Try.func16, Try.ntmps16
  go_wp2
  go_ret2
  exact ⟨rfl, rfl⟩

theorem md_kind (g len cap : Nat) (at_ : Nat) (c0 kind : Int) (w : World) (h1 : len ≤ 1048576) (h2 : at_ ≤ 2097152) (h : at_ + 4 < len)
    (hc0 : w.cell? ⟨g, at_, none⟩ = some (.int .u8 c0)) (hk : (c0 != kind) = true) :
    Calls Try.prog 16 #[.slice (some ⟨g, 0, none⟩) len cap, .int .i64 at_, .int .u8 kind] w fun e w' => e = .returned (.tuple #[.int .i64 0, .int .i64 0]) ∧ w' = w := by
  go_enter Try.func16, Try.ntmps16
  go_wp2
  go_ret2
  exact ⟨rfl, rfl⟩

set_option maxHeartbeats 400000 in
theorem md_M1a (g len cap : Nat) (at_ : Nat) (kind c2 c3 c4 : Int) (w : World) (h1 : len ≤ 1048576) (h2 : at_ ≤ 2097152) (h : at_ + 4 < len) (hlc : len ≤ cap)
    (hc0 : w.cell? ⟨g, at_, none⟩ = some (.int .u8 kind)) (hc1 : w.cell? ⟨g, at_ + 1, none⟩ = some (.int .u8 13)) (hc2 : w.cell? ⟨g, at_ + 2, none⟩ = some (.int .u8 c2)) (hc3 : w.cell? ⟨g, at_ + 3, none⟩ = some (.int .u8 c3)) (hc4 : w.cell? ⟨g, at_ + 4, none⟩ = some (.int .u8 c4))
    (blc2 : 0 ≤ c2) (buc2 : c2 ≤ 255) (blc3 : 0 ≤ c3) (buc3 : c3 ≤ 255) (blc4 : 0 ≤ c4) (buc4 : c4 ≤ 255) (q0 : (c2 != 10) = true) :
    Calls Try.prog 16 #[.slice (some ⟨g, 0, none⟩) len cap, .int .i64 at_, .int .u8 kind] w fun e w' => e = .returned (.tuple #[.int .i64 (0), .int .i64 (0)]) ∧ w' = w := by
  go_enter Try.func16, Try.ntmps16
  go_wp2_with fail
  refine wp_loop_rounds 4 ?_
  rw [rounds_succ]
  go_wp2_with fail
  go_ret2
  exact ⟨rfl, rfl⟩

set_option maxHeartbeats 400000 in
theorem md_M1b (g len cap : Nat) (at_ : Nat) (kind c3 c4 : Int) (w : World) (h1 : len ≤ 1048576) (h2 : at_ ≤ 2097152) (h : at_ + 4 < len) (hlc : len ≤ cap)
    (hc0 : w.cell? ⟨g, at_, none⟩ = some (.int .u8 kind)) (hc1 : w.cell? ⟨g, at_ + 1, none⟩ = some (.int .u8 13)) (hc2 : w.cell? ⟨g, at_ + 2, none⟩ = some (.int .u8 10)) (hc3 : w.cell? ⟨g, at_ + 3, none⟩ = some (.int .u8 c3)) (hc4 : w.cell? ⟨g, at_ + 4, none⟩ = some (.int .u8 c4))
    (blc3 : 0 ≤ c3) (buc3 : c3 ≤ 255) (blc4 : 0 ≤ c4) (buc4 : c4 ≤ 255)  :
    Calls Try.prog 16 #[.slice (some ⟨g, 0, none⟩) len cap, .int .i64 at_, .int .u8 kind] w fun e w' => e = .returned (.tuple #[.int .i64 (0), .int .i64 (0)]) ∧ w' = w := by
  go_enter Try.func16, Try.ntmps16
  go_wp2_with fail
  refine wp_loop_rounds 4 ?_
  rw [rounds_succ]
  go_wp2_with fail
  refine (dec0 _ _ _).mono ?_
  rintro e w' ⟨rfl, rfl⟩
  go_wp2_with fail
  go_ret2
  exact ⟨rfl, rfl⟩

set_option maxHeartbeats 400000 in
theorem md_M2a (g len cap : Nat) (at_ : Nat) (kind c1 c3 c4 : Int) (w : World) (h1 : len ≤ 1048576) (h2 : at_ ≤ 2097152) (h : at_ + 4 < len) (hlc : len ≤ cap)
    (hc0 : w.cell? ⟨g, at_, none⟩ = some (.int .u8 kind)) (hc1 : w.cell? ⟨g, at_ + 1, none⟩ = some (.int .u8 c1)) (hc2 : w.cell? ⟨g, at_ + 2, none⟩ = some (.int .u8 13)) (hc3 : w.cell? ⟨g, at_ + 3, none⟩ = some (.int .u8 c3)) (hc4 : w.cell? ⟨g, at_ + 4, none⟩ = some (.int .u8 c4))
    (blc1 : 0 ≤ c1) (buc1 : c1 ≤ 255) (blc3 : 0 ≤ c3) (buc3 : c3 ≤ 255) (blc4 : 0 ≤ c4) (buc4 : c4 ≤ 255) (q0 : (c1 == 13) = false) (q1 : (c3 != 10) = true) :
    Calls Try.prog 16 #[.slice (some ⟨g, 0, none⟩) len cap, .int .i64 at_, .int .u8 kind] w fun e w' => e = .returned (.tuple #[.int .i64 (0), .int .i64 (0)]) ∧ w' = w := by
  go_enter Try.func16, Try.ntmps16
  go_wp2_with fail
  refine wp_loop_rounds 4 ?_
  rw [rounds_succ]
  go_wp2_with fail
  rw [rounds_succ]
  go_wp2_with fail
  go_ret2
  exact ⟨rfl, rfl⟩

set_option maxHeartbeats 400000 in
theorem md_M2b (g len cap : Nat) (at_ : Nat) (kind c1 c4 : Int) (w : World) (h1 : len ≤ 1048576) (h2 : at_ ≤ 2097152) (h : at_ + 4 < len) (hlc : len ≤ cap)
    (hc0 : w.cell? ⟨g, at_, none⟩ = some (.int .u8 kind)) (hc1 : w.cell? ⟨g, at_ + 1, none⟩ = some (.int .u8 c1)) (hc2 : w.cell? ⟨g, at_ + 2, none⟩ = some (.int .u8 13)) (hc3 : w.cell? ⟨g, at_ + 3, none⟩ = some (.int .u8 10)) (hc4 : w.cell? ⟨g, at_ + 4, none⟩ = some (.int .u8 c4))
    (blc1 : 0 ≤ c1) (buc1 : c1 ≤ 255) (blc4 : 0 ≤ c4) (buc4 : c4 ≤ 255) (q0 : (c1 == 13) = false) (q1 : 48 ≤ c1) (q2 : c1 ≤ 57) :
    Calls Try.prog 16 #[.slice (some ⟨g, 0, none⟩) len cap, .int .i64 at_, .int .u8 kind] w fun e w' => e = .returned (.tuple #[.int .i64 (c1 - 48), .int .i64 ((at_ : Int) + 4)]) ∧ w' = w := by
  go_enter Try.func16, Try.ntmps16
  go_wp2_with fail
  refine wp_loop_rounds 4 ?_
  rw [rounds_succ]
  go_wp2_with fail
  rw [rounds_succ]
  go_wp2_with fail
  refine (dec1_yes _ _ _ c1 _ hc1 q1 q2).mono ?_
  rintro e w' ⟨rfl, rfl⟩
  go_wp2_with fail
  go_ret2
  refine ⟨ii rfl ?_, rfl⟩
  show (at_ : Int) + 1 + 1 + 2 = at_ + 4
  omega

set_option maxHeartbeats 400000 in
theorem md_M2c (g len cap : Nat) (at_ : Nat) (kind c1 c4 : Int) (w : World) (h1 : len ≤ 1048576) (h2 : at_ ≤ 2097152) (h : at_ + 4 < len) (hlc : len ≤ cap)
    (hc0 : w.cell? ⟨g, at_, none⟩ = some (.int .u8 kind)) (hc1 : w.cell? ⟨g, at_ + 1, none⟩ = some (.int .u8 c1)) (hc2 : w.cell? ⟨g, at_ + 2, none⟩ = some (.int .u8 13)) (hc3 : w.cell? ⟨g, at_ + 3, none⟩ = some (.int .u8 10)) (hc4 : w.cell? ⟨g, at_ + 4, none⟩ = some (.int .u8 c4))
    (blc1 : 0 ≤ c1) (buc1 : c1 ≤ 255) (blc4 : 0 ≤ c4) (buc4 : c4 ≤ 255) (q0 : (c1 == 13) = false) (q1 : c1 < 48 ∨ 57 < c1) :
    Calls Try.prog 16 #[.slice (some ⟨g, 0, none⟩) len cap, .int .i64 at_, .int .u8 kind] w fun e w' => e = .returned (.tuple #[.int .i64 (0), .int .i64 (0)]) ∧ w' = w := by
  go_enter Try.func16, Try.ntmps16
  go_wp2_with fail
  refine wp_loop_rounds 4 ?_
  rw [rounds_succ]
  go_wp2_with fail
  rw [rounds_succ]
  go_wp2_with fail
  refine (dec1_no _ _ _ c1 _ hc1 blc1 buc1 q1).mono ?_
  rintro e w' ⟨rfl, rfl⟩
  go_wp2_with fail
  go_ret2
  exact ⟨rfl, rfl⟩

set_option maxHeartbeats 400000 in
theorem md_M3a (g len cap : Nat) (at_ : Nat) (kind c1 c2 c4 : Int) (w : World) (h1 : len ≤ 1048576) (h2 : at_ ≤ 2097152) (h : at_ + 4 < len) (hlc : len ≤ cap)
    (hc0 : w.cell? ⟨g, at_, none⟩ = some (.int .u8 kind)) (hc1 : w.cell? ⟨g, at_ + 1, none⟩ = some (.int .u8 c1)) (hc2 : w.cell? ⟨g, at_ + 2, none⟩ = some (.int .u8 c2)) (hc3 : w.cell? ⟨g, at_ + 3, none⟩ = some (.int .u8 13)) (hc4 : w.cell? ⟨g, at_ + 4, none⟩ = some (.int .u8 c4))
    (blc1 : 0 ≤ c1) (buc1 : c1 ≤ 255) (blc2 : 0 ≤ c2) (buc2 : c2 ≤ 255) (blc4 : 0 ≤ c4) (buc4 : c4 ≤ 255) (q0 : (c1 == 13) = false) (q1 : (c2 == 13) = false) (q2 : (c4 != 10) = true) :
    Calls Try.prog 16 #[.slice (some ⟨g, 0, none⟩) len cap, .int .i64 at_, .int .u8 kind] w fun e w' => e = .returned (.tuple #[.int .i64 (0), .int .i64 (0)]) ∧ w' = w := by
  go_enter Try.func16, Try.ntmps16
  go_wp2_with fail
  refine wp_loop_rounds 4 ?_
  rw [rounds_succ]
  go_wp2_with fail
  rw [rounds_succ]
  go_wp2_with fail
  rw [rounds_succ]
  go_wp2_with fail
  go_ret2
  exact ⟨rfl, rfl⟩

set_option maxHeartbeats 400000 in
theorem md_M3b (g len cap : Nat) (at_ : Nat) (kind c1 c2 : Int) (w : World) (h1 : len ≤ 1048576) (h2 : at_ ≤ 2097152) (h : at_ + 4 < len) (hlc : len ≤ cap)
    (hc0 : w.cell? ⟨g, at_, none⟩ = some (.int .u8 kind)) (hc1 : w.cell? ⟨g, at_ + 1, none⟩ = some (.int .u8 c1)) (hc2 : w.cell? ⟨g, at_ + 2, none⟩ = some (.int .u8 c2)) (hc3 : w.cell? ⟨g, at_ + 3, none⟩ = some (.int .u8 13)) (hc4 : w.cell? ⟨g, at_ + 4, none⟩ = some (.int .u8 10))
    (blc1 : 0 ≤ c1) (buc1 : c1 ≤ 255) (blc2 : 0 ≤ c2) (buc2 : c2 ≤ 255) (q0 : (c1 == 13) = false) (q1 : (c2 == 13) = false) (q2 : 48 ≤ c1) (q3 : c1 ≤ 57) (q4 : 48 ≤ c2) (q5 : c2 ≤ 57) :
    Calls Try.prog 16 #[.slice (some ⟨g, 0, none⟩) len cap, .int .i64 at_, .int .u8 kind] w fun e w' => e = .returned (.tuple #[.int .i64 (10 * (c1 - 48) + (c2 - 48)), .int .i64 ((at_ : Int) + 5)]) ∧ w' = w := by
  go_enter Try.func16, Try.ntmps16
  go_wp2_with fail
  refine wp_loop_rounds 4 ?_
  rw [rounds_succ]
  go_wp2_with fail
  rw [rounds_succ]
  go_wp2_with fail
  rw [rounds_succ]
  go_wp2_with fail
  refine (dec2_yes _ _ _ c1 c2 _ hc1 hc2 q2 q3 q4 q5).mono ?_
  rintro e w' ⟨rfl, rfl⟩
  go_wp2_with fail
  go_ret2
  refine ⟨ii rfl ?_, rfl⟩
  show (at_ : Int) + 1 + 1 + 1 + 2 = at_ + 5
  omega

set_option maxHeartbeats 400000 in
theorem md_M3c (g len cap : Nat) (at_ : Nat) (kind c1 c2 : Int) (w : World) (h1 : len ≤ 1048576) (h2 : at_ ≤ 2097152) (h : at_ + 4 < len) (hlc : len ≤ cap)
    (hc0 : w.cell? ⟨g, at_, none⟩ = some (.int .u8 kind)) (hc1 : w.cell? ⟨g, at_ + 1, none⟩ = some (.int .u8 c1)) (hc2 : w.cell? ⟨g, at_ + 2, none⟩ = some (.int .u8 c2)) (hc3 : w.cell? ⟨g, at_ + 3, none⟩ = some (.int .u8 13)) (hc4 : w.cell? ⟨g, at_ + 4, none⟩ = some (.int .u8 10))
    (blc1 : 0 ≤ c1) (buc1 : c1 ≤ 255) (blc2 : 0 ≤ c2) (buc2 : c2 ≤ 255) (q0 : (c1 == 13) = false) (q1 : (c2 == 13) = false) (q2 : c1 < 48 ∨ 57 < c1 ∨ (48 ≤ c1 ∧ c1 ≤ 57 ∧ c2 < 48) ∨ (48 ≤ c1 ∧ c1 ≤ 57 ∧ 57 < c2)) :
    Calls Try.prog 16 #[.slice (some ⟨g, 0, none⟩) len cap, .int .i64 at_, .int .u8 kind] w fun e w' => e = .returned (.tuple #[.int .i64 (0), .int .i64 (0)]) ∧ w' = w := by
  go_enter Try.func16, Try.ntmps16
  go_wp2_with fail
  refine wp_loop_rounds 4 ?_
  rw [rounds_succ]
  go_wp2_with fail
  rw [rounds_succ]
  go_wp2_with fail
  rw [rounds_succ]
  go_wp2_with fail
  refine (dec2_no _ _ _ c1 c2 _ hc1 hc2 blc1 buc1 blc2 buc2 q2).mono ?_
  rintro e w' ⟨rfl, rfl⟩
  go_wp2_with fail
  go_ret2
  exact ⟨rfl, rfl⟩

set_option maxHeartbeats 400000 in
theorem md_M4 (g len cap : Nat) (at_ : Nat) (kind c1 c2 c3 c4 : Int) (w : World) (h1 : len ≤ 1048576) (h2 : at_ ≤ 2097152) (h : at_ + 4 < len) (hlc : len ≤ cap)
    (hc0 : w.cell? ⟨g, at_, none⟩ = some (.int .u8 kind)) (hc1 : w.cell? ⟨g, at_ + 1, none⟩ = some (.int .u8 c1)) (hc2 : w.cell? ⟨g, at_ + 2, none⟩ = some (.int .u8 c2)) (hc3 : w.cell? ⟨g, at_ + 3, none⟩ = some (.int .u8 c3)) (hc4 : w.cell? ⟨g, at_ + 4, none⟩ = some (.int .u8 c4))
    (blc1 : 0 ≤ c1) (buc1 : c1 ≤ 255) (blc2 : 0 ≤ c2) (buc2 : c2 ≤ 255) (blc3 : 0 ≤ c3) (buc3 : c3 ≤ 255) (blc4 : 0 ≤ c4) (buc4 : c4 ≤ 255) (q0 : (c1 == 13) = false) (q1 : (c2 == 13) = false) (q2 : (c3 == 13) = false) :
    Calls Try.prog 16 #[.slice (some ⟨g, 0, none⟩) len cap, .int .i64 at_, .int .u8 kind] w fun e w' => e = .returned (.tuple #[.int .i64 (0), .int .i64 (0)]) ∧ w' = w := by
  go_enter Try.func16, Try.ntmps16
  go_wp2_with fail
  refine wp_loop_rounds 4 ?_
  rw [rounds_succ]
  go_wp2_with fail
  rw [rounds_succ]
  go_wp2_with fail
  rw [rounds_succ]
  go_wp2_with fail
  rw [rounds_succ]
  go_wp2_with fail
  go_ret2
  exact ⟨rfl, rfl⟩

end Go.Proofs.Qxb6600336a
