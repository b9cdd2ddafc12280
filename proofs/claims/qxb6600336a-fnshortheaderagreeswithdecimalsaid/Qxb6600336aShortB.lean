/- shortHeader by a contract. -/
import Derived.Test.Qxb6600336aProg
import Derived.WalkKit
import Derived.WalkSpells
import Derived.WalkLawsBesides
import Derived.Below
import Derived.BigQuiet
namespace Go.Proofs.Qxb6600336a
open Go.RowKit
set_option linter.unusedVariables false

theorem sh_short (p : Option Addr) (len cap : Nat) (at_ : Nat) (kind : Int) (w : World) (h1 : len ≤ 1048576) (h2 : at_ ≤ 2097152) (h : len ≤ at_ + 4) :
    Calls Try.prog 17 #[.slice p len cap, .int .i64 at_, .int .u8 kind] w fun e w' => e = .returned (.tuple #[.int .i64 0, .int .i64 0]) ∧ w' = w := by
  go_enter Try.func17, Try.ntmps17
  go_wp2
  go_ret2
  exact ⟨rfl, rfl⟩

theorem sh_kind (g len cap : Nat) (at_ : Nat) (c0 kind : Int) (w : World) (h1 : len ≤ 1048576) (h2 : at_ ≤ 2097152) (h : at_ + 4 < len)
    (hc0 : w.cell? ⟨g, at_, none⟩ = some (.int .u8 c0)) (hk : (c0 != kind) = true) :
    Calls Try.prog 17 #[.slice (some ⟨g, 0, none⟩) len cap, .int .i64 at_, .int .u8 kind] w fun e w' => e = .returned (.tuple #[.int .i64 0, .int .i64 0]) ∧ w' = w := by
  go_enter Try.func17, Try.ntmps17
  go_wp2
  go_ret2
  exact ⟨rfl, rfl⟩

set_option maxHeartbeats 400000 in
theorem sh_A1 (g len cap : Nat) (at_ : Nat) (kind c1 c2 c3 c4 : Int) (w : World) (h1 : len ≤ 1048576) (h2 : at_ ≤ 2097152) (h : at_ + 4 < len) (hlc : len ≤ cap)
    (hc0 : w.cell? ⟨g, at_, none⟩ = some (.int .u8 kind)) (hc1 : w.cell? ⟨g, at_ + 1, none⟩ = some (.int .u8 c1)) (hc2 : w.cell? ⟨g, at_ + 1 + 1, none⟩ = some (.int .u8 c2)) (hc3 : w.cell? ⟨g, at_ + 1 + 2, none⟩ = some (.int .u8 c3)) (hc4 : w.cell? ⟨g, at_ + 1 + 3, none⟩ = some (.int .u8 c4))
    (blc1 : 0 ≤ c1) (buc1 : c1 ≤ 255) (blc2 : 0 ≤ c2) (buc2 : c2 ≤ 255) (blc3 : 0 ≤ c3) (buc3 : c3 ≤ 255) (blc4 : 0 ≤ c4) (buc4 : c4 ≤ 255) (q0 : 57 < c1) :
    Calls Try.prog 17 #[.slice (some ⟨g, 0, none⟩) len cap, .int .i64 at_, .int .u8 kind] w fun e w' => e = .returned (.tuple #[.int .i64 (0), .int .i64 (0)]) ∧ ∃ n, w' = w.drewN n := by
  go_enter Try.func17, Try.ntmps17
  go_wp2
  go_quiet (fail)
  go_wp2
  go_ret2
  exact ⟨rfl, _, rfl⟩

set_option maxHeartbeats 400000 in
theorem sh_A2 (g len cap : Nat) (at_ : Nat) (kind c1 c2 c3 c4 : Int) (w : World) (h1 : len ≤ 1048576) (h2 : at_ ≤ 2097152) (h : at_ + 4 < len) (hlc : len ≤ cap)
    (hc0 : w.cell? ⟨g, at_, none⟩ = some (.int .u8 kind)) (hc1 : w.cell? ⟨g, at_ + 1, none⟩ = some (.int .u8 c1)) (hc2 : w.cell? ⟨g, at_ + 1 + 1, none⟩ = some (.int .u8 c2)) (hc3 : w.cell? ⟨g, at_ + 1 + 2, none⟩ = some (.int .u8 c3)) (hc4 : w.cell? ⟨g, at_ + 1 + 3, none⟩ = some (.int .u8 c4))
    (blc1 : 0 ≤ c1) (buc1 : c1 ≤ 255) (blc2 : 0 ≤ c2) (buc2 : c2 ≤ 255) (blc3 : 0 ≤ c3) (buc3 : c3 ≤ 255) (blc4 : 0 ≤ c4) (buc4 : c4 ≤ 255) (q0 : c1 < 48) :
    Calls Try.prog 17 #[.slice (some ⟨g, 0, none⟩) len cap, .int .i64 at_, .int .u8 kind] w fun e w' => e = .returned (.tuple #[.int .i64 (0), .int .i64 (0)]) ∧ ∃ n, w' = w.drewN n := by
  go_enter Try.func17, Try.ntmps17
  go_wp2
  go_quiet (fail)
  go_wp2
  go_ret2
  exact ⟨rfl, _, rfl⟩

set_option maxHeartbeats 400000 in
theorem sh_B (g len cap : Nat) (at_ : Nat) (kind c1 c4 : Int) (w : World) (h1 : len ≤ 1048576) (h2 : at_ ≤ 2097152) (h : at_ + 4 < len) (hlc : len ≤ cap)
    (hc0 : w.cell? ⟨g, at_, none⟩ = some (.int .u8 kind)) (hc1 : w.cell? ⟨g, at_ + 1, none⟩ = some (.int .u8 c1)) (hc2 : w.cell? ⟨g, at_ + 1 + 1, none⟩ = some (.int .u8 13)) (hc3 : w.cell? ⟨g, at_ + 1 + 2, none⟩ = some (.int .u8 10)) (hc4 : w.cell? ⟨g, at_ + 1 + 3, none⟩ = some (.int .u8 c4))
    (blc1 : 0 ≤ c1) (buc1 : c1 ≤ 255) (blc4 : 0 ≤ c4) (buc4 : c4 ≤ 255) (q0 : 48 ≤ c1) (q1 : c1 ≤ 57) :
    Calls Try.prog 17 #[.slice (some ⟨g, 0, none⟩) len cap, .int .i64 at_, .int .u8 kind] w fun e w' => e = .returned (.tuple #[.int .i64 (c1 - 48), .int .i64 ((at_ : Int) + 4)]) ∧ ∃ n, w' = w.drewN n := by
  go_enter Try.func17, Try.ntmps17
  go_wp2
  go_quiet (fail)
  go_wp2
  go_ret2
  exact ⟨rfl, _, rfl⟩

set_option maxHeartbeats 400000 in
theorem sh_C (g len cap : Nat) (at_ : Nat) (kind c1 c3 c4 : Int) (w : World) (h1 : len ≤ 1048576) (h2 : at_ ≤ 2097152) (h : at_ + 4 < len) (hlc : len ≤ cap)
    (hc0 : w.cell? ⟨g, at_, none⟩ = some (.int .u8 kind)) (hc1 : w.cell? ⟨g, at_ + 1, none⟩ = some (.int .u8 c1)) (hc2 : w.cell? ⟨g, at_ + 1 + 1, none⟩ = some (.int .u8 13)) (hc3 : w.cell? ⟨g, at_ + 1 + 2, none⟩ = some (.int .u8 c3)) (hc4 : w.cell? ⟨g, at_ + 1 + 3, none⟩ = some (.int .u8 c4))
    (blc1 : 0 ≤ c1) (buc1 : c1 ≤ 255) (blc3 : 0 ≤ c3) (buc3 : c3 ≤ 255) (blc4 : 0 ≤ c4) (buc4 : c4 ≤ 255) (q0 : 48 ≤ c1) (q1 : c1 ≤ 57) (q2 : (c3 == 10) = false) :
    Calls Try.prog 17 #[.slice (some ⟨g, 0, none⟩) len cap, .int .i64 at_, .int .u8 kind] w fun e w' => e = .returned (.tuple #[.int .i64 (0), .int .i64 (0)]) ∧ ∃ n, w' = w.drewN n := by
  go_enter Try.func17, Try.ntmps17
  go_wp2
  go_quiet (fail)
  go_wp2
  go_ret2
  exact ⟨rfl, _, rfl⟩

set_option maxHeartbeats 400000 in
theorem sh_D1 (g len cap : Nat) (at_ : Nat) (kind c1 c2 c3 c4 : Int) (w : World) (h1 : len ≤ 1048576) (h2 : at_ ≤ 2097152) (h : at_ + 4 < len) (hlc : len ≤ cap)
    (hc0 : w.cell? ⟨g, at_, none⟩ = some (.int .u8 kind)) (hc1 : w.cell? ⟨g, at_ + 1, none⟩ = some (.int .u8 c1)) (hc2 : w.cell? ⟨g, at_ + 1 + 1, none⟩ = some (.int .u8 c2)) (hc3 : w.cell? ⟨g, at_ + 1 + 2, none⟩ = some (.int .u8 c3)) (hc4 : w.cell? ⟨g, at_ + 1 + 3, none⟩ = some (.int .u8 c4))
    (blc1 : 0 ≤ c1) (buc1 : c1 ≤ 255) (blc2 : 0 ≤ c2) (buc2 : c2 ≤ 255) (blc3 : 0 ≤ c3) (buc3 : c3 ≤ 255) (blc4 : 0 ≤ c4) (buc4 : c4 ≤ 255) (q0 : 48 ≤ c1) (q1 : c1 ≤ 57) (q2 : (c2 == 13) = false) (q3 : c2 < 48) :
    Calls Try.prog 17 #[.slice (some ⟨g, 0, none⟩) len cap, .int .i64 at_, .int .u8 kind] w fun e w' => e = .returned (.tuple #[.int .i64 (0), .int .i64 (0)]) ∧ ∃ n, w' = w.drewN n := by
  go_enter Try.func17, Try.ntmps17
  go_wp2
  go_quiet (fail)
  go_wp2
  go_ret2
  exact ⟨rfl, _, rfl⟩

set_option maxHeartbeats 400000 in
theorem sh_D2 (g len cap : Nat) (at_ : Nat) (kind c1 c2 c3 c4 : Int) (w : World) (h1 : len ≤ 1048576) (h2 : at_ ≤ 2097152) (h : at_ + 4 < len) (hlc : len ≤ cap)
    (hc0 : w.cell? ⟨g, at_, none⟩ = some (.int .u8 kind)) (hc1 : w.cell? ⟨g, at_ + 1, none⟩ = some (.int .u8 c1)) (hc2 : w.cell? ⟨g, at_ + 1 + 1, none⟩ = some (.int .u8 c2)) (hc3 : w.cell? ⟨g, at_ + 1 + 2, none⟩ = some (.int .u8 c3)) (hc4 : w.cell? ⟨g, at_ + 1 + 3, none⟩ = some (.int .u8 c4))
    (blc1 : 0 ≤ c1) (buc1 : c1 ≤ 255) (blc2 : 0 ≤ c2) (buc2 : c2 ≤ 255) (blc3 : 0 ≤ c3) (buc3 : c3 ≤ 255) (blc4 : 0 ≤ c4) (buc4 : c4 ≤ 255) (q0 : 48 ≤ c1) (q1 : c1 ≤ 57) (q2 : (c2 == 13) = false) (q3 : 57 < c2) :
    Calls Try.prog 17 #[.slice (some ⟨g, 0, none⟩) len cap, .int .i64 at_, .int .u8 kind] w fun e w' => e = .returned (.tuple #[.int .i64 (0), .int .i64 (0)]) ∧ ∃ n, w' = w.drewN n := by
  go_enter Try.func17, Try.ntmps17
  go_wp2
  go_quiet (fail)
  go_wp2
  go_ret2
  exact ⟨rfl, _, rfl⟩

set_option maxHeartbeats 400000 in
theorem sh_E (g len cap : Nat) (at_ : Nat) (kind c1 c2 : Int) (w : World) (h1 : len ≤ 1048576) (h2 : at_ ≤ 2097152) (h : at_ + 4 < len) (hlc : len ≤ cap)
    (hc0 : w.cell? ⟨g, at_, none⟩ = some (.int .u8 kind)) (hc1 : w.cell? ⟨g, at_ + 1, none⟩ = some (.int .u8 c1)) (hc2 : w.cell? ⟨g, at_ + 1 + 1, none⟩ = some (.int .u8 c2)) (hc3 : w.cell? ⟨g, at_ + 1 + 2, none⟩ = some (.int .u8 13)) (hc4 : w.cell? ⟨g, at_ + 1 + 3, none⟩ = some (.int .u8 10))
    (blc1 : 0 ≤ c1) (buc1 : c1 ≤ 255) (blc2 : 0 ≤ c2) (buc2 : c2 ≤ 255) (q0 : 48 ≤ c1) (q1 : c1 ≤ 57) (q2 : (c2 == 13) = false) (q3 : 48 ≤ c2) (q4 : c2 ≤ 57) :
    Calls Try.prog 17 #[.slice (some ⟨g, 0, none⟩) len cap, .int .i64 at_, .int .u8 kind] w fun e w' => e = .returned (.tuple #[.int .i64 (10 * (c1 - 48) + (c2 - 48)), .int .i64 ((at_ : Int) + 5)]) ∧ ∃ n, w' = w.drewN n := by
  go_enter Try.func17, Try.ntmps17
  go_wp2
  go_quiet (fail)
  go_wp2
  go_ret2
  exact ⟨rfl, _, rfl⟩

set_option maxHeartbeats 400000 in
theorem sh_F (g len cap : Nat) (at_ : Nat) (kind c1 c2 c4 : Int) (w : World) (h1 : len ≤ 1048576) (h2 : at_ ≤ 2097152) (h : at_ + 4 < len) (hlc : len ≤ cap)
    (hc0 : w.cell? ⟨g, at_, none⟩ = some (.int .u8 kind)) (hc1 : w.cell? ⟨g, at_ + 1, none⟩ = some (.int .u8 c1)) (hc2 : w.cell? ⟨g, at_ + 1 + 1, none⟩ = some (.int .u8 c2)) (hc3 : w.cell? ⟨g, at_ + 1 + 2, none⟩ = some (.int .u8 13)) (hc4 : w.cell? ⟨g, at_ + 1 + 3, none⟩ = some (.int .u8 c4))
    (blc1 : 0 ≤ c1) (buc1 : c1 ≤ 255) (blc2 : 0 ≤ c2) (buc2 : c2 ≤ 255) (blc4 : 0 ≤ c4) (buc4 : c4 ≤ 255) (q0 : 48 ≤ c1) (q1 : c1 ≤ 57) (q2 : (c2 == 13) = false) (q3 : 48 ≤ c2) (q4 : c2 ≤ 57) (q5 : (c4 == 10) = false) :
    Calls Try.prog 17 #[.slice (some ⟨g, 0, none⟩) len cap, .int .i64 at_, .int .u8 kind] w fun e w' => e = .returned (.tuple #[.int .i64 (0), .int .i64 (0)]) ∧ ∃ n, w' = w.drewN n := by
  go_enter Try.func17, Try.ntmps17
  go_wp2
  go_quiet (fail)
  go_wp2
  go_ret2
  exact ⟨rfl, _, rfl⟩

set_option maxHeartbeats 400000 in
theorem sh_G (g len cap : Nat) (at_ : Nat) (kind c1 c2 c3 c4 : Int) (w : World) (h1 : len ≤ 1048576) (h2 : at_ ≤ 2097152) (h : at_ + 4 < len) (hlc : len ≤ cap)
    (hc0 : w.cell? ⟨g, at_, none⟩ = some (.int .u8 kind)) (hc1 : w.cell? ⟨g, at_ + 1, none⟩ = some (.int .u8 c1)) (hc2 : w.cell? ⟨g, at_ + 1 + 1, none⟩ = some (.int .u8 c2)) (hc3 : w.cell? ⟨g, at_ + 1 + 2, none⟩ = some (.int .u8 c3)) (hc4 : w.cell? ⟨g, at_ + 1 + 3, none⟩ = some (.int .u8 c4))
    (blc1 : 0 ≤ c1) (buc1 : c1 ≤ 255) (blc2 : 0 ≤ c2) (buc2 : c2 ≤ 255) (blc3 : 0 ≤ c3) (buc3 : c3 ≤ 255) (blc4 : 0 ≤ c4) (buc4 : c4 ≤ 255) (q0 : 48 ≤ c1) (q1 : c1 ≤ 57) (q2 : (c2 == 13) = false) (q3 : 48 ≤ c2) (q4 : c2 ≤ 57) (q5 : (c3 == 13) = false) :
    Calls Try.prog 17 #[.slice (some ⟨g, 0, none⟩) len cap, .int .i64 at_, .int .u8 kind] w fun e w' => e = .returned (.tuple #[.int .i64 (0), .int .i64 (0)]) ∧ ∃ n, w' = w.drewN n := by
  go_enter Try.func17, Try.ntmps17
  go_wp2
  go_quiet (fail)
  go_wp2
  go_ret2
  exact ⟨rfl, _, rfl⟩

end Go.Proofs.Qxb6600336a
