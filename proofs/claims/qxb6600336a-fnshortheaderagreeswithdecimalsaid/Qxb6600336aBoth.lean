/- The model and shortHeader answer alike. -/
import Derived.Test.Qxb6600336aModel
import Derived.Test.Qxb6600336aShortB
namespace Go.Proofs.Qxb6600336a
open Go.RowKit
set_option linter.unusedVariables false

/-- What both answer, of the four bytes behind the kind's. -/
def shOut (c1 c2 c3 c4 a : Int) : Int × Int :=
  if 48 ≤ c1 ∧ c1 ≤ 57 then
    (if c2 = 13 then (if c3 = 10 then (c1 - 48, a + 4) else (0, 0))
     else if 48 ≤ c2 ∧ c2 ≤ 57 then (if c3 = 13 ∧ c4 = 10 then (10 * (c1 - 48) + (c2 - 48), a + 5) else (0, 0)) else (0, 0))
  else (0, 0)

theorem drew0 {P : Program} {f : FuncId} {args : Array Value} {w : World} {v : Ending} (h : Calls P f args w fun e w' => e = v ∧ w' = w) : Calls P f args w fun e w' => e = v ∧ ∃ n, w' = w.drewN n :=
  h.mono fun e w' ⟨h1, h2⟩ => ⟨h1, 0, by rw [h2]; rfl⟩

theorem ne_f {a b : Int} (h : ¬ a = b) : (a == b) = false := by simpa using h
theorem ne_t {a b : Int} (h : ¬ a = b) : (a != b) = true := by simpa using h

section
variable (g len cap at_ : Nat) (kind c1 c2 c3 c4 : Int) (w : World)

theorem sh_any (h1 : len ≤ 1048576) (h2 : at_ ≤ 2097152) (h : at_ + 4 < len) (hlc : len ≤ cap)
    (hc0 : w.cell? ⟨g, at_, none⟩ = some (.int .u8 kind)) (hc1 : w.cell? ⟨g, at_ + 1, none⟩ = some (.int .u8 c1)) (hc2 : w.cell? ⟨g, at_ + 2, none⟩ = some (.int .u8 c2)) (hc3 : w.cell? ⟨g, at_ + 3, none⟩ = some (.int .u8 c3)) (hc4 : w.cell? ⟨g, at_ + 4, none⟩ = some (.int .u8 c4))
    (a1 : 0 ≤ c1) (b1 : c1 ≤ 255) (a2 : 0 ≤ c2) (b2 : c2 ≤ 255) (a3 : 0 ≤ c3) (b3 : c3 ≤ 255) (a4 : 0 ≤ c4) (b4 : c4 ≤ 255) :
    Calls Try.prog 17 #[.slice (some ⟨g, 0, none⟩) len cap, .int .i64 at_, .int .u8 kind] w fun e w' => e = .returned (.tuple #[.int .i64 (shOut c1 c2 c3 c4 at_).1, .int .i64 (shOut c1 c2 c3 c4 at_).2]) ∧ ∃ n, w' = w.drewN n := by
  by_cases e1 : 57 < c1
  · rw [show shOut c1 c2 c3 c4 at_ = (0, 0) from if_neg (by omega)]
    exact sh_A1 g len cap at_ kind c1 c2 c3 c4 w h1 h2 h hlc hc0 hc1 hc2 hc3 hc4 a1 b1 a2 b2 a3 b3 a4 b4 e1
  by_cases e2 : c1 < 48
  · rw [show shOut c1 c2 c3 c4 at_ = (0, 0) from if_neg (by omega)]
    exact sh_A2 g len cap at_ kind c1 c2 c3 c4 w h1 h2 h hlc hc0 hc1 hc2 hc3 hc4 a1 b1 a2 b2 a3 b3 a4 b4 e2
  have e1' : c1 ≤ 57 := by omega
  have e2' : 48 ≤ c1 := by omega
  by_cases e3 : c2 = 13
  · subst e3
    by_cases e4 : c3 = 10
    · subst e4
      rw [show shOut c1 13 10 c4 at_ = (c1 - 48, (at_ : Int) + 4) from by simp [shOut, e1', e2']]
      exact sh_B g len cap at_ kind c1 c4 w h1 h2 h hlc hc0 hc1 hc2 hc3 hc4 a1 b1 a4 b4 e2' e1'
    · rw [show shOut c1 13 c3 c4 at_ = (0, 0) from by simp [shOut, e4]]
      exact sh_C g len cap at_ kind c1 c3 c4 w h1 h2 h hlc hc0 hc1 hc2 hc3 hc4 a1 b1 a3 b3 a4 b4 e2' e1' (ne_f e4)
  by_cases e5 : c2 < 48
  · rw [show shOut c1 c2 c3 c4 at_ = (0, 0) from by simp only [shOut]; rw [if_neg e3, if_neg (show ¬ (48 ≤ c2 ∧ c2 ≤ 57) by omega)]; simp]
    exact sh_D1 g len cap at_ kind c1 c2 c3 c4 w h1 h2 h hlc hc0 hc1 hc2 hc3 hc4 a1 b1 a2 b2 a3 b3 a4 b4 e2' e1' (ne_f e3) e5
  by_cases e6 : 57 < c2
  · rw [show shOut c1 c2 c3 c4 at_ = (0, 0) from by simp only [shOut]; rw [if_neg e3, if_neg (show ¬ (48 ≤ c2 ∧ c2 ≤ 57) by omega)]; simp]
    exact sh_D2 g len cap at_ kind c1 c2 c3 c4 w h1 h2 h hlc hc0 hc1 hc2 hc3 hc4 a1 b1 a2 b2 a3 b3 a4 b4 e2' e1' (ne_f e3) e6
  have e5' : 48 ≤ c2 := by omega
  have e6' : c2 ≤ 57 := by omega
  by_cases e7 : c3 = 13
  · subst e7
    by_cases e8 : c4 = 10
    · subst e8
      rw [show shOut c1 c2 13 10 at_ = (10 * (c1 - 48) + (c2 - 48), (at_ : Int) + 5) from by simp [shOut, e1', e2', e3, e5', e6']]
      exact sh_E g len cap at_ kind c1 c2 w h1 h2 h hlc hc0 hc1 hc2 hc3 hc4 a1 b1 a2 b2 e2' e1' (ne_f e3) e5' e6'
    · rw [show shOut c1 c2 13 c4 at_ = (0, 0) from by simp [shOut, e8]]
      exact sh_F g len cap at_ kind c1 c2 c4 w h1 h2 h hlc hc0 hc1 hc2 hc3 hc4 a1 b1 a2 b2 a4 b4 e2' e1' (ne_f e3) e5' e6' (ne_f e8)
  · rw [show shOut c1 c2 c3 c4 at_ = (0, 0) from by simp [shOut, e3, e7]]
    exact sh_G g len cap at_ kind c1 c2 c3 c4 w h1 h2 h hlc hc0 hc1 hc2 hc3 hc4 a1 b1 a2 b2 a3 b3 a4 b4 e2' e1' (ne_f e3) e5' e6' (ne_f e7)

theorem md_any (h1 : len ≤ 1048576) (h2 : at_ ≤ 2097152) (h : at_ + 4 < len) (hlc : len ≤ cap)
    (hc0 : w.cell? ⟨g, at_, none⟩ = some (.int .u8 kind)) (hc1 : w.cell? ⟨g, at_ + 1, none⟩ = some (.int .u8 c1)) (hc2 : w.cell? ⟨g, at_ + 2, none⟩ = some (.int .u8 c2)) (hc3 : w.cell? ⟨g, at_ + 3, none⟩ = some (.int .u8 c3)) (hc4 : w.cell? ⟨g, at_ + 4, none⟩ = some (.int .u8 c4))
    (a1 : 0 ≤ c1) (b1 : c1 ≤ 255) (a2 : 0 ≤ c2) (b2 : c2 ≤ 255) (a3 : 0 ≤ c3) (b3 : c3 ≤ 255) (a4 : 0 ≤ c4) (b4 : c4 ≤ 255) :
    Calls Try.prog 16 #[.slice (some ⟨g, 0, none⟩) len cap, .int .i64 at_, .int .u8 kind] w fun e w' => e = .returned (.tuple #[.int .i64 (shOut c1 c2 c3 c4 at_).1, .int .i64 (shOut c1 c2 c3 c4 at_).2]) ∧ w' = w := by
  by_cases e1 : c1 = 13
  · subst e1
    rw [show shOut 13 c2 c3 c4 at_ = (0, 0) from by simp [shOut]]
    by_cases e2 : c2 = 10
    · subst e2
      exact md_M1b g len cap at_ kind c3 c4 w h1 h2 h hlc hc0 hc1 hc2 hc3 hc4 a3 b3 a4 b4
    · exact md_M1a g len cap at_ kind c2 c3 c4 w h1 h2 h hlc hc0 hc1 hc2 hc3 hc4 a2 b2 a3 b3 a4 b4 (ne_t e2)
  by_cases e2 : c2 = 13
  · subst e2
    by_cases e3 : c3 = 10
    · subst e3
      by_cases e4 : 48 ≤ c1 ∧ c1 ≤ 57
      · rw [show shOut c1 13 10 c4 at_ = (c1 - 48, (at_ : Int) + 4) from by simp [shOut, e4]]
        exact md_M2b g len cap at_ kind c1 c4 w h1 h2 h hlc hc0 hc1 hc2 hc3 hc4 a1 b1 a4 b4 (ne_f e1) e4.1 e4.2
      · rw [show shOut c1 13 10 c4 at_ = (0, 0) from if_neg e4]
        exact md_M2c g len cap at_ kind c1 c4 w h1 h2 h hlc hc0 hc1 hc2 hc3 hc4 a1 b1 a4 b4 (ne_f e1) (by omega)
    · rw [show shOut c1 13 c3 c4 at_ = (0, 0) from by simp [shOut, e3]]
      exact md_M2a g len cap at_ kind c1 c3 c4 w h1 h2 h hlc hc0 hc1 hc2 hc3 hc4 a1 b1 a3 b3 a4 b4 (ne_f e1) (ne_t e3)
  by_cases e3 : c3 = 13
  · subst e3
    by_cases e4 : c4 = 10
    · subst e4
      by_cases e5 : 48 ≤ c1 ∧ c1 ≤ 57
      · by_cases e6 : 48 ≤ c2 ∧ c2 ≤ 57
        · rw [show shOut c1 c2 13 10 at_ = (10 * (c1 - 48) + (c2 - 48), (at_ : Int) + 5) from by simp [shOut, e5, e6, e2]]
          exact md_M3b g len cap at_ kind c1 c2 w h1 h2 h hlc hc0 hc1 hc2 hc3 hc4 a1 b1 a2 b2 (ne_f e1) (ne_f e2) e5.1 e5.2 e6.1 e6.2
        · rw [show shOut c1 c2 13 10 at_ = (0, 0) from by simp only [shOut]; rw [if_neg e2, if_neg e6]; simp]
          exact md_M3c g len cap at_ kind c1 c2 w h1 h2 h hlc hc0 hc1 hc2 hc3 hc4 a1 b1 a2 b2 (ne_f e1) (ne_f e2) (by omega)
      · rw [show shOut c1 c2 13 10 at_ = (0, 0) from if_neg e5]
        exact md_M3c g len cap at_ kind c1 c2 w h1 h2 h hlc hc0 hc1 hc2 hc3 hc4 a1 b1 a2 b2 (ne_f e1) (ne_f e2) (by omega)
    · rw [show shOut c1 c2 13 c4 at_ = (0, 0) from by simp [shOut, e2, e4]]
      exact md_M3a g len cap at_ kind c1 c2 c4 w h1 h2 h hlc hc0 hc1 hc2 hc3 hc4 a1 b1 a2 b2 a4 b4 (ne_f e1) (ne_f e2) (ne_t e4)
  · rw [show shOut c1 c2 c3 c4 at_ = (0, 0) from by simp [shOut, e2, e3]]
    exact md_M4 g len cap at_ kind c1 c2 c3 c4 w h1 h2 h hlc hc0 hc1 hc2 hc3 hc4 a1 b1 a2 b2 a3 b3 a4 b4 (ne_f e1) (ne_f e2) (ne_f e3)
end
end Go.Proofs.Qxb6600336a
