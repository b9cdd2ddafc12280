/- stateScriptFits by a contract. -/
import Derived.Test.Qxb6600375aProg
import Derived.WalkKit
import Derived.WalkSpells
import Derived.WalkLawsBesides
import Derived.Below
import Derived.BigQuiet
namespace Go.Proofs.Qxb6600375a
open Go.RowKit
set_option linter.unusedVariables false

/-- What the script's geometry must be. -/
def GeoOk (ps rs rn : Int) : Prop := 0 ≤ ps ∧ ps ≤ 6 ∧ 0 ≤ rs ∧ rs ≤ ps + 6 ∧ 1 ≤ rn ∧ rn ≤ 65536
/-- Each state of the script lies within the premise. -/
def StateOk (rs : Nat) (rn r p : Int) : Prop := 0 ≤ r ∧ r ≤ 65536 ∧ 0 ≤ p ∧ p / 2 ^ rs < rn

theorem fits_bad (a0 a1 : Option Addr) (len0 cap0 len1 cap1 : Nat) (ps rs rn : Int) (w : World) (hl0 : len0 ≤ 131072) (hl1 : len1 ≤ 131072) (h : ¬ GeoOk ps rs rn) (b1 : -9223372036854775808 ≤ ps) (b2 : ps ≤ 9223372036854775807) :
    Calls Try.prog 6 #[.slice a0 len0 cap0, .slice a1 len1 cap1, .int .i64 ps, .int .i64 rs, .int .i64 rn] w fun e w' => e = .returned (.tuple #[.int .i64 0, .bool false]) ∧ w' = w := by
  unfold GeoOk at h
  by_cases h1 : ps < 0
  · go_enter Try.func6, Try.ntmps6
    go_wp2
    go_ret2
    exact ⟨rfl, rfl⟩
  by_cases h2 : 6 < ps
  · go_enter Try.func6, Try.ntmps6
    go_wp2
    go_ret2
    exact ⟨rfl, rfl⟩
  by_cases h3 : rs < 0
  · clear h
    go_enter Try.func6, Try.ntmps6
    go_wp2
    go_ret2
    exact ⟨rfl, rfl⟩
  by_cases h4 : ps + 6 < rs
  · clear h
    go_enter Try.func6, Try.ntmps6
    go_wp2
    go_ret2
    exact ⟨rfl, rfl⟩
  by_cases h5 : rn < 1
  · clear h
    go_enter Try.func6, Try.ntmps6
    go_wp2
    go_ret2
    exact ⟨rfl, rfl⟩
  have h6 : 65536 < rn := by omega
  clear h
  go_enter Try.func6, Try.ntmps6
  go_wp2
  go_ret2
  exact ⟨rfl, rfl⟩

set_option maxHeartbeats 400000 in
theorem fits_zero (a0 a1 : Option Addr) (len0 cap0 len1 cap1 : Nat) (ps rs rn : Int) (w : World) (hl0 : len0 ≤ 131072) (hl1 : len1 ≤ 131072) (h : GeoOk ps rs rn) (hz : len0 = 0 ∨ len1 = 0) :
    Calls Try.prog 6 #[.slice a0 len0 cap0, .slice a1 len1 cap1, .int .i64 ps, .int .i64 rs, .int .i64 rn] w fun e w' => e = .returned (.tuple #[.int .i64 0, .bool true]) ∧ w' = w := by
  obtain ⟨h1, h2, h3, h4, h5, h6⟩ := h
  by_cases h0 : len0 = 0
  · subst h0
    clear hz
    go_enter Try.func6, Try.ntmps6
    go_wp2
    refine wp_loop_rounds 1 ?_
    rw [rounds_succ]
    go_wp2
    go_ret2
    exact ⟨rfl, rfl⟩
  · obtain rfl : len1 = 0 := by omega
    have hlt : (0 : Int) < (len0 : Int) := by omega
    clear hz
    go_enter Try.func6, Try.ntmps6
    go_wp2
    refine wp_loop_rounds 1 ?_
    rw [rounds_succ]
    go_wp2
    go_ret2
    exact ⟨rfl, rfl⟩

theorem hideIt {p : Prop} (h : p) : Hid p := h

/-- The answer where there is a state. -/
def FitPost (n rs : Nat) (rn : Int) (r p : Nat → Int) (e : Ending) : Prop :=
  e = .returned (.tuple #[.int .i64 0, .bool false]) ∨ (n ≤ 8192 ∧ (∀ j, j < n → StateOk rs rn (r j) (p j)) ∧ e = .returned (.tuple #[.int .i64 n, .bool true]))

set_option maxHeartbeats 1000000 in
theorem fits_pos (b0 o0 b1 o1 : Nat) (len0 cap0 len1 cap1 : Nat) (ps rs : Nat) (rn : Int) (r p : Nat → Int) (w : World) (hl0 : len0 ≤ 131072) (hl1 : len1 ≤ 131072) (h : GeoOk ps rs rn)
    (hr : ∀ i, i < len0 → w.cell? ⟨b0, o0 + i, none⟩ = some (.int .i64 (r i))) (hp : ∀ i, i < len1 → w.cell? ⟨b1, o1 + i, none⟩ = some (.int .i64 (p i))) (n : Nat) (hn : n = min len0 len1) :
    Calls Try.prog 6 #[.slice (some ⟨b0, o0, none⟩) len0 cap0, .slice (some ⟨b1, o1, none⟩) len1 cap1, .int .i64 ps, .int .i64 rs, .int .i64 rn] w fun e w' => FitPost n rs rn r p e ∧ w' = w := by
  obtain ⟨h1, h2, h3, h4, h5, h6⟩ := h
  by_cases hlt : (len1 : Int) < (len0 : Int)
  · have hn1 : n = len1 := by omega
    subst hn1
    clear hn
    by_cases hbig : 8192 < n
    · clear hr hp
      go_enter Try.func6, Try.ntmps6
      go_wp2
      go_ret2
      exact ⟨Or.inl rfl, rfl⟩
    · go_enter Try.func6, Try.ntmps6
      go_wp2
      · go_ret2
        exact ⟨Or.inl rfl, rfl⟩
      · go_loop [13] (fun i => ∃ k : Nat, k ≤ n ∧ i = .int .i64 k ∧ ∀ j, j < k → StateOk rs rn (r j) (p j)) (fun i => n - (intOf i).toNat)
        case atStart => exact ⟨0, Nat.zero_le _, rfl, fun j hj => by omega⟩
        case round =>
          obtain ⟨k, hk, rfl, hall⟩ := hrel
          have HALL := hideIt hall
          clear hall
          by_cases hkn : k < n
          · have c1 := hr k (by omega)
            have c2 := hp k (by omega)
            by_cases t1 : r k < 0
            · clear hr hp
              go_wp2
              go_ret2
              exact ⟨Or.inl rfl, rfl⟩
            by_cases t2 : 65536 < r k
            · clear hr hp
              go_wp2
              go_ret2
              exact ⟨Or.inl rfl, rfl⟩
            by_cases t3 : p k < 0
            · clear hr hp
              go_wp2
              go_ret2
              exact ⟨Or.inl rfl, rfl⟩
            by_cases t4 : rn ≤ p k / 2 ^ rs
            · clear hr hp
              go_wp2
              go_ret2
              exact ⟨Or.inl rfl, rfl⟩
            clear hr hp
            go_wp2
            go_round
            case rel =>
              refine ⟨k + 1, by omega, by go_num, fun j hj => ?_⟩
              by_cases hj2 : j < k
              · exact HALL.out j hj2
              · obtain rfl : j = k := by omega
                exact ⟨by omega, by omega, by omega, by omega⟩
            case measure => simp [intOf]; omega
          · clear hr hp
            go_wp2
            go_ret2
            have hkn2 : k = n := by omega
            subst hkn2
            exact ⟨Or.inr ⟨by omega, HALL.out, rfl⟩, rfl⟩
  · have hn1 : n = len0 := by omega
    subst hn1
    clear hn
    by_cases hbig : 8192 < n
    · clear hr hp
      go_enter Try.func6, Try.ntmps6
      go_wp2
      go_ret2
      exact ⟨Or.inl rfl, rfl⟩
    · go_enter Try.func6, Try.ntmps6
      go_wp2
      · go_ret2
        exact ⟨Or.inl rfl, rfl⟩
      · go_loop [13] (fun i => ∃ k : Nat, k ≤ n ∧ i = .int .i64 k ∧ ∀ j, j < k → StateOk rs rn (r j) (p j)) (fun i => n - (intOf i).toNat)
        case atStart => exact ⟨0, Nat.zero_le _, rfl, fun j hj => by omega⟩
        case round =>
          obtain ⟨k, hk, rfl, hall⟩ := hrel
          have HALL := hideIt hall
          clear hall
          by_cases hkn : k < n
          · have c1 := hr k (by omega)
            have c2 := hp k (by omega)
            by_cases t1 : r k < 0
            · clear hr hp
              go_wp2
              go_ret2
              exact ⟨Or.inl rfl, rfl⟩
            by_cases t2 : 65536 < r k
            · clear hr hp
              go_wp2
              go_ret2
              exact ⟨Or.inl rfl, rfl⟩
            by_cases t3 : p k < 0
            · clear hr hp
              go_wp2
              go_ret2
              exact ⟨Or.inl rfl, rfl⟩
            by_cases t4 : rn ≤ p k / 2 ^ rs
            · clear hr hp
              go_wp2
              go_ret2
              exact ⟨Or.inl rfl, rfl⟩
            clear hr hp
            go_wp2
            go_round
            case rel =>
              refine ⟨k + 1, by omega, by go_num, fun j hj => ?_⟩
              by_cases hj2 : j < k
              · exact HALL.out j hj2
              · obtain rfl : j = k := by omega
                exact ⟨by omega, by omega, by omega, by omega⟩
            case measure => simp [intOf]; omega
          · clear hr hp
            go_wp2
            go_ret2
            have hkn2 : k = n := by omega
            subst hkn2
            exact ⟨Or.inr ⟨by omega, HALL.out, rfl⟩, rfl⟩
end Go.Proofs.Qxb6600375a
