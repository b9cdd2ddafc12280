/- ZZAdd by one contract, for every state. -/
import Derived.Test.Qxb6600375aGrow
import Derived.Test.Qxb6600375aHit
namespace Go.Proofs.Qxb6600375a
open Go.RowKit
set_option linter.unusedVariables false

/-- What an add leaves: the answer b, and the set. -/
def AddPost (B S ps rs rn : Nat) (P : List (List Nat)) (m : Nat) (Sn : Nat → Nat → Prop) (row pos : Nat) (w : World) (b : Bool) (w' : World) : Prop :=
  (b = true ↔ ¬ Sn row pos) ∧ ∃ P' W' m' pv' wv' PV', Holds w' B S ps rs rn P' W' pv' wv' PV' ∧ Good ps rs rn P' W' m' (fun r p => Sn r p ∨ (r = row ∧ p = pos)) ∧ Below B w w' ∧
    P'.length = max P.length (row + 1) ∧ ((m' = m ∧ ∃ p, Sn row p ∧ p / 2 ^ rs = pos / 2 ^ rs) ∨ (m' = m + 1 ∧ ¬ ∃ p, Sn row p ∧ p / 2 ^ rs = pos / 2 ^ rs))

theorem pos_small {pos rs rn : Nat} (hrs : rs ≤ 12) (hrn2 : rn ≤ 65536) (hrun : pos / 2 ^ rs < rn) : pos ≤ 1000000000 := by
  have h1 : 2 ^ rs ≤ 2 ^ 12 := Nat.pow_le_pow_right (by decide) hrs
  have h2 : pos < rn * 2 ^ rs := (Nat.div_lt_iff_lt_mul (Nat.two_pow_pos rs)).1 hrun
  have h3 : rn * 2 ^ rs ≤ 65536 * 2 ^ 12 := Nat.mul_le_mul hrn2 h1
  omega

theorem add_any (B S ps rs rn : Nat) (P : List (List Nat)) (W : List Nat) (m : Nat) (Sn : Nat → Nat → Prop) (row pos : Nat) (w : World) (pv wv : Value) (PV : List Value) (h : Holds w B S ps rs rn P W pv wv PV) (g : Good ps rs rn P W m Sn)
    (hps : ps ≤ 6) (hrs : rs ≤ ps + 6) (hrn : 1 ≤ rn) (hrn2 : rn ≤ 65536) (hP : P.length ≤ 65537) (hr : row ≤ 65536) (hrun : pos / 2 ^ rs < rn) (hm : m ≤ 8191) :
    Calls Try.prog 11 #[.pointer (some ⟨S, 0, none⟩), .int .i64 row, .int .i64 pos] w fun e w' => ∃ b, e = .returned (.bool b) ∧ AddPost B S ps rs rn P m Sn row pos w b w' := by
  have hrs2 : rs ≤ 12 := by omega
  have hpos := pos_small hrs2 hrn2 hrun
  have h2 : 1 ≤ 2 ^ ps ∧ 2 ^ ps ≤ 64 := ⟨Nat.two_pow_pos ps, Nat.le_trans (Nat.pow_le_pow_right (by decide) hps) (show 2 ^ 6 ≤ 64 by decide)⟩
  by_cases hk : pg P row (pos / 2 ^ rs) = 0
  · obtain ⟨g1, g2⟩ := good_miss g hrs row pos hrun hk
    refine (add_miss B S ps rs rn P W row pos w pv wv PV h hps hrs2 hrn hrn2 hP hr hpos hrun hk m (2 ^ ps) (by simp) h2.1 h2.2 g.wlen hm).mono ?_
    rintro e w' ⟨rfl, pv', wv', PV', hh, hb⟩
    refine ⟨true, rfl, ⟨fun _ => g2, fun _ => rfl⟩, _, _, _, pv', wv', PV', hh, g1, hb, length_miss _ _ _ _ _ _, Or.inr ⟨rfl, ?_⟩⟩
    intro hc
    exact (g.page row _).2 hc hk
  · obtain ⟨k, hk1⟩ : ∃ k, pg P row (pos / 2 ^ rs) = k + 1 := ⟨pg P row (pos / 2 ^ rs) - 1, by omega⟩
    have hkm : k < m := by have := g.le row (pos / 2 ^ rs); omega
    obtain ⟨g1, g2⟩ := good_hit g hrs row pos k hk1
    have hi : idx ps k pos < W.length := by rw [g.wlen]; exact idx_bound hkm
    have hWl : W.length ≤ 1000000 := by
      rw [g.wlen]
      have := Nat.mul_le_mul hm h2.2
      omega
    have hx : W[idx ps k pos]? = some (W.getD (idx ps k pos) 0) := by
      rw [List.getD_eq_getElem?_getD, List.getElem?_eq_getElem hi, Option.getD_some]
    refine (add_hit B S ps rs rn P W row pos k _ w pv wv PV h hps hrs2 hrn hrn2 hP hr hpos hrun hk1 (by omega) hWl hx (g.wbits _)).mono ?_
    rintro e w' ⟨rfl, pv', wv', PV', hh, hb⟩
    have hrowP : row < P.length := by
      apply Classical.byContradiction
      intro hc
      apply hk
      unfold pg
      have e : P.getD row [] = [] := by rw [List.getD_eq_getElem?_getD, List.getElem?_eq_none (by omega)]; rfl
      rw [e]; rfl
    exact ⟨_, rfl, g2, _, _, _, pv', wv', PV', hh, g1, hb, by omega, Or.inl ⟨rfl, (g.page row _).1 hk⟩⟩

theorem zzadd_any (B S ps rs rn : Nat) (P : List (List Nat)) (W : List Nat) (m : Nat) (Sn : Nat → Nat → Prop) (row pos : Nat) (w : World) (pv wv : Value) (PV : List Value) (h : Holds w B S ps rs rn P W pv wv PV) (g : Good ps rs rn P W m Sn)
    (hps : ps ≤ 6) (hrs : rs ≤ ps + 6) (hrn : 1 ≤ rn) (hrn2 : rn ≤ 65536) (hP : P.length ≤ 65537) (hr : row ≤ 65536) (hrun : pos / 2 ^ rs < rn) (hm : m ≤ 8191) :
    Calls Try.prog 8 #[.pointer (some ⟨S, 0, none⟩), .int .i64 row, .int .i64 pos] w fun e w' => ∃ b, e = .returned (.bool b) ∧ AddPost B S ps rs rn P m Sn row pos w b w' := by
  have A := add_any B S ps rs rn P W m Sn row pos w pv wv PV h g hps hrs hrn hrn2 hP hr hrun hm
  clear h g
  go_enter Try.func8, Try.ntmps8
  go_wp2_with fail
  refine A.mono ?_
  rintro e w' ⟨b, rfl, hpost⟩
  clear A
  go_wp2_with fail
  go_ret
  exact ⟨b, rfl, hpost⟩
end Go.Proofs.Qxb6600375a
