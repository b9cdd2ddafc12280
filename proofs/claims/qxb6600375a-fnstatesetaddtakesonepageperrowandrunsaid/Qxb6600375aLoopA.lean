/- The law FnStateSetAddReportsNewStatesExactly, where the script has a state. -/
import Derived.Test.Qxb6600375aAdd
import Derived.Test.Qxb6600375aFits
import Derived.Deep.CutBlock
import Derived.Deep.DeepCutAuto
import Derived.Deep.RegionWith
namespace Go.Proofs.Qxb6600375a
open Go.RowKit
set_option linter.unusedVariables false

/-- The states of the script's first k. -/
def seenOf (r p : Nat → Nat) (k : Nat) : Nat → Nat → Prop := fun a b => ∃ j, j < k ∧ r j = a ∧ p j = b

/-- What the set holds behind the script's first k states. -/
def Behind (B S ps rs rn : Nat) (r p : Nat → Nat) (k : Nat) (w wr : World) : Prop :=
  ∃ P W m pv wv PV, Holds wr B S ps rs rn P W pv wv PV ∧ Good ps rs rn P W m (seenOf r p k) ∧ Below B w wr ∧ m ≤ k ∧ P.length ≤ 65537

theorem none_succ {Q : Nat → Prop} {j : Nat} (h : ∀ i, i < j → ¬ Q i) (hj : ¬ Q j) : ∀ i, i < j + 1 → ¬ Q i := by
  intro i hi
  by_cases e : i < j
  · exact h i e
  · have e2 : i = j := by omega
    subst e2; exact hj

theorem good_ext {ps rs rn : Nat} {P : List (List Nat)} {W : List Nat} {m : Nat} {Sn Sn' : Nat → Nat → Prop} (h : Good ps rs rn P W m Sn) (e : ∀ a b, Sn a b ↔ Sn' a b) : Good ps rs rn P W m Sn' := by
  have : Sn = Sn' := funext fun a => funext fun b => propext (e a b)
  exact this ▸ h

theorem behind_succ {B S ps rs rn : Nat} {r p : Nat → Nat} {k m : Nat} {P : List (List Nat)} {w x w2 : World} {b : Bool} (hpost : AddPost B S ps rs rn P m (seenOf r p k) (r k) (p k) x b w2) (hb : Below B w x) (hm : m ≤ k) (hPl : P.length ≤ 65537) (hr : r k ≤ 65536) :
    Behind B S ps rs rn r p (k + 1) w w2 := by
  obtain ⟨_, P', W', m', pv', wv', PV', hh, hg, hbel, hlen, hmm⟩ := hpost
  refine ⟨P', W', m', pv', wv', PV', hh, good_ext hg ?_, hb.trans hbel, by omega, by omega⟩
  intro a c
  constructor
  · rintro (⟨j, h1, h2, h3⟩ | ⟨rfl, rfl⟩)
    · exact ⟨j, by omega, h2, h3⟩
    · exact ⟨k, by omega, rfl, rfl⟩
  · rintro ⟨j, h1, h2, h3⟩
    by_cases e : j < k
    · exact Or.inl ⟨j, e, h2, h3⟩
    · have e2 : j = k := by omega
      subst e2
      exact Or.inr ⟨h2.symm, h3.symm⟩

/-- A script that fits, in natural numbers. -/
theorem script_nat {w : World} {b0 o0 b1 o1 n rs rn : Nat} {zr zp : Nat → Int} (hr : ∀ i, i < n → w.cell? ⟨b0, o0 + i, none⟩ = some (.int .i64 (zr i))) (hp : ∀ i, i < n → w.cell? ⟨b1, o1 + i, none⟩ = some (.int .i64 (zp i))) (hall : ∀ j, j < n → StateOk rs rn (zr j) (zp j)) :
    ∃ r p : Nat → Nat, Hid (∀ i, i < n → w.cell? ⟨b0, o0 + i, none⟩ = some (.int .i64 (r i : Int))) ∧ Hid (∀ i, i < n → w.cell? ⟨b1, o1 + i, none⟩ = some (.int .i64 (p i : Int))) ∧ Hid (∀ i, i < n → r i ≤ 65536) ∧ Hid (∀ i, i < n → p i / 2 ^ rs < rn) := by
  refine ⟨fun i => (zr i).toNat, fun i => (zp i).toNat, ?_, ?_, ?_, ?_⟩
  · intro i hi
    obtain ⟨h1, h2, h3, h4⟩ := hall i hi
    rw [hr i hi, Int.toNat_of_nonneg h1]
  · intro i hi
    obtain ⟨h1, h2, h3, h4⟩ := hall i hi
    rw [hp i hi, Int.toNat_of_nonneg h3]
  · intro i hi
    obtain ⟨h1, h2, h3, h4⟩ := hall i hi
    show (zr i).toNat ≤ 65536
    omega
  · intro i hi
    obtain ⟨h1, h2, h3, h4⟩ := hall i hi
    show (zp i).toNat / 2 ^ rs < rn
    have e : zp i = (((zp i).toNat : Nat) : Int) := (Int.toNat_of_nonneg h3).symm
    rw [e, pos_run] at h4
    exact Int.ofNat_lt.1 h4

set_option maxRecDepth 100000 in
set_option maxHeartbeats 1000000 in
theorem lawA_pos (b0 o0 b1 o1 len0 cap0 len1 cap1 ps rs rn n : Nat) (zr zp : Nat → Int) (w : World) (hl0 : len0 ≤ 131072) (hl1 : len1 ≤ 131072) (hn0 : n ≤ len0) (hn1 : n ≤ len1)
    (hb0 : b0 < w.heap.size) (hb1 : b1 < w.heap.size)
    (hr : ∀ i, i < n → w.cell? ⟨b0, o0 + i, none⟩ = some (.int .i64 (zr i))) (hp : ∀ i, i < n → w.cell? ⟨b1, o1 + i, none⟩ = some (.int .i64 (zp i)))
    (hfit : Calls Try.prog 6 #[.slice (some ⟨b0, o0, none⟩) len0 cap0, .slice (some ⟨b1, o1, none⟩) len1 cap1, .int .i64 ps, .int .i64 rs, .int .i64 rn] w fun e w' => FitPost n rs rn zr zp e ∧ w' = w)
    (hps : ps ≤ 6) (hrs : rs ≤ ps + 6) (hrn : 1 ≤ rn) (hrn2 : rn ≤ 65536) (hsum : 8 * (len0 : Int) + 8 * (len1 : Int) ≤ 1048576) :
    Calls Try.prog 3 #[.slice (some ⟨b0, o0, none⟩) len0 cap0, .slice (some ⟨b1, o1, none⟩) len1 cap1, .int .i64 ps, .int .i64 rs, .int .i64 rn] w fun e w' => e = .returned (.bool true) ∧ Below w.heap.size w w' := by
  have HR0 := hideIt hr
  have HP0 := hideIt hp
  clear hr hp
  go_enter Try.func3, Try.ntmps3
  go_wp2_with (first | (go_at_call 5; go_in))
  refine hfit.mono ?_
  clear hfit
  rintro e w ⟨hpost, rfl⟩
  rcases hpost with rfl | ⟨hn, hall, rfl⟩
  · go_wp2_with fail
    go_ret
    exact ⟨rfl, Below.refl _ _⟩
  obtain ⟨r, p, HR, HP, HRB, HPB⟩ := script_nat HR0.out HP0.out hall
  clear HR0 HP0 hall
  go_wp2_with fail
  refine (new_calls _ _ _ _).mono ?_
  rintro e w0 ⟨rfl, rfl⟩
  go_wp2_with fail
  have hS : Behind w.heap.size w.heap.size ps rs rn r p 0 w (w.alloc (.cells #[.slice none 0 0, .slice none 0 0, .int .i64 ps, .int .i64 rs, .int .i64 rn] 34)) :=
    ⟨[], [], 0, _, _, _, new_holds ps rs rn w, good_ext (good_nil ps rs rn) (by intro a b; simp [seenOf]), (Below.refl _ _).alloc (Nat.le_refl _) _, Nat.le_refl _, by simp⟩
  obtain ⟨w1, hw1⟩ : ∃ w1, w1 = w.alloc (.cells #[.slice none 0 0, .slice none 0 0, .int .i64 ps, .int .i64 rs, .int .i64 rn] 34) := ⟨_, rfl⟩
  rw [← hw1] at hS ⊢
  clear hw1
  go_loopw [14] (fun i wr => ∃ k : Nat, k ≤ n ∧ i = .int .i64 k ∧ Behind w.heap.size w.heap.size ps rs rn r p k w wr) (fun i _ => n - (intOf i).toNat)
  case atStart => exact ⟨0, Nat.zero_le _, rfl, hS⟩
  case round =>
    clear hS
    obtain ⟨k, hk, rfl, hbeh⟩ := hrel
    by_cases hkn : k < n
    · obtain ⟨P, W, m, pv, wv, PV, hh, hg, hb, hm, hPl⟩ := hbeh
      have ck0 : wr.cell? ⟨b0, o0 + k, none⟩ = some (.int .i64 (r k : Int)) := (hb.cell hb0).trans (HR.out k hkn)
      have ck1 : wr.cell? ⟨b1, o1 + k, none⟩ = some (.int .i64 (p k : Int)) := (hb.cell hb1).trans (HP.out k hkn)
      obtain ⟨wo, hwo⟩ : ∃ wo : World, wo = wr := ⟨_, rfl⟩
      subst hwo
      obtain ⟨fr, hfr⟩ : ∃ fr : Bool, (fr = true ↔ ¬ seenOf r p k (r k) (p k)) := by
        by_cases hs : seenOf r p k (r k) (p k)
        · exact ⟨false, by simp [hs]⟩
        · exact ⟨true, by simp [hs]⟩
      have HFR := hideIt hfr
      clear hfr
      have HHH := hideIt hh
      have HG := hideIt hg
      clear hh hg
      go_upto_block 2 with fail
      go_cut [15, 16] (fun f j wx => f = .bool fr ∧ ∃ d, wx = wo.drewN d)
      case first =>
        go_wp2_with fail
        go_loopw [15, 16] (fun f j wx => ∃ jn d : Nat, jn ≤ k ∧ j = .int .i64 jn ∧ f = .bool true ∧ (∀ i, i < jn → ¬ (r i = r k ∧ p i = p k)) ∧ wx = wo.drewN d) (fun _ j _ => k - (intOf j).toNat)
        case atStart => exact ⟨0, 0, Nat.zero_le _, rfl, rfl, fun i hi => by omega, rfl⟩
        case round =>
          obtain ⟨jn, d, hjk, rfl, rfl, hno, rfl⟩ := hrel
          have HNO := hideIt hno
          clear hno
          by_cases hjlt : jn < k
          · have cj0 : wo.cell? ⟨b0, o0 + jn, none⟩ = some (.int .i64 (r jn : Int)) := (hb.cell hb0).trans (HR.out jn (by omega))
            have cj1 : wo.cell? ⟨b1, o1 + jn, none⟩ = some (.int .i64 (p jn : Int)) := (hb.cell hb1).trans (HP.out jn (by omega))
            by_cases e1 : r jn = r k
            · have e1b : (((r jn : Nat) : Int) == ((r k : Nat) : Int)) = true := by simp [e1]
              by_cases e2 : p jn = p k
              · have e2b : (((p jn : Nat) : Int) == ((p k : Nat) : Int)) = true := by simp [e2]
                have hs : fr = false := by
                  have := HFR.out
                  cases fr
                  · rfl
                  · exact absurd ⟨jn, hjlt, e1, e2⟩ (this.1 rfl)
                have HS := hideIt hs
                clear e1 e2 hs
                go_wp2_with fail
                go_quiet (fail)
                go_wp2
                go_meet
                case rel => exact ⟨by rw [HS.out], _, World.drewN_drewN _ _ _⟩
              · have e2b : (((p jn : Nat) : Int) == ((p k : Nat) : Int)) = false := by simp; omega
                have HE := hideIt e2
                clear e1 e2
                go_wp2_with fail
                go_quiet (fail)
                go_wp2
                go_roundw
                case rel => exact ⟨jn + 1, _, by omega, by go_num, rfl, none_succ HNO.out (fun hc => HE.out hc.2), rfl⟩
                case measure => simp [intOf]; omega
            · have e1b : (((r jn : Nat) : Int) == ((r k : Nat) : Int)) = false := by simp; omega
              have HE := hideIt e1
              clear e1
              go_wp2_with fail
              go_quiet (fail)
              go_wp2
              go_roundw
              case rel => exact ⟨jn + 1, _, by omega, by go_num, rfl, none_succ HNO.out (fun hc => HE.out hc.1), rfl⟩
              case measure => simp [intOf]; omega
          · have hs : fr = true := by
              apply HFR.out.2
              rintro ⟨i, hi, h1, h2⟩
              exact HNO.out i (by omega) ⟨h1, h2⟩
            have HS := hideIt hs
            clear hs
            go_wp2_with fail
            go_meet
            case rel => exact ⟨by rw [HS.out], _, rfl⟩
      case rest =>
        obtain ⟨rfl, d, rfl⟩ := hcut
        go_wp2_with fail
        have A : Hid (∀ x : World, x.heap = wo.heap → Calls Try.prog 8 #[.pointer (some ⟨w.heap.size, 0, none⟩), .int .i64 (r k : Int), .int .i64 (p k : Int)] x fun e w' => e = .returned (.bool fr) ∧ AddPost w.heap.size w.heap.size ps rs rn P m (seenOf r p k) (r k) (p k) x fr w') := by
          intro x hx
          refine (zzadd_any w.heap.size w.heap.size ps rs rn P W m (seenOf r p k) (r k) (p k) x pv wv PV (HHH.out.heap hx) HG.out hps hrs hrn hrn2 hPl (HRB.out k hkn) (HPB.out k hkn) (by omega)).mono ?_
          rintro e w' ⟨b, rfl, hpost⟩
          have hbf : b = fr := by
            have h1 := hpost.1
            have h2 := HFR.out
            cases b <;> cases fr <;> simp_all
          subst hbf
          exact ⟨rfl, hpost⟩
        go_region_with (go_at_call 8; refine (A.out _ ?_).mono ?_; exact rfl; rintro e w2 ⟨rfl, hpost⟩)
        all_goals
          have hnext := behind_succ hpost (below_drewN hb _) hm hPl (HRB.out k hkn)
          clear hpost
          go_wp2_with fail
          go_roundw
          case rel => exact ⟨k + 1, by omega, by go_num, hnext⟩
          case measure => simp [intOf]; omega
    · have hkn2 : k = n := by omega
      subst hkn2
      obtain ⟨P, W, m, pv, wv, PV, hh, hg, hb, hm, hPl⟩ := hbeh
      clear hh hg
      go_wp2_with fail
      go_ret
      exact ⟨rfl, hb⟩
end Go.Proofs.Qxb6600375a
