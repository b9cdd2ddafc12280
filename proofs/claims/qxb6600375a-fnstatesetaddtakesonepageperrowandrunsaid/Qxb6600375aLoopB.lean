/- The law FnStateSetAddTakesOnePagePerRowAndRun, where the script has a state. -/
import Derived.Test.Qxb6600375aLoopA
namespace Go.Proofs.Qxb6600375a
open Go.RowKit
set_option linter.unusedVariables false

/-- What the set holds behind the script's first k states; how many rows it has room for, and how many pages are made, stand in two variables. -/
def Counted (B S ps rs rn : Nat) (r p : Nat → Nat) (k : Nat) (w : World) (mx ds : Value) (wr : World) : Prop :=
  ∃ P W m pv wv PV, Holds wr B S ps rs rn P W pv wv PV ∧ Good ps rs rn P W m (seenOf r p k) ∧ Below B w wr ∧ m ≤ k ∧ P.length ≤ 65537 ∧ mx = .int .i64 ((P.length : Int) - 1) ∧ ds = .int .i64 (m : Int)

theorem words_num {ps m' : Nat} {W' : List Nat} {D : Int} (h : W'.length = m' * 2 ^ ps) (hD : (m' : Int) = D) (hm : m' ≤ 8192) (hps : ps ≤ 6) : ((W'.length : Int) != wrap64 (D * 2 ^ ps)) = false := by
  obtain ⟨h1, h2⟩ := two_pow_le ps hps
  have e : (W'.length : Int) = D * 2 ^ ps := by rw [h, ← hD]; simp
  have hb : D * 2 ^ ps ≤ 8192 * 64 := Int.mul_le_mul (by omega) h2 (by omega) (by omega)
  have h0 : 0 ≤ D * 2 ^ ps := Int.mul_nonneg (by omega) (by omega)
  rw [e]
  generalize D * 2 ^ ps = z at *
  have e2 : wrap64 z = z := by unfold wrap64; omega
  rw [e2]; simp

theorem counted_succ {B S ps rs rn : Nat} {r p : Nat → Nat} {k m' : Nat} {P' : List (List Nat)} {W' : List Nat} {pv' wv' : Value} {PV' : List Value} {w wx : World} {a c : Int} (hh : Holds wx B S ps rs rn P' W' pv' wv' PV') (hg : Good ps rs rn P' W' m' (fun x y => seenOf r p k x y ∨ (x = r k ∧ y = p k)))
    (hb : Below B w wx) (hm : m' ≤ k + 1) (hPl : P'.length ≤ 65537) (ha : a = (P'.length : Int) - 1) (hc : c = (m' : Int)) : Counted B S ps rs rn r p (k + 1) w (.int .i64 a) (.int .i64 c) wx := by
  refine ⟨P', W', m', pv', wv', PV', hh, good_ext hg ?_, hb, hm, hPl, by rw [ha], by rw [hc]⟩
  intro a c
  constructor
  · rintro (⟨j, h1, h2, h3⟩ | ⟨rfl, rfl⟩)
    · exact ⟨j, by omega, h2, h3⟩
    · exact ⟨k, by omega, rfl, rfl⟩
  · rintro ⟨j, h1, h2, h3⟩
    by_cases e : j < k
    · exact Or.inl ⟨j, e, h2, h3⟩
    · have e2 : j = k := by omega
      subst e2
      exact Or.inr ⟨h2.symm, h3.symm⟩

set_option maxRecDepth 100000 in
set_option maxHeartbeats 1000000 in
theorem lawB_pos (b0 o0 b1 o1 len0 cap0 len1 cap1 ps rs rn n : Nat) (zr zp : Nat → Int) (w : World) (hl0 : len0 ≤ 131072) (hl1 : len1 ≤ 131072) (hn0 : n ≤ len0) (hn1 : n ≤ len1)
    (hb0 : b0 < w.heap.size) (hb1 : b1 < w.heap.size)
    (hr : ∀ i, i < n → w.cell? ⟨b0, o0 + i, none⟩ = some (.int .i64 (zr i))) (hp : ∀ i, i < n → w.cell? ⟨b1, o1 + i, none⟩ = some (.int .i64 (zp i)))
    (hfit : Calls Try.prog 6 #[.slice (some ⟨b0, o0, none⟩) len0 cap0, .slice (some ⟨b1, o1, none⟩) len1 cap1, .int .i64 ps, .int .i64 rs, .int .i64 rn] w fun e w' => FitPost n rs rn zr zp e ∧ w' = w)
    (hps : ps ≤ 6) (hrs : rs ≤ ps + 6) (hrn : 1 ≤ rn) (hrn2 : rn ≤ 65536) (hsum : 8 * (len0 : Int) + 8 * (len1 : Int) ≤ 1048576) :
    Calls Try.prog 4 #[.slice (some ⟨b0, o0, none⟩) len0 cap0, .slice (some ⟨b1, o1, none⟩) len1 cap1, .int .i64 ps, .int .i64 rs, .int .i64 rn] w fun e w' => e = .returned (.bool true) ∧ Below w.heap.size w w' := by
  have HR0 := hideIt hr
  have HP0 := hideIt hp
  clear hr hp
  go_enter Try.func4, Try.ntmps4
  go_wp2_with (first | (go_at_call 9; go_in))
  refine hfit.mono ?_
  clear hfit
  rintro e w ⟨hpost, rfl⟩
  rcases hpost with rfl | ⟨hn, hall, rfl⟩
  · go_wp2_with fail
    go_ret
    exact ⟨rfl, Below.refl _ _⟩
  obtain ⟨r, p, HR, HP, HRB, HPB⟩ := script_nat HR0.out HP0.out hall
  clear HR0 HP0 hall
  go_wp2_with fail
  refine (new_calls _ _ _ _).mono ?_
  rintro e w0 ⟨rfl, rfl⟩
  go_wp2_with fail
  have hS : Counted w.heap.size w.heap.size ps rs rn r p 0 w (.int .i64 (-1)) (.int .i64 0) (w.alloc (.cells #[.slice none 0 0, .slice none 0 0, .int .i64 ps, .int .i64 rs, .int .i64 rn] 34)) :=
    ⟨[], [], 0, _, _, _, new_holds ps rs rn w, good_ext (good_nil ps rs rn) (by intro a b; simp [seenOf]), (Below.refl _ _).alloc (Nat.le_refl _) _, Nat.le_refl _, by simp, rfl, rfl⟩
  obtain ⟨w1, hw1⟩ : ∃ w1, w1 = w.alloc (.cells #[.slice none 0 0, .slice none 0 0, .int .i64 ps, .int .i64 rs, .int .i64 rn] 34) := ⟨_, rfl⟩
  rw [← hw1] at hS ⊢
  clear hw1
  go_loopw [14, 15, 16] (fun mx ds i wr => ∃ k : Nat, k ≤ n ∧ i = .int .i64 k ∧ Counted w.heap.size w.heap.size ps rs rn r p k w mx ds wr) (fun _ _ i _ => n - (intOf i).toNat)
  case atStart => exact ⟨0, Nat.zero_le _, rfl, hS⟩
  case round =>
    clear hS
    obtain ⟨k, hk, rfl, P, W, m, pv, wv, PV, hh, hg, hb, hm, hPl, rfl, rfl⟩ := hrel
    by_cases hkn : k < n
    · have ck0 : wr.cell? ⟨b0, o0 + k, none⟩ = some (.int .i64 (r k : Int)) := (hb.cell hb0).trans (HR.out k hkn)
      have ck1 : wr.cell? ⟨b1, o1 + k, none⟩ = some (.int .i64 (p k : Int)) := (hb.cell hb1).trans (HP.out k hkn)
      obtain ⟨wo, hwo⟩ : ∃ wo : World, wo = wr := ⟨_, rfl⟩
      subst hwo
      have A : Hid (∀ x : World, x.heap = wo.heap → Calls Try.prog 8 #[.pointer (some ⟨w.heap.size, 0, none⟩), .int .i64 (r k : Int), .int .i64 (p k : Int)] x fun e w' => ∃ b, e = .returned (.bool b) ∧ AddPost w.heap.size w.heap.size ps rs rn P m (seenOf r p k) (r k) (p k) x b w') := by
        intro x hx
        exact zzadd_any w.heap.size w.heap.size ps rs rn P W m (seenOf r p k) (r k) (p k) x pv wv PV (hh.heap hx) hg hps hrs hrn hrn2 hPl (HRB.out k hkn) (HPB.out k hkn) (by omega)
      clear hh hg
      go_upto_region 14 with fail
      go_cut [] (fun wx => ∃ q b, AddPost w.heap.size w.heap.size ps rs rn P m (seenOf r p k) (r k) (p k) (wo.drewN q) b wx)
      case first =>
        go_region_with (go_at_call 8; refine (A.out _ ?_).mono ?_; exact rfl; rintro e w2 ⟨b, rfl, hpost⟩)
        all_goals
          go_wp2_with fail
          go_meet
          case rel => exact ⟨_, _, hpost⟩
      case rest =>
        obtain ⟨q, b, hpost⟩ := hcut
        obtain ⟨_, P', W', m', pv', wv', PV', hh, hg, hbel, hlen, hmm⟩ := hpost
        have hb2 : Below w.heap.size w wc := (below_drewN hb q).trans hbel
        have HMM := hideIt hmm
        have HH := hideIt hh
        have HG := hideIt hg
        have HL := hideIt hlen
        clear hmm hh hg hlen hbel A hb ck0 ck1
        have ck0 : wc.cell? ⟨b0, o0 + k, none⟩ = some (.int .i64 (r k : Int)) := (hb2.cell hb0).trans (HR.out k hkn)
        have ck1 : wc.cell? ⟨b1, o1 + k, none⟩ = some (.int .i64 (p k : Int)) := (hb2.cell hb1).trans (HP.out k hkn)
        obtain ⟨wo, hwo⟩ : ∃ wo : World, wo = wc := ⟨_, rfl⟩
        subst hwo
        obtain ⟨sn, hsn⟩ : ∃ sn : Bool, (sn = true ↔ ∃ j, j < k ∧ r j = r k ∧ p j / 2 ^ rs = p k / 2 ^ rs) := by
          by_cases hs : ∃ j, j < k ∧ r j = r k ∧ p j / 2 ^ rs = p k / 2 ^ rs
          · exact ⟨true, by simp [hs]⟩
          · exact ⟨false, by simp [hs]⟩
        have HSN := hideIt hsn
        clear hsn
        go_upto_block 2 with fail
        go_cut [17, 18] (fun f j wx => f = .bool sn ∧ ∃ d, wx = wo.drewN d)
        case first =>
          go_wp2_with fail
          go_loopw [17, 18] (fun f j wx => ∃ jn d : Nat, jn ≤ k ∧ j = .int .i64 jn ∧ f = .bool false ∧ (∀ i, i < jn → ¬ (r i = r k ∧ p i / 2 ^ rs = p k / 2 ^ rs)) ∧ wx = wo.drewN d) (fun _ j _ => k - (intOf j).toNat)
          case atStart => exact ⟨0, 0, Nat.zero_le _, rfl, rfl, fun i hi => by omega, rfl⟩
          case round =>
            obtain ⟨jn, d, hjk, rfl, rfl, hno, rfl⟩ := hrel
            have HNO := hideIt hno
            clear hno
            by_cases hjlt : jn < k
            · have cj0 : wo.cell? ⟨b0, o0 + jn, none⟩ = some (.int .i64 (r jn : Int)) := (hb2.cell hb0).trans (HR.out jn (by omega))
              have cj1 : wo.cell? ⟨b1, o1 + jn, none⟩ = some (.int .i64 (p jn : Int)) := (hb2.cell hb1).trans (HP.out jn (by omega))
              by_cases e1 : r jn = r k
              · have e1b : (((r jn : Nat) : Int) == ((r k : Nat) : Int)) = true := by simp [e1]
                by_cases e2 : p jn / 2 ^ rs = p k / 2 ^ rs
                · have e2b : (((p jn : Nat) : Int) / 2 ^ rs == ((p k : Nat) : Int) / 2 ^ rs) = true := by rw [pos_run, pos_run, e2]; simp
                  have hs : sn = true := HSN.out.2 ⟨jn, hjlt, e1, e2⟩
                  have HS := hideIt hs
                  clear e1 e2 hs
                  go_wp2_with fail
                  go_quiet (fail)
                  go_wp2
                  go_meet
                  case rel => exact ⟨by rw [HS.out], _, World.drewN_drewN _ _ _⟩
                · have e2b : (((p jn : Nat) : Int) / 2 ^ rs == ((p k : Nat) : Int) / 2 ^ rs) = false := by
                    rw [pos_run, pos_run]
                    exact beq_eq_false_iff_ne.2 (fun h => e2 (Int.ofNat.inj h))
                  have HE := hideIt e2
                  clear e1 e2
                  go_wp2_with fail
                  go_quiet (fail)
                  go_wp2
                  go_roundw
                  case rel => exact ⟨jn + 1, _, by omega, by go_num, rfl, none_succ HNO.out (fun hc => HE.out hc.2), rfl⟩
                  case measure => simp [intOf]; omega
              · have e1b : (((r jn : Nat) : Int) == ((r k : Nat) : Int)) = false := by simp; omega
                have HE := hideIt e1
                clear e1
                go_wp2_with fail
                go_quiet (fail)
                go_wp2
                go_roundw
                case rel => exact ⟨jn + 1, _, by omega, by go_num, rfl, none_succ HNO.out (fun hc => HE.out hc.1), rfl⟩
                case measure => simp [intOf]; omega
            · have hs : sn = false := by
                cases hsn : sn
                · rfl
                · obtain ⟨i, hi, h1, h2⟩ := HSN.out.1 hsn
                  exact absurd ⟨h1, h2⟩ (HNO.out i (by omega))
              have HS := hideIt hs
              clear hs
              go_wp2_with fail
              go_meet
              case rel => exact ⟨by rw [HS.out], _, rfl⟩
        case rest =>
          obtain ⟨rfl, d, rfl⟩ := hcut
          have hmm2 : (m' : Int) = if sn = true then (m : Int) else m + 1 := by
            have h1 := HMM.out
            have h2 := HSN.out
            by_cases hsn : sn = true
            · rw [if_pos hsn]
              rcases h1 with ⟨h1, _⟩ | ⟨_, h1⟩
              · rw [h1]
              · exfalso
                obtain ⟨j, hj, e1, e2⟩ := h2.1 hsn
                exact h1 ⟨p j, ⟨j, hj, e1, rfl⟩, e2⟩
            · rw [if_neg hsn]
              rcases h1 with ⟨_, q, ⟨j, hj, e1, e2⟩, h3⟩ | ⟨h1, _⟩
              · exfalso
                subst e2
                exact hsn (h2.2 ⟨j, hj, e1, h3⟩)
              · rw [h1]; simp
          have hm8 : m' ≤ 8192 := by rcases HMM.out with ⟨h1, _⟩ | ⟨h1, _⟩ <;> omega
          have hmk : m' ≤ k + 1 := by rcases HMM.out with ⟨h1, _⟩ | ⟨h1, _⟩ <;> omega
          have hPl2 : P'.length ≤ 65537 := by have h1 := HRB.out k hkn; have h2 := HL.out; omega
          cases sn
          · rw [if_neg (by decide)] at hmm2
            by_cases hmx : (P.length : Int) - 1 < (r k : Int)
            · have hqP : (P'.length : Int) = (r k : Int) + 1 := by have := HL.out; omega
              have hqW : ((W'.length : Int) != wrap64 (((m : Int) + 1) * 2 ^ ps)) = false := words_num HG.out.wlen hmm2 hm8 hps
              have HA : Hid ((r k : Int) = (P'.length : Int) - 1) := by show (r k : Int) = (P'.length : Int) - 1; omega
              have hq1 := Int.le_of_eq hqP
              have hq2 := Int.le_of_eq hqP.symm
              clear hqP
              have HC : Hid (((m : Int) + 1) = (m' : Int)) := hmm2.symm
              clear hmm2
              go_wp2_with fail
              refine (sizes_calls w.heap.size w.heap.size ps rs rn P' W' (wo.drewN d) pv' wv' PV' (HH.out.heap rfl)).mono ?_
              rintro e w3 ⟨rfl, d3, rfl⟩
              go_wp2_with fail
              go_roundw
              case rel => exact ⟨k + 1, hkn, by go_num, counted_succ (HH.out.heap rfl) HG.out (below_drewN hb2 _) hmk hPl2 HA.out HC.out⟩
              case measure => simp [intOf]; omega
            · have hqP : (P'.length : Int) = (P.length : Int) := by have := HL.out; omega
              have hqW : ((W'.length : Int) != wrap64 (((m : Int) + 1) * 2 ^ ps)) = false := words_num HG.out.wlen hmm2 hm8 hps
              have HA : Hid ((P.length : Int) - 1 = (P'.length : Int) - 1) := by show (P.length : Int) - 1 = (P'.length : Int) - 1; omega
              have hq1 := Int.le_of_eq hqP
              have hq2 := Int.le_of_eq hqP.symm
              clear hqP
              have HC : Hid (((m : Int) + 1) = (m' : Int)) := hmm2.symm
              clear hmm2
              go_wp2_with fail
              refine (sizes_calls w.heap.size w.heap.size ps rs rn P' W' (wo.drewN d) pv' wv' PV' (HH.out.heap rfl)).mono ?_
              rintro e w3 ⟨rfl, d3, rfl⟩
              go_wp2_with fail
              go_roundw
              case rel => exact ⟨k + 1, hkn, by go_num, counted_succ (HH.out.heap rfl) HG.out (below_drewN hb2 _) hmk hPl2 HA.out HC.out⟩
              case measure => simp [intOf]; omega
          · rw [if_pos rfl] at hmm2
            by_cases hmx : (P.length : Int) - 1 < (r k : Int)
            · have hqP : (P'.length : Int) = (r k : Int) + 1 := by have := HL.out; omega
              have hqW : ((W'.length : Int) != wrap64 ((m : Int) * 2 ^ ps)) = false := words_num HG.out.wlen hmm2 hm8 hps
              have HA : Hid ((r k : Int) = (P'.length : Int) - 1) := by show (r k : Int) = (P'.length : Int) - 1; omega
              have hq1 := Int.le_of_eq hqP
              have hq2 := Int.le_of_eq hqP.symm
              clear hqP
              have HC : Hid ((m : Int) = (m' : Int)) := hmm2.symm
              clear hmm2
              go_wp2_with fail
              refine (sizes_calls w.heap.size w.heap.size ps rs rn P' W' (wo.drewN d) pv' wv' PV' (HH.out.heap rfl)).mono ?_
              rintro e w3 ⟨rfl, d3, rfl⟩
              go_wp2_with fail
              go_roundw
              case rel => exact ⟨k + 1, hkn, by go_num, counted_succ (HH.out.heap rfl) HG.out (below_drewN hb2 _) hmk hPl2 HA.out HC.out⟩
              case measure => simp [intOf]; omega
            · have hqP : (P'.length : Int) = (P.length : Int) := by have := HL.out; omega
              have hqW : ((W'.length : Int) != wrap64 ((m : Int) * 2 ^ ps)) = false := words_num HG.out.wlen hmm2 hm8 hps
              have HA : Hid ((P.length : Int) - 1 = (P'.length : Int) - 1) := by show (P.length : Int) - 1 = (P'.length : Int) - 1; omega
              have hq1 := Int.le_of_eq hqP
              have hq2 := Int.le_of_eq hqP.symm
              clear hqP
              have HC : Hid ((m : Int) = (m' : Int)) := hmm2.symm
              clear hmm2
              go_wp2_with fail
              refine (sizes_calls w.heap.size w.heap.size ps rs rn P' W' (wo.drewN d) pv' wv' PV' (HH.out.heap rfl)).mono ?_
              rintro e w3 ⟨rfl, d3, rfl⟩
              go_wp2_with fail
              go_roundw
              case rel => exact ⟨k + 1, hkn, by go_num, counted_succ (HH.out.heap rfl) HG.out (below_drewN hb2 _) hmk hPl2 HA.out HC.out⟩
              case measure => simp [intOf]; omega
    · have hkn2 : k = n := by omega
      subst hkn2
      clear hh hg
      go_wp2_with fail
      go_ret
      exact ⟨rfl, hb⟩
end Go.Proofs.Qxb6600375a
