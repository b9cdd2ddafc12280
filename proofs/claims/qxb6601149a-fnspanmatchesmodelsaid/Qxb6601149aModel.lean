/- walkModel, with stop, by a contract. -/
import Derived.Test.Qxb6601149aWalk
import Derived.Laws.OwnMore
namespace Go.Proofs.Qxb6601149a
open Go.RowKit
set_option linter.unusedVariables false

theorem infoB : (Try.prog.info? 5).map (fun i => (i.zero, i.size, i.bytes)) = some (some (.int .u8 0), 1, 1) := by kernel_rfl

/-- The row of marks behind the first k bytes. -/
def rowAt (Z : Nat → Int) (n k : Nat) : List Value := (List.range n).map fun j => Value.int .u8 (if j < k then ((mk Z j : Nat) : Int) else 0)

theorem rowAt_get {Z : Nat → Int} {n k j : Nat} (hj : j < n) : (rowAt Z n k)[j]? = some (.int .u8 (if j < k then ((mk Z j : Nat) : Int) else 0)) := by
  simp [rowAt, hj]
theorem rowAt_len (Z : Nat → Int) (n k : Nat) : (rowAt Z n k).length = n := by simp [rowAt]
theorem rowAt_zero (Z : Nat → Int) (n : Nat) : List.replicate n (Value.int .u8 0) = rowAt Z n 0 := by
  apply List.ext_getElem?
  intro i
  by_cases hi : i < n
  · rw [rowAt_get hi, List.getElem?_replicate, if_pos hi, if_neg (by omega)]
  · rw [List.getElem?_eq_none (by simp; omega), List.getElem?_eq_none (by rw [rowAt_len]; omega)]
theorem rowAt_set {Z : Nat → Int} {n k : Nat} (hk : k < n) : (rowAt Z n k).set k (.int .u8 ((mk Z k : Nat) : Int)) = rowAt Z n (k + 1) := by
  apply List.ext_getElem?
  intro i
  by_cases hi : i < n
  · rw [rowAt_get hi]
    by_cases e : i = k
    · subst e
      rw [List.getElem?_set_self (by rw [rowAt_len]; exact hk), if_pos (by omega)]
    · rw [List.getElem?_set_ne (fun h => e h.symm), rowAt_get hi]
      by_cases h2 : i < k
      · rw [if_pos h2, if_pos (by omega)]
      · rw [if_neg h2, if_neg (by omega)]
  · rw [List.getElem?_eq_none (by rw [List.length_set, rowAt_len]; omega), List.getElem?_eq_none (by rw [rowAt_len]; omega)]
theorem rowAt_same {Z : Nat → Int} {n k : Nat} (hk : k < n) (h0 : mk Z k = 0) : rowAt Z n k = rowAt Z n (k + 1) := by
  rw [← rowAt_set hk, h0]
  apply List.ext_getElem?
  intro i
  by_cases e : i = k
  · subst e
    rw [List.getElem?_set_self (by rw [rowAt_len]; exact hk), rowAt_get hk, if_neg (by omega)]; rfl
  · rw [List.getElem?_set_ne (fun h => e h.symm)]

/-- What memory holds behind the first k bytes of the first pass. -/
def Marked (Z : Nat → Int) (n k G : Nat) (w wr : World) : Prop := wr.heap[G]? = some (.cells (rowAt Z n k).toArray 5 (0, 0)) ∧ Below G w wr
theorem Marked.same {Z : Nat → Int} {n k G : Nat} {w wr : World} (h : Marked Z n k G w wr) (hk : k < n) (h0 : mk Z k = 0) : Marked Z n (k + 1) G w wr := by
  rw [Marked, ← rowAt_same hk h0]; exact h
theorem Marked.set {Z : Nat → Int} {n k G : Nat} {w wr : World} (h : Marked Z n k G w wr) (hk : k < n) {v : Int} (hv : ((mk Z k : Nat) : Int) = v) : Marked Z n (k + 1) G w (wr.setCell ⟨G, k, none⟩ (.int .u8 v)) := by
  refine ⟨?_, h.2.setCell (Nat.le_refl _) _⟩
  rw [heap_setCell_same wr G k _ 5 _ h.1, ← rowAt_set hk, hv]
  simp
theorem Marked.cell {Z : Nat → Int} {n k G : Nat} {w wr : World} (h : Marked Z n k G w wr) {j : Nat} (hj : j < n) : wr.cell? ⟨G, j, none⟩ = some (.int .u8 (if j < k then ((mk Z j : Nat) : Int) else 0)) := by
  rw [cell_of_row wr G j _ 5 (0, 0) h.1, List.getElem?_toArray, rowAt_get hj]
theorem Marked.free {Z : Nat → Int} {n k G : Nat} {w wr : World} (h : Marked Z n k G w wr) (j : Nat) : wr.frozen? ⟨G, j, none⟩ = false := frozen_of_row wr G j _ 5 h.1

theorem made_row {w : World} {base e g n : Nat} {xs : List Value} (h : w.ownsRow base e 1 (.slice (some ⟨g, 0, none⟩) n n) n xs) : w.heap[g]? = some (.cells xs.toArray e (0, 0)) := by
  rcases h.2 with ⟨h0, _⟩ | ⟨g', cap', cur, hv, hg, hh, hc1, hc2, hc3, hc4⟩
  · cases h0
  · simp only [Value.slice.injEq, Option.some.injEq, Addr.mk.injEq] at hv
    obtain ⟨⟨rfl, -, -⟩, -, rfl⟩ := hv
    rw [hh, ← hc4, List.take_of_length_le (by simp; omega)]

theorem vst {s t : Nat} {z : Int} (h : s = t) (hz : z = (t : Int)) : Value.int .i64 z = .int .i64 (s : Int) := by rw [h, hz]

theorem mk_le (Z : Nat → Int) (i : Nat) : mk Z i ≤ 3 := by
  unfold mk mark
  repeat' split
  all_goals omega

/-- The second pass stands at mark k. -/
def Pass (Z : Nat → Int) (k : Nat) (d : Int) : Prop := d = dep Z k ∧ ∀ j, j < k → ¬ Stop Z j
theorem pass_plain {Z : Nat → Int} {k : Nat} {d : Int} (h : Pass Z k d) (m : mk Z k = 0) : Pass Z (k + 1) d :=
  ⟨by rw [dep_succ, m, h.1]; simp [turn], none_succ h.2 (not_stop (Or.inl m))⟩
theorem pass_open {Z : Nat → Int} {k : Nat} {d : Int} (h : Pass Z k d) (m : mk Z k = 1) : Pass Z (k + 1) (d + 1) :=
  ⟨by rw [dep_succ, m, h.1]; simp [turn], none_succ h.2 (not_stop (Or.inr m))⟩
theorem pass_shut {Z : Nat → Int} {k : Nat} {d : Int} (h : Pass Z k d) (m : mk Z k = 2) (hd : d - 1 ≠ 0) : Pass Z (k + 1) (d - 1) := by
  have e : dep Z (k + 1) = d - 1 := by rw [dep_succ, m, h.1]; simp [turn]; omega
  exact ⟨e.symm, none_succ h.2 (fun hs => hd (by rw [← e]; exact hs.2))⟩
theorem pass_stop2 {Z : Nat → Int} {n k : Nat} {d : Int} (h : Pass Z k d) (hk : k < n) (m : mk Z k = 2) (hd : d - 1 = 0) : Ans Z n ((k : Int) + 1) := by
  have e : dep Z (k + 1) = d - 1 := by rw [dep_succ, m, h.1]; simp [turn]; omega
  exact Or.inl ⟨k, hk, ⟨Or.inl m, by rw [e]; exact hd⟩, h.2, rfl⟩
theorem pass_quote {Z : Nat → Int} {k : Nat} {d : Int} (h : Pass Z k d) (m : mk Z k = 3) (hd : d ≠ 0) : Pass Z (k + 1) d := by
  have e : dep Z (k + 1) = d := by rw [dep_succ, m, h.1]; simp [turn]
  exact ⟨e.symm, none_succ h.2 (fun hs => hd (by rw [← e]; exact hs.2))⟩
theorem pass_stop3 {Z : Nat → Int} {n k : Nat} {d : Int} (h : Pass Z k d) (hk : k < n) (m : mk Z k = 3) (hd : d = 0) : Ans Z n ((k : Int) + 1) := by
  have e : dep Z (k + 1) = d := by rw [dep_succ, m, h.1]; simp [turn]
  exact Or.inl ⟨k, hk, ⟨Or.inr m, by rw [e]; exact hd⟩, h.2, rfl⟩

set_option maxRecDepth 100000 in
set_option maxHeartbeats 1000000 in
theorem model_any (g n cap : Nat) (Z : Nat → Int) (w : World) (hn : n ≤ 1048576) (hgw : g < w.heap.size) (hc : ∀ i, i < n → w.cell? ⟨g, i, none⟩ = some (.int .u8 (Z i))) :
    Calls Try.prog 20 #[.slice (some ⟨g, 0, none⟩) n cap, .bool true] w fun e w' => WPost Z n e ∧ Below w.heap.size w w' := by
  have HC := hideIt hc
  clear hc
  obtain ⟨i0, hi, hz0, hz1, hz2⟩ := info_parts infoB
  go_enter Try.func20, Try.ntmps20
  go_wp2_with (at_make; refine wpList_make_full _ rfl _ _ 22 rfl w.heap.size 5 i0 (.int .u8 0) 1 Try.underlying22 hi hz0 hz1 _ _ _ _ n rfl rfl rfl rfl (by rw [hz2]; omega) (by unfold maxLen; omega) (Nat.le_refl _) ?_)
  intro w1 hown hgrow
  have hM : Marked Z n 0 w.heap.size w w1 := by
    refine ⟨?_, (Below.refl _ _).grown hgrow (Nat.le_refl _) (by intro k hk; cases hk)⟩
    rw [← rowAt_zero]
    have := made_row hown
    simpa [toList_madeCells_one, Value.cells] using this
  clear hown hgrow hi hz0 hz1 hz2
  go_wp2_with fail
  go_loopw [7, 8] (fun sv iv wr => ∃ k : Nat, iv = .int .i64 k ∧ k ≤ n ∧ sv = .int .i64 ((stOf Z k : Nat) : Int) ∧ Hid (Marked Z n k w.heap.size w wr)) (fun _ iv _ => n - (intOf iv).toNat)
  case atStart => exact ⟨0, rfl, Nat.zero_le _, rfl, hM⟩
  case round =>
    obtain ⟨k, rfl, hk, rfl, hM⟩ := hrel
    replace hM := hM.out
    by_cases hkn : k < n
    · have c0 : wr.cell? ⟨g, k, none⟩ = some (.int .u8 (Z k)) := (hM.2.cell hgw).trans (HC.out k hkn)
      have cm := hM.cell hkn
      rw [if_neg (by omega)] at cm
      have fm := hM.free k
      have hs3 := stOf_le Z k
      by_cases hs : stOf Z k = 2
      · rw [hs]
        obtain ⟨e1, e2, _⟩ := at2 hs
        have hnx := hideIt (hM.same hkn e1)
        have HST : Hid (stOf Z (k + 1) = 1) := e2
        clear e1 e2 hM hs
        go_wp2_with fail
        go_roundw
        case rel => exact ⟨k + 1, by go_num, hkn, vst HST.out rfl, hnx⟩
        case measure => simp [intOf]; omega
      by_cases hs1 : stOf Z k = 1
      · have hs := hs1
        rw [hs1]
        clear hs1 hs3
        by_cases t92 : Z k = 92
        · have e := at1_slash hs t92
          rw [t92] at c0
          clear t92
          obtain ⟨e1, e2, _⟩ := e
          have hnx := hideIt (hM.same hkn e1)
          have HST : Hid (stOf Z (k + 1) = 2) := e2
          clear e1 e2 hM hs
          go_wp2_with fail
          go_roundw
          case rel => exact ⟨k + 1, by go_num, hkn, vst HST.out rfl, hnx⟩
          case measure => simp [intOf]; omega
        by_cases t34 : Z k = 34
        · have e := at1_quote hs t34
          rw [t34] at c0
          clear t34
          obtain ⟨e1, e2, _⟩ := e
          have hnx := hideIt (hM.set hkn (v := 3) (by rw [e1]; rfl))
          have HST : Hid (stOf Z (k + 1) = 0) := e2
          clear e1 e2 hM hs
          go_wp2_with fail
          go_roundw
          case rel => exact ⟨k + 1, by go_num, hkn, vst HST.out rfl, hnx⟩
          case measure => simp [intOf]; omega
        have e := at1_other hs t92 t34
        have b1 := ne_f t92
        have b2 := ne_f t34
        clear t92 t34
        obtain ⟨e1, e2, _⟩ := e
        have hnx := hideIt (hM.same hkn e1)
        have HST : Hid (stOf Z (k + 1) = 1) := e2
        clear e1 e2 hM hs
        go_wp2_with fail
        go_roundw
        case rel => exact ⟨k + 1, by go_num, hkn, vst HST.out rfl, hnx⟩
        case measure => simp [intOf]; omega
      have hs0 : stOf Z k = 0 := by omega
      clear hs
      have hs := hs0
      rw [hs0]
      clear hs0 hs1 hs3
      by_cases t34 : Z k = 34
      · have e := at0_quote hs t34
        rw [t34] at c0
        clear t34
        obtain ⟨e1, e2, _⟩ := e
        have hnx := hideIt (hM.same hkn e1)
        have HST : Hid (stOf Z (k + 1) = 1) := e2
        clear e1 e2 hM hs
        go_wp2_with fail
        go_roundw
        case rel => exact ⟨k + 1, by go_num, hkn, vst HST.out rfl, hnx⟩
        case measure => simp [intOf]; omega
      by_cases t123 : Z k = 123
      · have e := at0_open hs (Or.inl t123)
        rw [t123] at c0
        obtain ⟨e1, e2, _⟩ := e
        have hnx := hideIt (hM.set hkn (v := 1) (by rw [e1]; rfl))
        have HST : Hid (stOf Z (k + 1) = 0) := e2
        clear e1 e2 hM hs
        go_wp2_with fail
        go_roundw
        case rel => exact ⟨k + 1, by go_num, hkn, vst HST.out rfl, hnx⟩
        case measure => simp [intOf]; omega
      by_cases t91 : Z k = 91
      · have e := at0_open hs (Or.inr t91)
        rw [t91] at c0
        obtain ⟨e1, e2, _⟩ := e
        have hnx := hideIt (hM.set hkn (v := 1) (by rw [e1]; rfl))
        have HST : Hid (stOf Z (k + 1) = 0) := e2
        clear e1 e2 hM hs
        go_wp2_with fail
        go_roundw
        case rel => exact ⟨k + 1, by go_num, hkn, vst HST.out rfl, hnx⟩
        case measure => simp [intOf]; omega
      by_cases t125 : Z k = 125
      · have e := at0_shut hs (Or.inl t125)
        rw [t125] at c0
        obtain ⟨e1, e2, _⟩ := e
        have hnx := hideIt (hM.set hkn (v := 2) (by rw [e1]; rfl))
        have HST : Hid (stOf Z (k + 1) = 0) := e2
        clear e1 e2 hM hs
        go_wp2_with fail
        go_roundw
        case rel => exact ⟨k + 1, by go_num, hkn, vst HST.out rfl, hnx⟩
        case measure => simp [intOf]; omega
      by_cases t93 : Z k = 93
      · have e := at0_shut hs (Or.inr t93)
        rw [t93] at c0
        obtain ⟨e1, e2, _⟩ := e
        have hnx := hideIt (hM.set hkn (v := 2) (by rw [e1]; rfl))
        have HST : Hid (stOf Z (k + 1) = 0) := e2
        clear e1 e2 hM hs
        go_wp2_with fail
        go_roundw
        case rel => exact ⟨k + 1, by go_num, hkn, vst HST.out rfl, hnx⟩
        case measure => simp [intOf]; omega
      have e := at0_other hs t34 t123 t91 t125 t93
      have b1 := ne_f t34
      have b2 := ne_f t123
      have b3 := ne_f t91
      have b4 := ne_f t125
      have b5 := ne_f t93
      clear t34 t123 t91 t125 t93
      obtain ⟨e1, e2, _⟩ := e
      have hnx := hideIt (hM.set hkn (v := 0) (by rw [e1]; rfl))
      have HST : Hid (stOf Z (k + 1) = 0) := e2
      clear e1 e2 hM hs
      go_wp2_with fail
      go_roundw
      case rel => exact ⟨k + 1, by go_num, hkn, vst HST.out rfl, hnx⟩
      case measure => simp [intOf]; omega
    · have hkn2 : k = n := by omega
      subst hkn2
      have HCM : Hid (∀ j, j < k → wr.cell? ⟨w.heap.size, j, none⟩ = some (.int .u8 ((mk Z j : Nat) : Int))) := fun j hj => by
        rw [hM.cell hj, if_pos hj]
      have hbel := hM.2
      clear hM
      go_wp2_with fail
      obtain ⟨wo, hwo⟩ : ∃ wo : World, wo = wr := ⟨_, rfl⟩
      subst hwo
      go_loop [10, 11, 12] (fun pv dv iv => ∃ (q : Nat) (d dd : Int), iv = .int .i64 q ∧ q ≤ k ∧ pv = .int .i64 d ∧ -(q : Int) ≤ d ∧ d ≤ q ∧ dv = .int .i64 dd ∧ Hid (Pass Z q d)) (fun _ _ iv => k - (intOf iv).toNat)
      case atStart => exact ⟨0, 0, 0, rfl, Nat.zero_le _, rfl, by omega, by omega, rfl, ⟨rfl, fun j hj => by omega⟩⟩
      case round =>
        obtain ⟨q, d, dd, rfl, hq, rfl, hd1, hd2, rfl, hp⟩ := hrel
        by_cases hqk : q < k
        · have cq := HCM.out q hqk
          have hm3 := mk_le Z q
          by_cases m0 : mk Z q = 0
          · have hnx := hideIt (pass_plain hp.out m0)
            rw [m0] at cq
            clear hp m0 hm3
            go_wp2_with fail
            go_round
            case rel => exact ⟨q + 1, d, _, by go_num, hqk, rfl, by omega, by omega, rfl, hnx⟩
            case measure => simp [intOf]; omega
          by_cases m1 : mk Z q = 1
          · have hnx := hideIt (pass_open hp.out m1)
            rw [m1] at cq
            clear hp m0 m1 hm3
            go_wp2_with fail
            all_goals
              go_round
              case rel => exact ⟨q + 1, d + 1, _, by go_num, hqk, rfl, by omega, by omega, rfl, hnx⟩
              case measure => simp [intOf]; omega
          by_cases m2 : mk Z q = 2
          · rw [m2] at cq
            by_cases hd0 : d - 1 = 0
            · have ha := hideIt (pass_stop2 hp.out hqk m2 hd0)
              have hb : (d - 1 == 0) = true := by simpa using hd0
              clear hp hd0 m0 m1 m2 hm3
              go_wp2_with fail
              go_ret2
              exact ⟨⟨_, _, rfl, ha.out⟩, hbel⟩
            · have hnx := hideIt (pass_shut hp.out m2 hd0)
              have hb : (d - 1 == 0) = false := ne_f hd0
              clear hp hd0 m0 m1 m2 hm3
              go_wp2_with fail
              go_round
              case rel => exact ⟨q + 1, d - 1, _, by go_num, hqk, rfl, by omega, by omega, rfl, hnx⟩
              case measure => simp [intOf]; omega
          have m3 : mk Z q = 3 := by omega
          rw [m3] at cq
          by_cases hd0 : d = 0
          · have ha := hideIt (pass_stop3 hp.out hqk m3 hd0)
            have hb : (d == 0) = true := by simpa using hd0
            have HD := hideIt hd0
            clear hp hd0 m0 m1 m2 m3 hm3
            go_wp2_with fail
            go_ret2
            exact ⟨⟨_, _, rfl, ha.out⟩, hbel⟩
          · have hnx := hideIt (pass_quote hp.out m3 hd0)
            have hb : (d == 0) = false := ne_f hd0
            clear hp hd0 m0 m1 m2 m3 hm3
            go_wp2_with fail
            go_round
            case rel => exact ⟨q + 1, d, _, by go_num, hqk, rfl, by omega, by omega, rfl, hnx⟩
            case measure => simp [intOf]; omega
        · have hqk2 : q = k := by omega
          subst hqk2
          have ha : Hid (Ans Z q (-1)) := Or.inr ⟨hp.out.2, rfl⟩
          clear hp
          go_wp2_with fail
          go_ret2
          exact ⟨⟨_, _, rfl, ha.out⟩, hbel⟩
end Go.Proofs.Qxb6601149a
