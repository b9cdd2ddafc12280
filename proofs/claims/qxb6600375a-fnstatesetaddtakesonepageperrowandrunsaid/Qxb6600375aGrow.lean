/- add where no page holds the state. -/
import Derived.Test.Qxb6600375aWords
namespace Go.Proofs.Qxb6600375a
open Go.RowKit
set_option linter.unusedVariables false

theorem idx_lt {ps m m2 pos : Nat} (h : (2 : Int) ^ ps = m2) : idx ps m pos < m * m2 + m2 := by
  have e : 2 ^ ps = m2 := by have : ((2 ^ ps : Nat) : Int) = (m2 : Int) := by simpa using h
                             exact Int.ofNat.inj this
  have hp : 0 < 2 ^ ps := Nat.two_pow_pos ps
  unfold idx
  rw [← e]
  have := Nat.mod_lt (pos / 64) hp
  omega
theorem idx_ge {ps m m2 pos : Nat} (h : (2 : Int) ^ ps = m2) : m * m2 ≤ idx ps m pos := by
  have e : 2 ^ ps = m2 := by have : ((2 ^ ps : Nat) : Int) = (m2 : Int) := by simpa using h
                             exact Int.ofNat.inj this
  unfold idx
  rw [← e]
  omega

theorem one_new (w : World) (u : Value) (t : TypeId) : ∀ (j : Nat) v, [u][j]? = some v → (w.alloc (.cells #[u] t)).cell? ((⟨w.heap.size, 0, none⟩ : Addr).add j) = some v := by
  intro j v hj
  match j, hj with
  | 0, hj => simp at hj; subst hj; simp [Addr.add]

theorem set_self {α : Type} {l : List α} {r : Nat} {x : α} (h : l[r]? = some x) : l.set r x = l := by
  apply List.ext_getElem?
  intro i
  by_cases hi : i = r
  · subst hi; rw [List.getElem?_set_self (List.getElem?_eq_some_iff.1 h).1, h]
  · rw [List.getElem?_set_ne (fun e => hi e.symm)]

theorem undrew {w w2 : World} {row : Option Nat} (h : w.drew.grownBy w2 row) : w.grownBy w2 row := ⟨h.os, h.tape, h.output, h.size, h.block⟩

theorem ret_bool {a b : Bool} (h : a = b) : Ending.returned (.bool a) = .returned (.bool b) := by rw [h]

set_option maxRecDepth 100000 in
set_option maxHeartbeats 1000000 in
theorem add_miss (B S ps rs rn : Nat) (P : List (List Nat)) (W : List Nat) (row pos : Nat) (w : World) (pv wv : Value) (PV : List Value) (h : Holds w B S ps rs rn P W pv wv PV)
    (hps : ps ≤ 6) (hrs : rs ≤ 12) (hrn : 1 ≤ rn) (hrn2 : rn ≤ 65536) (hP : P.length ≤ 65537) (hr : row ≤ 65536) (hpos : pos ≤ 1000000000) (hrun : pos / 2 ^ rs < rn) (hn : NoPage P rs row pos) (m m2 : Nat) (hm2 : (2 : Int) ^ ps = m2) (hm0 : 0 < m2) (hm3 : m2 ≤ 64) (hW : W.length = m * m2) (hm : m ≤ 8191) :
    Calls Try.prog 11 #[.pointer (some ⟨S, 0, none⟩), .int .i64 row, .int .i64 pos] w fun e w' => e = .returned (.bool true) ∧ ∃ pv' wv' PV', Holds w' B S ps rs rn (missP rn rs P row pos (m + 1)) ((W ++ List.replicate m2 0).set (idx ps m pos) (2 ^ (pos % 64))) pv' wv' PV' ∧ Below B w w' := by
  have W1 := word_miss B S ps rs rn P W row pos w pv wv PV h hrs hrn hrn2 hP hr hpos hrun hn
  obtain ⟨i37, hi, hz0, hz1, hz2⟩ := info_parts info37
  obtain ⟨i21, hi1, hz10, hz11, hz12⟩ := info_parts info21
  obtain ⟨i38, hi2, hz20, hz21, hz22⟩ := info_parts info38
  have hWl : W.length ≤ 8191 * 64 := by rw [hW]; exact Nat.mul_le_mul hm hm3
  obtain ⟨num, hnumd⟩ : ∃ num, num = m + 1 := ⟨_, rfl⟩
  have hnum : ((W.length : Int) + (m2 : Int)) / (m2 : Int) = (num : Int) := by
    rw [hW, hnumd, show ((m * m2 : Nat) : Int) + (m2 : Int) = ((m + 1 : Nat) : Int) * (m2 : Int) by simp [Int.add_mul]]
    exact Int.mul_ediv_cancel _ (by omega)
  have hnum1 : 1 ≤ num := by omega
  have hnum2 : num ≤ 8192 := by omega
  obtain ⟨run, hrund⟩ : ∃ run, run = pos / 2 ^ rs := ⟨_, rfl⟩
  have hruni : (pos : Int) / 2 ^ rs = (run : Int) := by rw [hrund]; exact pos_run pos rs
  have hrunl : run < rn := by rw [hrund]; exact hrun
  have HNUM : Hid (num = m + 1) := hnumd
  have HRUN : Hid (run = pos / 2 ^ rs) := hrund
  clear hnumd hrund hrun
  have HW : Hid (W.length = m * m2) := hW
  clear hW
  have hmx : W.length + m2 ≤ maxLen := by unfold maxLen; omega
  have hby : (W.length + m2) * 8 ≤ 140737488355328 := by omega
  go_enter Try.func11, Try.ntmps11
  go_wp2_with fail
  refine W1.mono ?_
  clear W1
  rintro e w' ⟨rfl, n, rfl⟩
  go_wp2_with fail
  go_loopg [] (row + 1 - P.length) (fun k wr => ∃ (R' : Nat) (pv' : Value) (PV' : List Value), Holds wr B S ps rs rn (P ++ List.replicate R' []) W pv' wv PV' ∧ Below B w wr ∧ P.length + R' + k = max P.length (row + 1))
  case atStart => exact ⟨0, pv, PV, by simpa using h.heap (by rfl), below_drewN (Below.refl _ _) _, by omega⟩
  case round =>
    obtain ⟨R', pv', PV', hh, hb, hk⟩ := hrel
    have c0 := hh.cell.1
    have hlenP : (P ++ List.replicate R' []).length = P.length + R' := by simp
    by_cases hk0 : gk = 0
    · have hrow : row < P.length + R' := by omega
      have hR1 : P.length + R' ≤ 65537 := by omega
      have HR : Hid (R' = row + 1 - P.length) := by show R' = _; omega
      clear hk hk0 h hn
      obtain ⟨P1, hP1⟩ : ∃ P1, P1 = P ++ List.replicate R' [] := ⟨_, rfl⟩
      have HP1 : Hid (P1 = P ++ List.replicate R' []) := hP1
      rw [← hP1] at hh hlenP
      clear hP1
      obtain ⟨g, C, rfl, hg⟩ := own_form hh.hp (by omega)
      rw [hlenP] at hh c0
      have hlen : PV'.length = P1.length := by have := hh.hp.1; omega
      have hp := hh.hp
      rw [hlenP] at hp
      have hcr := hp.cellAt row (by omega)
      clear hp
      obtain ⟨v, hv⟩ : ∃ v, PV'[row]? = some v := ⟨_, List.getElem?_eq_getElem (by omega)⟩
      obtain ⟨L, hL⟩ : ∃ L, P1[row]? = some L := ⟨_, List.getElem?_eq_getElem (by omega)⟩
      rw [hv] at hcr
      have hro := hh.hrow row L v hL hv
      have hvf : ∃ va vl vc, v = .slice va vl vc := by
        rcases hro with ⟨_, rfl⟩ | ⟨_, ⟨gr, cr, rfl⟩, _⟩
        · exact ⟨_, _, _, rfl⟩
        · exact ⟨_, _, _, rfl⟩
      obtain ⟨va, vl, vc, rfl⟩ := hvf
      have hlt : ((row : Nat) : Int) < ((P.length + R' : Nat) : Int) := by omega
      go_upto_if 40 with fail
      go_cut [] (fun wx => ∃ (PV2 : List Value) (gr cr : Nat), Holds wx B S ps rs rn (P1.set row (rowL rn L)) W (.slice (some ⟨g, 0, none⟩) (P.length + R') C) wv PV2 ∧ Below B w wx ∧ PV2[row]? = some (.slice (some ⟨gr, 0, none⟩) rn cr))
      case first =>
        rcases hro with ⟨rfl, hvn⟩ | ⟨hL1, ⟨gr, cr, hvs⟩, hLo⟩
        · simp only [Value.slice.injEq] at hvn
          obtain ⟨rfl, rfl, rfl⟩ := hvn
          go_wp2_with fail
          have c5 := hh.cell.2.2.2.2
          have hfz : wr.frozen? ⟨g, row, none⟩ = false := by
            obtain ⟨cur, hcur⟩ := ownTag hh.hp g rfl
            exact frozen_of_row wr g row _ 37 hcur
          have hmx : 0 + rn ≤ maxLen := by unfold maxLen; omega
          have hby : (0 + rn) * 4 ≤ 140737488355328 := by omega
          have hrn0 : 0 < rn := by omega
          go_region_law (refine step_append_zeros rfl (.tmp 52) (.tmp 56) 37 3 rfl wr.heap.size 21 i21 (.int .i32 0) 4 .i64 .i64 Try.underlying37 Try.underlying3 hi1 hz10 hz11 hz12 rfl rfl (.slice none 0 0) 0 [] rfl (World.ownsRow_nil _ _ _ _) _ rn rfl ?_ hrn0 hmx hby (Nat.le_refl _) ?_; (first | rfl | (simp only [IntKind.wrap_i64]; omega)); intro g' cap' w2 hown2 hgr2; obtain ⟨d0, d4, d1, d2⟩ := hh.sNew (undrew hgr2) row; rw [hcr] at d1)
          all_goals
            go_wp2_with fail
            go_meet
            case rel =>
              have hown3 : w2.ownsRow wr.heap.size 21 1 (.slice (some ⟨g', 0, none⟩) rn cap') rn ((List.replicate rn 0).map fun x : Nat => Value.int .i32 x) := by
                simpa using hown2
              have hnew : wr.heap.size ≤ g' := (hown3.lt g' rfl).1
              have hfin := hh.setRowNew row (L' := List.replicate rn 0) (by simp) (own_base hown3 hh.size) (undrew hgr2) hnew
              refine ⟨_, g', cap', hfin, (hb.grown (undrew hgr2) hh.size (fun _ e => by cases e)).setCell hg _, ?_⟩
              rw [List.getElem?_set_self (by omega)]
        · simp only [Value.slice.injEq] at hvs
          obtain ⟨rfl, rfl, rfl⟩ := hvs
          have hz : ((vl : Int) == 0) = false := by simp; omega
          go_wp2_with fail
          go_meet
          case rel =>
            have e : P1.set row (rowL vl L) = P1 := by
              have : rowL vl L = L := if_neg (by intro e; subst e; simp at hL1; omega)
              rw [this]
              exact set_self hL
            exact ⟨PV', gr, vc, by rw [e]; exact hh, hb, hv⟩
      case rest =>
        clear hh hb hv hcr hro hlen c0
        obtain ⟨PV2, gr, cr, hh, hb, hv⟩ := hcut
        have hL2 : (P1.set row (rowL rn L))[row]? = some (rowL rn L) := List.getElem?_set_self (by omega)
        have hlenP2 : (P1.set row (rowL rn L)).length = P.length + R' := by rw [List.length_set]; exact hlenP
        obtain ⟨P2, hP2⟩ : ∃ P2, P2 = P1.set row (rowL rn L) := ⟨_, rfl⟩
        have HP2 : Hid (P2 = P1.set row (rowL rn L)) := hP2
        rw [← hP2] at hh hL2 hlenP2
        clear hP2
        obtain ⟨c0, c1, c2, c3, c4⟩ := hh.cell
        go_wp2_with fail
        go_cut [] (fun wx => ∃ gw cw, Holds wx B S ps rs rn P2 (W ++ List.replicate m2 0) (.slice (some ⟨g, 0, none⟩) (P.length + R') C) (.slice (some ⟨gw, 0, none⟩) (W.length + m2) cw) PV2 ∧ Below B w wx)
        case first =>
          go_region_law (refine step_append_zeros rfl (.tmp 63) (.tmp 68) 32 3 rfl B 38 i38 (.int .u64 0) 8 .i64 .i64 Try.underlying32 Try.underlying3 hi2 hz20 hz21 hz22 rfl rfl wv W.length (W.map fun x : Nat => Value.int .u64 x) rfl hh.hw _ m2 rfl ?_ hm0 hmx hby hh.size ?_; (first | rfl | (simp only [IntKind.wrap_i64]; omega)); intro g' cap' w2 hown2 hgr2; obtain ⟨d0, d1⟩ := hh.sW (undrew hgr2))
          all_goals
            go_wp2_with fail
            go_meet
            case rel =>
              refine ⟨g', cap', hh.setWords (by simpa using hown2) (undrew hgr2), hh.belW hb (undrew hgr2) _⟩
        case rest =>
          clear hh hb c0 c1 c2 c3 c4
          obtain ⟨gw, cw, hh, hb⟩ := hcut
          obtain ⟨c0, c1, c2, c3, c4⟩ := hh.cell
          have hp := hh.hp
          rw [hlenP2] at hp
          have hcr := hp.cellAt row (by omega)
          rw [hv] at hcr
          obtain ⟨hL3, hro⟩ : (rowL rn L).length = rn ∧ wc.ownsRow B 21 1 (.slice (some ⟨gr, 0, none⟩) rn cr) rn ((rowL rn L).map fun x : Nat => Value.int .i32 x) := by
            rcases hh.hrow row _ _ hL2 hv with ⟨_, h2⟩ | ⟨h1, _, h3⟩
            · cases h2
            · exact ⟨h1, h3⟩
          have hcx := hro.cellAt run (by omega)
          rw [List.getElem?_map, List.getElem?_eq_getElem (show run < (rowL rn L).length by omega)] at hcx
          have hfx := hro.frozenAt run
          have hgB := (hro.lt gr rfl).1
          obtain ⟨y, hy⟩ : ∃ y : Nat, y = (rowL rn L)[run] := ⟨_, rfl⟩
          simp only [Option.map_some, ← hy] at hcx
          clear hy hro hp
          go_wp2_with fail
          go_cut [] (fun wx => Holds wx B S ps rs rn (P2.set row ((rowL rn L).set run num)) (W ++ List.replicate m2 0) (.slice (some ⟨g, 0, none⟩) (P.length + R') C) (.slice (some ⟨gw, 0, none⟩) (W.length + m2) cw) PV2 ∧ Below B w wx)
          case first =>
            go_region
            all_goals
              go_wp2_with fail
              go_meet
              case rel => exact ⟨(hh.setPage hL2 hv run num).heap rfl, (hb.setCell hgB _).drew⟩
          case rest =>
            clear hh hb c0 c1 c2 c3 c4 hcr hcx hfx
            obtain ⟨hh, hb⟩ := hcut
            obtain ⟨P3, hP3⟩ : ∃ P3, P3 = P2.set row ((rowL rn L).set run num) := ⟨_, rfl⟩
            have hn3 : (P3.getD row []).getD (pos / 2 ^ rs) 0 = m + 1 := by
              rw [← HRUN.out, ← HNUM.out, hP3, getD_of (List.getElem?_set_self (by omega)), getD_of (List.getElem?_set_self (by omega))]
            have hl3 : P3.length = P.length + R' := by rw [hP3, List.length_set]; exact hlenP2
            rw [← hP3] at hh
            have HP3 : Hid (P3 = P2.set row ((rowL rn L).set run num)) := hP3
            clear hP3
            have W3 := fun n => word_hit B S ps rs rn P3 (W ++ List.replicate m2 0) row pos m (wc.drewN n) _ _ PV2 (hh.heap rfl) hps hrs hrn hrn2 (by omega) hr hpos (by rw [← HRUN.out]; exact hrunl) hn3 (by omega)
            have W4 := W3 0
            clear W3 hn3
            obtain ⟨c0, c1, c2, c3, c4⟩ := hh.cell
            have hil : idx ps m pos < W.length + m2 := by
              rw [HW.out]; exact idx_lt hm2
            have hig : W.length ≤ idx ps m pos := by
              rw [HW.out]; exact idx_ge hm2
            have hwo := hh.hw
            have elen : (W ++ List.replicate m2 0).length = W.length + m2 := by simp
            rw [elen] at hwo
            have hcx := hwo.cellAt (idx ps m pos) (by omega)
            have hfx := hwo.frozenAt (idx ps m pos)
            have hgB := (hwo.lt gw rfl).1
            obtain ⟨i, hid⟩ : ∃ i, i = idx ps m pos := ⟨_, rfl⟩
            rw [← hid] at hcx hfx hil hig W4
            have HI : Hid (i = idx ps m pos) := hid
            clear hid hwo elen
            rw [List.getElem?_map, List.getElem?_append_right (by omega), List.getElem?_replicate, if_pos (by omega)] at hcx
            simp only [Option.map_some] at hcx
            go_wp2_with fail
            refine W4.mono ?_
            clear W4
            rintro e w' ⟨rfl, n', rfl⟩
            go_wp2_with fail
            go_ret
            have e1 : bits BinOp.and IntKind.u64 0 (IntKind.u64.wrap (2 ^ (pos % 64))) = 0 := by
              have := and_bit (x := 0) (b := pos % 64) (by decide) (Nat.mod_lt _ (by decide))
              simpa using this
            have e2 : bits BinOp.or IntKind.u64 0 (IntKind.u64.wrap (2 ^ (pos % 64))) = ((2 ^ (pos % 64) : Nat) : Int) := by
              have := or_bit (x := 0) (b := pos % 64) (by decide) (Nat.mod_lt _ (by decide))
              simpa using this
            refine ⟨ret_bool (by rw [e1]; rfl), ?_⟩
            rw [e2]
            have hfin := (hh.heap (w' := wc.drewN n') rfl).setWord i (2 ^ (pos % 64))
            have eP : P3 = missP rn rs P row pos (m + 1) := by
              rw [HP3.out, HP2.out, List.set_set, HNUM.out, HRUN.out]
              unfold missP
              rw [← HR.out, ← HP1.out, getD_of hL]
            rw [eP, HI.out] at hfin
            rw [HI.out]
            exact ⟨_, _, _, hfin, (below_drewN hb n').setCell hgB _⟩
    · have hf : ∃ pa C, pv' = .slice pa (P.length + R') C := by
        rcases hh.hp.2 with ⟨rfl, h2⟩ | ⟨g, cap, cur, rfl, _⟩
        · exact ⟨none, 0, by rw [← hlenP, h2]⟩
        · exact ⟨_, cap, by rw [hlenP]⟩
      obtain ⟨pa, C, rfl⟩ := hf
      have hle : P.length + R' ≤ row := by omega
      go_wp2_with (at_builtin; refine wpList_append_own _ rfl (.tmp 27) (.tmp 28) 31 rfl B 37 i37 (.slice none 0 0) 1 24 Try.underlying31 hi hz0 hz1 hz2 rfl (by decide) _ _ _ rfl (hh.hp.alloc _) ⟨wr.heap.size, 0, none⟩ 1 1 [.slice none 0 0] rfl rfl ?c1 ?c2 ?c3 ?c4 ?c5 ?_)
      case c1 => exact one_new _ _ _
      case c2 => intro u hu; simp at hu; subst hu; rfl
      case c3 => rw [hlenP]; unfold maxLen; omega
      case c4 => rw [hlenP]; omega
      case c5 => have := hh.size; simp; omega
      intro v' w1 hown' hgrow _
      have ha := hh.alloc (.cells #[.slice none 0 0] 37)
      have hba : Below B w (wr.alloc (.cells #[.slice none 0 0] 37)) := hb.alloc hh.size _
      obtain ⟨s1, s2⟩ := ha.sP hgrow
      obtain ⟨g', cap', rfl, _⟩ := own_form hown' (by omega)
      have hfin := ha.setPages (by rw [hlenP]; exact hown') hgrow
      have hbel := ha.belP hba hgrow (.slice (some ⟨g', 0, none⟩) (P.length + R' + 1) cap')
      clear ha hba hown' hgrow hh hb c0
      go_wp2_with fail
      go_roundg (gk - 1)
      case measure => omega
      case rel => exact ⟨R' + 1, _, _, by rw [List.replicate_succ', ← List.append_assoc]; exact hfin, hbel, by omega⟩
end Go.Proofs.Qxb6600375a
