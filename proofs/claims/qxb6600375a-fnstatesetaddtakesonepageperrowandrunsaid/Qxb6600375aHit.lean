/- add where a page holds the state; ZZNewStateSet; ZZStateSetSizes. -/
import Derived.Test.Qxb6600375aWords
namespace Go.Proofs.Qxb6600375a
open Go.RowKit
set_option linter.unusedVariables false

theorem ret_bool' {a b : Bool} (h : a = b) : Ending.returned (.bool a) = .returned (.bool b) := by rw [h]

set_option maxHeartbeats 400000 in
theorem add_hit (B S ps rs rn : Nat) (P : List (List Nat)) (W : List Nat) (row pos k x : Nat) (w : World) (pv wv : Value) (PV : List Value) (h : Holds w B S ps rs rn P W pv wv PV)
    (hps : ps ≤ 6) (hrs : rs ≤ 12) (hrn : 1 ≤ rn) (hrn2 : rn ≤ 65536) (hP : P.length ≤ 65537) (hr : row ≤ 65536) (hpos : pos ≤ 1000000000) (hrun : pos / 2 ^ rs < rn) (hn : (P.getD row []).getD (pos / 2 ^ rs) 0 = k + 1) (hk : k ≤ 8192)
    (hWl : W.length ≤ 1000000) (hx : W[idx ps k pos]? = some x) (hx2 : x < 18446744073709551616) :
    Calls Try.prog 11 #[.pointer (some ⟨S, 0, none⟩), .int .i64 row, .int .i64 pos] w fun e w' => e = .returned (.bool (x &&& 2 ^ (pos % 64) == 0)) ∧ ∃ pv' wv' PV', Holds w' B S ps rs rn P (W.set (idx ps k pos) (x ||| 2 ^ (pos % 64))) pv' wv' PV' ∧ Below B w w' := by
  have W1 := word_hit B S ps rs rn P W row pos k w pv wv PV h hps hrs hrn hrn2 hP hr hpos hrun hn hk
  obtain ⟨i, hid⟩ : ∃ i, i = idx ps k pos := ⟨_, rfl⟩
  rw [← hid] at W1 hx ⊢
  have hil : i < W.length := (List.getElem?_eq_some_iff.1 hx).1
  obtain ⟨gw, cw, rfl, hgB⟩ := own_form h.hw (by omega)
  obtain ⟨c0, c1, c2, c3, c4⟩ := h.cell
  have hcx := h.hw.cellAt i (by omega)
  have hfx := h.hw.frozenAt i
  rw [List.getElem?_map, hx, Option.map_some] at hcx
  clear hn hid hx hrun
  go_enter Try.func11, Try.ntmps11
  go_wp2_with fail
  refine W1.mono ?_
  clear W1
  rintro e w' ⟨rfl, n', rfl⟩
  go_wp2_with fail
  go_ret
  have hb : pos % 64 < 64 := Nat.mod_lt _ (by decide)
  refine ⟨ret_bool' (by rw [and_bit hx2 hb]; exact cast_eq0 _), ?_⟩
  rw [or_bit hx2 hb]
  exact ⟨_, _, _, (h.heap (w' := w.drewN n') rfl).setWord i _, (below_drewN (Below.refl _ _) n').setCell hgB _⟩

theorem new_calls (ps rs rn : Nat) (w : World) :
    Calls Try.prog 7 #[.int .i64 ps, .int .i64 rs, .int .i64 rn] w fun e w' => e = .returned (.pointer (some ⟨w.heap.size, 0, none⟩)) ∧ w' = w.alloc (.cells #[.slice none 0 0, .slice none 0 0, .int .i64 ps, .int .i64 rs, .int .i64 rn] 34) := by
  go_enter Try.func7, Try.ntmps7
  go_wp2
  go_ret
  exact ⟨rfl, rfl⟩

theorem new_holds (ps rs rn : Nat) (w : World) : Holds (w.alloc (.cells #[.slice none 0 0, .slice none 0 0, .int .i64 ps, .int .i64 rs, .int .i64 rn] 34)) w.heap.size w.heap.size ps rs rn [] [] (.slice none 0 0) (.slice none 0 0) [] :=
  ⟨heap_alloc_new w _, Nat.le_refl _, World.ownsRow_nil _ _ _ _, World.ownsRow_nil _ _ _ _, fun r L v a _ => by simp at a, fun r r' v v' g _ a _ => by simp at a⟩

theorem sizes_calls (B S ps rs rn : Nat) (P : List (List Nat)) (W : List Nat) (w : World) (pv wv : Value) (PV : List Value) (h : Holds w B S ps rs rn P W pv wv PV) :
    Calls Try.prog 10 #[.pointer (some ⟨S, 0, none⟩)] w fun e w' => e = .returned (.tuple #[.int .i64 P.length, .int .i64 W.length]) ∧ ∃ n, w' = w.drewN n := by
  obtain ⟨c0, c1, c2, c3, c4⟩ := h.cell
  have hf : ∀ {e n : Nat} {v : Value} {xs : List Value}, w.ownsRow B e 1 v n xs → ∃ pa C, v = .slice pa n C := by
    intro e n v xs ho
    rcases ho.2 with ⟨rfl, h2⟩ | ⟨g, cap, cur, rfl, _⟩
    · exact ⟨none, 0, by rw [h2]⟩
    · exact ⟨_, _, rfl⟩
  obtain ⟨pa, C, rfl⟩ := hf h.hp
  obtain ⟨wa, D, rfl⟩ := hf h.hw
  clear h hf
  go_enter Try.func10, Try.ntmps10
  go_wp2
  go_quiet (fail)
  go_wp2
  go_ret2
  exact ⟨rfl, _, rfl⟩
end Go.Proofs.Qxb6600375a
