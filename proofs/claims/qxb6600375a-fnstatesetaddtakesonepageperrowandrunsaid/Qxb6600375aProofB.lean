/- The law FnStateSetAddTakesOnePagePerRowAndRun: the frame is the seat's shell; the walk is by contracts. -/
import Derived.Test.Qxb6600375aRows
import Derived.WalkKit
import Derived.ProofKit
import Derived.OpenShut
import Derived.ShutString
import Derived.ChangeOld
import Derived.Below
import Derived.Test.Qxb6600375aLoopB
namespace Go.Proofs.Qxb6600375a.fnStateSetAddTakesOnePagePerRowAndRun
open Go.ChangeShapes Go.WideShapes Go.ChangeAt Go.RowKit
open Go.ChangeMaps (open_string shut_string)
set_option linter.unusedVariables false

theorem own : ownKnob Try.prog.godebug = none := by kernel_rfl
theorem laidOut : laidOutB Try.prog = true := by kernel_rfl

/-- WHAT THE WALK IS TOLD OF A SLICE OF INTEGERS THAT CAME IN: it is nil; or it leads to a row of 'cap' cells, the numbers 'zs' (the first 'len' are its elements, the rest its spare room), each fitting its kind. -/
def IsRow (k : IntKind) (w : World) (a : Option Addr) (len cap : Nat) (zs : List Int) : Prop :=
  (a = none ∧ len = 0 ∧ cap = 0 ∧ zs = []) ∨
  ∃ x, a = some x ∧ len ≤ cap ∧ cap ≤ maxLen ∧ zs.length = cap ∧ (∀ i, i < zs.length → w.cell? (x.add i) = some (.int k (zs.getD i 0))) ∧ ∀ n ∈ zs, (Lit.int k n).wf = true

/-! ### STEP 1: THE WALK: the Go text returns true, AND WRITES NOTHING THAT WAS THERE: 'Below w.heap.size w w'' (Derived/Below.lean: '.refl', '.alloc', '.drew', '.setCell' at a new block, '.trans'). Open each 'IsRow' by 'rcases' AHEAD of 'go_enter'; part every test ahead of the walk. -/
theorem walk (a0 : Option Addr) (len0 cap0 : Nat) (z0 : List Int) (a1 : Option Addr) (len1 cap1 : Nat) (z1 : List Int) (a2 : Int) (a3 : Int) (a4 : Int) (w : World) (w0 : IsRow .i64 w a0 len0 cap0 z0) (w1 : IsRow .i64 w a1 len1 cap1 z1) (w2 : (Lit.int .i64 a2).wf = true) (w3 : (Lit.int .i64 a3).wf = true) (w4 : (Lit.int .i64 a4).wf = true) :
    Calls Try.prog 4 #[.slice a0 len0 cap0, .slice a1 len1 cap1, .int .i64 a2, .int .i64 a3, .int .i64 a4] w fun e w' => e = .returned (.bool true) ∧ Below w.heap.size w w' := by
  by_cases hA : 1048576 < (len0 : Int)
  · go_enter Try.func4, Try.ntmps4
    go_wp2
    go_ret
    exact ⟨rfl, Below.refl _ _⟩
  by_cases hB1 : 1048576 < (len1 : Int)
  · go_enter Try.func4, Try.ntmps4
    go_wp2
    go_ret
    exact ⟨rfl, Below.refl _ _⟩
  by_cases hB : 1048576 < (len0 : Int) + (len1 : Int)
  · go_enter Try.func4, Try.ntmps4
    go_wp2
    go_ret
    exact ⟨rfl, Below.refl _ _⟩
  by_cases hC : 131072 < (len0 : Int)
  · go_enter Try.func4, Try.ntmps4
    go_wp2
    go_ret
    exact ⟨rfl, Below.refl _ _⟩
  by_cases hD : 131072 < (len1 : Int)
  · go_enter Try.func4, Try.ntmps4
    go_wp2
    go_ret
    exact ⟨rfl, Below.refl _ _⟩
  by_cases hE : 1048576 < 8 * (len0 : Int) + 8 * (len1 : Int)
  · go_enter Try.func4, Try.ntmps4
    go_wp2
    go_ret
    exact ⟨rfl, Below.refl _ _⟩
  have hl0 : len0 ≤ 131072 := by omega
  have hl1 : len1 ≤ 131072 := by omega
  have hsum : 8 * (len0 : Int) + 8 * (len1 : Int) ≤ 1048576 := by omega
  clear hA hB1 hB hC hD hE
  by_cases hG : GeoOk a2 a3 a4
  · obtain ⟨ps, rfl⟩ := Int.eq_ofNat_of_zero_le hG.1
    obtain ⟨rs, rfl⟩ := Int.eq_ofNat_of_zero_le hG.2.2.1
    obtain ⟨rn, rfl⟩ := Int.eq_ofNat_of_zero_le (show 0 ≤ a4 from by have := hG.2.2.2.2.1; omega)
    by_cases hz : len0 = 0 ∨ len1 = 0
    · have F := fits_zero a0 a1 len0 cap0 len1 cap1 ps rs rn w hl0 hl1 hG hz
      clear hG
      go_enter Try.func4, Try.ntmps4
      go_wp2_with (first | (go_at_call 9; go_in))
      refine F.mono ?_
      clear F
      rintro e w ⟨rfl, rfl⟩
      go_wp2_with fail
      refine (new_calls _ _ _ _).mono ?_
      rintro e w0 ⟨rfl, rfl⟩
      go_wp2_with fail
      refine wp_loop_rounds 1 ?_
      rw [rounds_succ]
      go_wp2_with fail
      go_ret
      exact ⟨rfl, (Below.refl _ _).alloc (Nat.le_refl _) _⟩
    · rcases w0 with ⟨_, h0, _, _⟩ | ⟨x0, rfl, hlc0, hm0, hz0, hcell0, hwz0⟩
      · exact absurd (Or.inl h0) hz
      rcases w1 with ⟨_, h0, _, _⟩ | ⟨x1, rfl, hlc1, hm1, hz1, hcell1, hwz1⟩
      · exact absurd (Or.inr h0) hz
      obtain ⟨b0, o0, s0⟩ := x0
      obtain ⟨b1, o1, s1⟩ := x1
      have hs0 : s0 = none := by simpa [Addr.add] using World.cell?_spot (hcell0 0 (by omega))
      have hs1 : s1 = none := by simpa [Addr.add] using World.cell?_spot (hcell1 0 (by omega))
      subst hs0
      subst hs1
      have hb0 : b0 < w.heap.size := World.block_lt_of_cell? w _ (hcell0 0 (by omega))
      have hb1 : b1 < w.heap.size := World.block_lt_of_cell? w _ (hcell1 0 (by omega))
      have hr : ∀ i, i < len0 → w.cell? ⟨b0, o0 + i, none⟩ = some (.int .i64 (z0.getD i 0)) := fun i hi => by rw [← hcell0 i (by omega), Addr.add_lit]
      have hp : ∀ i, i < len1 → w.cell? ⟨b1, o1 + i, none⟩ = some (.int .i64 (z1.getD i 0)) := fun i hi => by rw [← hcell1 i (by omega), Addr.add_lit]
      have F := fits_pos b0 o0 b1 o1 len0 cap0 len1 cap1 ps rs rn (fun i => z0.getD i 0) (fun i => z1.getD i 0) w hl0 hl1 hG hr hp (min len0 len1) rfl
      obtain ⟨g1, g2, g3, g4, g5, g6⟩ := hG
      exact lawB_pos b0 o0 b1 o1 len0 cap0 len1 cap1 ps rs rn (min len0 len1) (fun i => z0.getD i 0) (fun i => z1.getD i 0) w hl0 hl1 (by omega) (by omega) hb0 hb1 (fun i hi => hr i (by omega)) (fun i hi => hp i (by omega)) F (by omega) (by omega) (by omega) (by omega) hsum
  · have b2 := bounds_i64 w2
    have F := fits_bad a0 a1 len0 cap0 len1 cap1 a2 a3 a4 w hl0 hl1 hG b2.1 b2.2
    clear hG b2
    go_enter Try.func4, Try.ntmps4
    go_wp2_with (first | (go_at_call 9; go_in))
    refine F.mono ?_
    clear F
    rintro e w ⟨rfl, rfl⟩
    go_wp2_with fail
    go_ret
    exact ⟨rfl, Below.refl _ _⟩

/-! ### THE ROW's STEP: WRITTEN OUT: LEAVE IT -/
set_option maxRecDepth 100000 in
theorem lifted (os : Os) (started : os.Started) (H : Type) (enc : TypeId × Value → H) :
    ReturnsInHanded {} Try.checked os 4 .any (Rows.fnStateSetAddTakesOnePagePerRowAndRunSpec.pre6 enc Try.prog Try.f4 Rows.fnStateSetAddTakesOnePagePerRowAndRunRow.domain false) (Rows.fnStateSetAddTakesOnePagePerRowAndRunSpec.post enc Try.prog Try.f4 false true false false) := by
  refine returnsInHanded_of_change (C := Try.checked) own started (by kernel_rfl) Try.func4
    (ChangeSpec.witness6 (enc := enc) (C := Try.checked) false ⟨#[], #[.slice none 0 0, .slice none 0 0, .int .i64 0, .int .i64 0, .int .i64 0], []⟩ 8 (by kernel_rfl) (by kernel_rfl) (by kernel_rfl) (by kernel_rfl)) ?_
  intro W base args ds gs before hval0 hW hcnd _
  have hval : ∀ (j : Nat) t v, Try.f4.params[j]? = some t → args[j]? = some v → Value.okWide Try.prog W .any base t v := hval0
  have hW' := hW
  obtain ⟨p, q, hA0, hV, rfl, hfz, hnd⟩ := hW
  have hA : DataW.TrodAll enc Try.prog W 0 (fun _ => true) true Try.f4.params.toList args.toList ds p := hA0
  rw [Try.params4] at hA hval
  obtain ⟨v0, vs0, d0, ds0, p0, q0, hargs, rfl, rfl, h0, r0⟩ := trodAll_cons hA
  obtain ⟨v1, vs1, d1, ds1, p1, q1, rfl, rfl, rfl, h1, r1⟩ := trodAll_cons r0
  obtain ⟨v2, vs2, d2, ds2, p2, q2, rfl, rfl, rfl, h2, r2⟩ := trodAll_cons r1
  obtain ⟨v3, vs3, d3, ds3, p3, q3, rfl, rfl, rfl, h3, r3⟩ := trodAll_cons r2
  obtain ⟨v4, vs4, d4, ds4, p4, q4, rfl, rfl, rfl, h4, r4⟩ := trodAll_cons r3
  obtain ⟨rfl, rfl, rfl⟩ := trodAll_nil r4
  obtain rfl : args = #[v0, v1, v2, v3, v4] := by cases args; simp_all
  obtain ⟨rfl, rfl⟩ := trodVars_none hV
  obtain ⟨a0, len0, cap0, rfl⟩ := okWide_slice Try.underlying22 (hval 0 22 v0 rfl rfl)
  have k0 := h0
  have lt0 : ∀ x ∈ p0, x.block < W.heap.size := by obtain ⟨m, hm⟩ := k0; exact DataW.trod_lt m _ _ _ hm
  obtain ⟨z0, w0⟩ : ∃ zs, IsRow .i64 W a0 len0 cap0 zs := by
    obtain ⟨fuel, hf⟩ := h0
    rcases open_ints Try.underlying22 Try.underlying3 (by kernel_rfl) hf with ⟨hcs, _⟩ | ⟨x, l, c, zs, hcs, _, hl, hm, hz, _, hcell, hwz⟩
    · simp [Value.cells] at hcs
      obtain ⟨rfl, rfl, rfl⟩ := hcs
      exact ⟨[], .inl ⟨rfl, rfl, rfl, rfl⟩⟩
    · simp [Value.cells] at hcs
      obtain ⟨rfl, rfl, rfl⟩ := hcs
      exact ⟨zs, .inr ⟨_, rfl, hl, hm, by simpa using hz, hcell, hwz⟩⟩
  obtain ⟨a1, len1, cap1, rfl⟩ := okWide_slice Try.underlying22 (hval 1 22 v1 rfl rfl)
  have k1 := h1
  have lt1 : ∀ x ∈ p1, x.block < W.heap.size := by obtain ⟨m, hm⟩ := k1; exact DataW.trod_lt m _ _ _ hm
  obtain ⟨z1, w1⟩ : ∃ zs, IsRow .i64 W a1 len1 cap1 zs := by
    obtain ⟨fuel, hf⟩ := h1
    rcases open_ints Try.underlying22 Try.underlying3 (by kernel_rfl) hf with ⟨hcs, _⟩ | ⟨x, l, c, zs, hcs, _, hl, hm, hz, _, hcell, hwz⟩
    · simp [Value.cells] at hcs
      obtain ⟨rfl, rfl, rfl⟩ := hcs
      exact ⟨[], .inl ⟨rfl, rfl, rfl, rfl⟩⟩
    · simp [Value.cells] at hcs
      obtain ⟨rfl, rfl, rfl⟩ := hcs
      exact ⟨zs, .inr ⟨_, rfl, hl, hm, by simpa using hz, hcell, hwz⟩⟩
  obtain ⟨a2, rfl, rfl, rfl, w2⟩ := open_int Try.underlying3 (hval 2 3 v2 rfl rfl) h2
  obtain ⟨a3, rfl, rfl, rfl, w3⟩ := open_int Try.underlying3 (hval 3 3 v3 rfl rfl) h3
  obtain ⟨a4, rfl, rfl, rfl, w4⟩ := open_int Try.underlying3 (hval 4 3 v4 rfl rfl) h4
  clear hA0 hval0
  refine (walk a0 len0 cap0 z0 a1 len1 cap1 z1 a2 a3 a4 W w0 w1 w2 w3 w4).mono fun e W' ⟨he, bel⟩ => ?_
  subst he
  exact ⟨_, rfl, _, _, _, [], _, [], hW', trodAll_mk1 (shut_bool Try.underlying4 _), (trodAll_cons_mk (Below.trod laidOut (by kernel_rfl) (of_decide_eq_true (by kernel_rfl)) k0 bel lt0) (trodAll_cons_mk (Below.trod laidOut (by kernel_rfl) (of_decide_eq_true (by kernel_rfl)) k1 bel lt1) (trodAll_cons_mk (shut_int Try.underlying3 w2) (trodAll_cons_mk (shut_int Try.underlying3 w3) (trodAll_cons_mk (shut_int Try.underlying3 w4) trodAll_mk0))))), rfl, bel.frame _, fun h => by cases h⟩

theorem over : Rows.fnStateSetAddTakesOnePagePerRowAndRunRow.holds Try.pinned (OpenSpec.ofChange Rows.fnStateSetAddTakesOnePagePerRowAndRunSpec) :=
  OpenClaim.holds_of_wide 4 Try.f4 rfl rfl rfl rfl rfl rfl rfl ⟨rfl, rfl, rfl, rfl, rfl⟩ rfl rfl rfl rfl rfl (by kernel_rfl) Try.func4 (by kernel_rfl)
    (of_decide_eq_true (by kernel_rfl)) (by unfold Func.isWrapper; first | (rw [if_pos (by decide +kernel)]; kernel_rfl) | (rw [if_neg (by decide +kernel)]; exact ⟨rfl, rfl⟩))
    (fun os started H enc _ => lifted os started H enc)

/-- ████ THE STATEMENT ████ -/
theorem proved : Rows.FnStateSetAddTakesOnePagePerRowAndRunSaid := over
end Go.Proofs.Qxb6600375a.fnStateSetAddTakesOnePagePerRowAndRun
