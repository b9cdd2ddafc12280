/- The law FnSpanMatchesModel: the frame is the seat's shell; the walk is by contracts. -/
import Derived.Test.Qxb6601149aRows
import Derived.WalkKit
import Derived.ProofKit
import Derived.OpenShut
import Derived.ShutString
import Derived.ChangeOld
import Derived.Below
import Derived.Test.Qxb6601149aClone
import Derived.Test.Qxb6601149aSpan
namespace Go.Proofs.Qxb6601149a.fnSpanMatchesModel
open Go.ChangeShapes Go.WideShapes Go.ChangeAt Go.RowKit
open Go.ChangeMaps (open_string shut_string)
set_option linter.unusedVariables false

theorem ret_true {a : Bool} (h : a = true) : Ending.returned (.bool a) = .returned (.bool true) := by rw [h]

theorem own : ownKnob Try.prog.godebug = none := by kernel_rfl
theorem laidOut : laidOutB Try.prog = true := by kernel_rfl

/-- WHAT THE WALK IS TOLD OF A SLICE OF INTEGERS THAT CAME IN: it is nil; or it leads to a row of 'cap' cells, the numbers 'zs' (the first 'len' are its elements, the rest its spare room), each fitting its kind. -/
def IsRow (k : IntKind) (w : World) (a : Option Addr) (len cap : Nat) (zs : List Int) : Prop :=
  (a = none ∧ len = 0 ∧ cap = 0 ∧ zs = []) ∨
  ∃ x, a = some x ∧ len ≤ cap ∧ cap ≤ maxLen ∧ zs.length = cap ∧ (∀ i, i < zs.length → w.cell? (x.add i) = some (.int k (zs.getD i 0))) ∧ ∀ n ∈ zs, (Lit.int k n).wf = true

/-! ### STEP 1: THE WALK: the Go text returns true, AND WRITES NOTHING THAT WAS THERE: 'Below w.heap.size w w'' (Derived/Below.lean: '.refl', '.alloc', '.drew', '.setCell' at a new block, '.trans'). Open each 'IsRow' by 'rcases' AHEAD of 'go_enter'; part every test ahead of the walk. -/
theorem walk (a0 : Option Addr) (len0 cap0 : Nat) (z0 : List Int) (w : World) (w0 : IsRow .u8 w a0 len0 cap0 z0) :
    Calls Try.prog 7 #[.slice a0 len0 cap0] w fun e w' => e = .returned (.bool true) ∧ Below w.heap.size w w' := by
  by_cases hbig : 1048576 < len0
  · go_enter Try.func7, Try.ntmps7
    go_wp2
    go_ret
    exact ⟨rfl, Below.refl _ _⟩
  have hs : len0 ≤ 1048576 := by omega
  clear hbig
  rcases w0 with ⟨rfl, rfl, rfl, rfl⟩ | ⟨x, rfl, hl, hm, hz, hcell, hwz⟩
  · go_enter Try.func7, Try.ntmps7
    go_wp2_with (first | (go_at_call 22; go_in) | (go_at_call 10; refine (clone_nil _).mono ?_; rintro e w' ⟨rfl, rfl⟩) | (go_at_call 18; refine (span_empty _ _ _).mono ?_; rintro e w' ⟨rfl, rfl⟩) | (go_at_call 23; refine (model_empty _ _ _).mono ?_; rintro e w' ⟨rfl, rfl⟩))
    go_ret
    exact ⟨rfl, Below.refl _ _⟩
  · have hco : Hid (∀ w1 : World, w1.heap[w.heap.size]? = some (.cells ((z0.take len0).map (Value.int .u8)).toArray 5 (0, 0)) → ∀ i, i < len0 → w1.cell? ⟨w.heap.size, i, none⟩ = some (.int .u8 (z0.getD i 0))) := by
      intro w1 hg i hi
      rw [cell_of_row w1 w.heap.size i _ 5 (0, 0) hg]
      simp [hi, List.getD_eq_getElem?_getD, List.getElem?_eq_getElem (show i < z0.length by omega)]
    by_cases h0 : len0 = 0
    · subst h0
      go_enter Try.func7, Try.ntmps7
      go_wp2_with (first | (go_at_call 22; go_in) | (go_at_call 10; refine (clone_some x 0 cap0 z0 _ hl hs hz hcell).mono ?_; rintro e w1 ⟨rfl, hg, hb⟩))
      clear hg
      refine (span_empty _ _ _).mono ?_
      rintro e w' ⟨rfl, rfl⟩
      go_wp2_with fail
      refine (model_empty _ _ _).mono ?_
      rintro e w' ⟨rfl, rfl⟩
      go_wp2_with fail
      go_ret
      exact ⟨rfl, hb⟩
    · have hpos : 0 < len0 := by omega
      by_cases ho : Opens (z0.getD 0 0)
      · have HO := hideIt ho
        clear ho h0
        go_enter Try.func7, Try.ntmps7
        go_wp2_with (first | (go_at_call 22; go_in) | (go_at_call 10; refine (clone_some x len0 cap0 z0 _ hl hs hz hcell).mono ?_; rintro e w1 ⟨rfl, hg, hb⟩))
        have hlt : w.heap.size < w1.heap.size := (Array.getElem?_eq_some_iff.1 hg).1
        have S := span_open w.heap.size len0 len0 (fun i => z0.getD i 0) w1 hs hpos (hco.out w1 hg) HO.out
        have M := hideIt (model_open w.heap.size len0 len0 (fun i => z0.getD i 0) w1 hs hpos hlt (hco.out w1 hg) HO.out)
        clear hg hcell
        refine S.mono ?_
        clear S
        rintro e w' ⟨⟨a, ha, rfl⟩, rfl⟩
        have HA := hideIt ha
        clear ha
        obtain ⟨va, hva⟩ : ∃ va : Int, va = if a < 0 then 0 else a := ⟨_, rfl⟩
        rw [← hva]
        have HV := hideIt hva
        clear hva
        go_wp2_with fail
        refine M.out.mono ?_
        rintro e w2 ⟨⟨c, hc, rfl⟩, hb2⟩
        have hac := ans_one HA.out hc
        subst hac
        rw [← HV.out]
        clear hc M
        go_wp2_with fail
        go_ret
        exact ⟨ret_true (by simp), hb.trans (hb2.mono (by omega))⟩
      · have HO := hideIt ho
        clear ho h0
        go_enter Try.func7, Try.ntmps7
        go_wp2_with (first | (go_at_call 22; go_in) | (go_at_call 10; refine (clone_some x len0 cap0 z0 _ hl hs hz hcell).mono ?_; rintro e w1 ⟨rfl, hg, hb⟩))
        have c0 := hideIt (hco.out w1 hg 0 hpos)
        clear hg hcell
        refine (span_none w.heap.size len0 len0 (z0.getD 0 0) w1 hs hpos c0.out HO.out).mono ?_
        rintro e w' ⟨rfl, rfl⟩
        go_wp2_with fail
        refine (model_none w.heap.size len0 len0 (z0.getD 0 0) _ hs hpos c0.out HO.out).mono ?_
        rintro e w' ⟨rfl, rfl⟩
        go_wp2_with fail
        go_ret
        exact ⟨rfl, hb⟩

/-! ### THE ROW's STEP: WRITTEN OUT: LEAVE IT -/
set_option maxRecDepth 100000 in
theorem lifted (os : Os) (started : os.Started) (H : Type) (enc : TypeId × Value → H) :
    ReturnsInHanded {} Try.checked os 7 .any (Rows.fnSpanMatchesModelSpec.pre6 enc Try.prog Try.f7 Rows.fnSpanMatchesModelRow.domain false) (Rows.fnSpanMatchesModelSpec.post enc Try.prog Try.f7 false true false false) := by
  refine returnsInHanded_of_change (C := Try.checked) own started (by kernel_rfl) Try.func7
    (ChangeSpec.witness6 (enc := enc) (C := Try.checked) false ⟨#[], #[.slice none 0 0], []⟩ 8 (by kernel_rfl) (by kernel_rfl) (by kernel_rfl) (by kernel_rfl)) ?_
  intro W base args ds gs before hval0 hW hcnd _
  have hval : ∀ (j : Nat) t v, Try.f7.params[j]? = some t → args[j]? = some v → Value.okWide Try.prog W .any base t v := hval0
  have hW' := hW
  obtain ⟨p, q, hA0, hV, rfl, hfz, hnd⟩ := hW
  have hA : DataW.TrodAll enc Try.prog W 0 (fun _ => true) true Try.f7.params.toList args.toList ds p := hA0
  rw [Try.params7] at hA hval
  obtain ⟨v0, vs0, d0, ds0, p0, q0, hargs, rfl, rfl, h0, r0⟩ := trodAll_cons hA
  obtain ⟨rfl, rfl, rfl⟩ := trodAll_nil r0
  obtain rfl : args = #[v0] := by cases args; simp_all
  obtain ⟨rfl, rfl⟩ := trodVars_none hV
  obtain ⟨a0, len0, cap0, rfl⟩ := okWide_slice Try.underlying22 (hval 0 22 v0 rfl rfl)
  have k0 := h0
  have lt0 : ∀ x ∈ p0, x.block < W.heap.size := by obtain ⟨m, hm⟩ := k0; exact DataW.trod_lt m _ _ _ hm
  obtain ⟨z0, w0⟩ : ∃ zs, IsRow .u8 W a0 len0 cap0 zs := by
    obtain ⟨fuel, hf⟩ := h0
    rcases open_ints Try.underlying22 Try.underlying5 (by kernel_rfl) hf with ⟨hcs, _⟩ | ⟨x, l, c, zs, hcs, _, hl, hm, hz, _, hcell, hwz⟩
    · simp [Value.cells] at hcs
      obtain ⟨rfl, rfl, rfl⟩ := hcs
      exact ⟨[], .inl ⟨rfl, rfl, rfl, rfl⟩⟩
    · simp [Value.cells] at hcs
      obtain ⟨rfl, rfl, rfl⟩ := hcs
      exact ⟨zs, .inr ⟨_, rfl, hl, hm, by simpa using hz, hcell, hwz⟩⟩
  clear hA0 hval0
  refine (walk a0 len0 cap0 z0 W w0).mono fun e W' ⟨he, bel⟩ => ?_
  subst he
  exact ⟨_, rfl, _, _, _, [], _, [], hW', trodAll_mk1 (shut_bool Try.underlying4 _), (trodAll_cons_mk (Below.trod laidOut (by kernel_rfl) (of_decide_eq_true (by kernel_rfl)) k0 bel lt0) trodAll_mk0), rfl, bel.frame _, fun h => by cases h⟩

theorem over : Rows.fnSpanMatchesModelRow.holds Try.pinned (OpenSpec.ofChange Rows.fnSpanMatchesModelSpec) :=
  OpenClaim.holds_of_wide 7 Try.f7 rfl rfl rfl rfl rfl rfl rfl ⟨rfl, rfl, rfl, rfl, rfl⟩ rfl rfl rfl rfl rfl (by kernel_rfl) Try.func7 (by kernel_rfl)
    (of_decide_eq_true (by kernel_rfl)) (by unfold Func.isWrapper; first | (rw [if_pos (by decide +kernel)]; kernel_rfl) | (rw [if_neg (by decide +kernel)]; exact ⟨rfl, rfl⟩))
    (fun os started H enc _ => lifted os started H enc)

/-- ████ THE STATEMENT ████ -/
theorem proved : Rows.FnSpanMatchesModelSaid := over
end Go.Proofs.Qxb6601149a.fnSpanMatchesModel
