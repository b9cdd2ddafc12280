/- The law FnShortHeaderAgreesWithDecimal: the frame is the seat's shell; the walk is by contracts. -/
import Derived.Test.Qxb6600336aRows
import Derived.WalkKit
import Derived.ProofKit
import Derived.OpenShut
import Derived.ShutString
import Derived.ChangeOld
import Derived.Below
import Derived.Test.Qxb6600336aClone
import Derived.Test.Qxb6600336aBoth
namespace Go.Proofs.Qxb6600336a.fnShortHeaderAgreesWithDecimal
open Go.ChangeShapes Go.WideShapes Go.ChangeAt Go.RowKit
open Go.ChangeMaps (open_string shut_string)
set_option linter.unusedVariables false

theorem hideIt {p : Prop} (h : p) : Hid p := h

theorem own : ownKnob Try.prog.godebug = none := by kernel_rfl
theorem laidOut : laidOutB Try.prog = true := by kernel_rfl

/-- WHAT THE WALK IS TOLD OF A SLICE OF INTEGERS THAT CAME IN: it is nil; or it leads to a row of 'cap' cells, the numbers 'zs' (the first 'len' are its elements, the rest its spare room), each fitting its kind. -/
def IsRow (k : IntKind) (w : World) (a : Option Addr) (len cap : Nat) (zs : List Int) : Prop :=
  (a = none ∧ len = 0 ∧ cap = 0 ∧ zs = []) ∨
  ∃ x, a = some x ∧ len ≤ cap ∧ cap ≤ maxLen ∧ zs.length = cap ∧ (∀ i, i < zs.length → w.cell? (x.add i) = some (.int k (zs.getD i 0))) ∧ ∀ n ∈ zs, (Lit.int k n).wf = true

/-! ### STEP 1: THE WALK: the Go text returns true, AND WRITES NOTHING THAT WAS THERE: 'Below w.heap.size w w'' (Derived/Below.lean: '.refl', '.alloc', '.drew', '.setCell' at a new block, '.trans'). Open each 'IsRow' by 'rcases' AHEAD of 'go_enter'; part every test ahead of the walk. -/
theorem walk (a0 : Option Addr) (len0 cap0 : Nat) (z0 : List Int) (a1 : Int) (a2 : Int) (w : World) (w0 : IsRow .u8 w a0 len0 cap0 z0) (w1 : (Lit.int .i64 a1).wf = true) (w2 : (Lit.int .u8 a2).wf = true) :
    Calls Try.prog 6 #[.slice a0 len0 cap0, .int .i64 a1, .int .u8 a2] w fun e w' => e = .returned (.bool true) ∧ Below w.heap.size w w' := by
  by_cases hbig : 1048576 < len0
  · go_enter Try.func6, Try.ntmps6
    go_wp2
    go_ret
    exact ⟨rfl, Below.refl _ _⟩
  have hs : len0 ≤ 1048576 := by omega
  clear hbig
  by_cases hlo : a1 < 0
  · go_enter Try.func6, Try.ntmps6
    go_wp2
    go_ret
    exact ⟨rfl, Below.refl _ _⟩
  by_cases hhi : 2097152 < a1
  · go_enter Try.func6, Try.ntmps6
    go_wp2
    go_ret
    exact ⟨rfl, Below.refl _ _⟩
  obtain ⟨n, rfl⟩ := Int.eq_ofNat_of_zero_le (show 0 ≤ a1 by omega)
  have hn : n ≤ 2097152 := by omega
  clear hlo hhi w1
  rcases w0 with ⟨rfl, rfl, rfl, rfl⟩ | ⟨x, rfl, hl, hm, hz, hcell, hwz⟩
  · go_enter Try.func6, Try.ntmps6
    go_wp2_with (first | (go_at_call 15; go_in) | (go_at_call 9; refine (clone_nil _).mono ?_; rintro e w' ⟨rfl, rfl⟩) | (go_at_call 16; refine (md_short _ _ _ _ _ _ hs hn (by omega)).mono ?_; rintro e w' ⟨rfl, rfl⟩) | (go_at_call 17; refine (sh_short _ _ _ _ _ _ hs hn (by omega)).mono ?_; rintro e w' ⟨rfl, rfl⟩))
    go_ret
    exact ⟨rfl, Below.refl _ _⟩
  · have hcellOf : ∀ w1 : World, w1.heap[w.heap.size]? = some (.cells ((z0.take len0).map (Value.int .u8)).toArray 5 (0, 0)) → ∀ i, i < len0 → w1.cell? ⟨w.heap.size, i, none⟩ = some (.int .u8 (z0.getD i 0)) := by
      intro w1 hg i hi
      rw [cell_of_row w1 w.heap.size i _ 5 (0, 0) hg]
      simp [hi, List.getD_eq_getElem?_getD, List.getElem?_eq_getElem (show i < z0.length by omega)]
    have hbd : ∀ i, 0 ≤ z0.getD i 0 ∧ z0.getD i 0 ≤ 255 := fun i => by
      have := range_u8 hwz i
      rwa [List.getD_eq_getElem?_getD]
    by_cases hsh : len0 ≤ n + 4
    · have hco : Hid (∀ w1 : World, w1.heap[w.heap.size]? = some (.cells ((z0.take len0).map (Value.int .u8)).toArray 5 (0, 0)) → ∀ i, i < len0 → w1.cell? ⟨w.heap.size, i, none⟩ = some (.int .u8 (z0.getD i 0))) := hcellOf
      clear hcellOf
      go_enter Try.func6, Try.ntmps6
      go_wp2_with (first | (go_at_call 15; go_in) | (go_at_call 9; refine (clone_some x len0 cap0 z0 _ hl hs hz hcell).mono ?_; rintro e w1 ⟨rfl, hg, hb⟩))
      refine (md_short _ _ _ _ _ _ hs hn hsh).mono ?_
      rintro e w' ⟨rfl, rfl⟩
      go_wp2_with fail
      refine (sh_short _ _ _ _ _ _ hs hn hsh).mono ?_
      rintro e w' ⟨rfl, rfl⟩
      go_wp2_with fail
      go_ret
      exact ⟨rfl, hb⟩
    · have hn4 : n + 4 < len0 := by omega
      have hco : Hid (∀ w1 : World, w1.heap[w.heap.size]? = some (.cells ((z0.take len0).map (Value.int .u8)).toArray 5 (0, 0)) → ∀ i, i < len0 → w1.cell? ⟨w.heap.size, i, none⟩ = some (.int .u8 (z0.getD i 0))) := hcellOf
      clear hcellOf hsh
      by_cases hk : z0.getD n 0 = a2
      · have HK : Hid (z0.getD n 0 = a2) := hk
        have Hbd : Hid (∀ i, 0 ≤ z0.getD i 0 ∧ z0.getD i 0 ≤ 255) := hbd
        clear hk hbd
        go_enter Try.func6, Try.ntmps6
        go_wp2_with (first | (go_at_call 15; go_in) | (go_at_call 9; refine (clone_some x len0 cap0 z0 _ hl hs hz hcell).mono ?_; rintro e w1 ⟨rfl, hg, hb⟩))
        have C := hco.out w1 hg
        have C0 := C n (by omega)
        rw [HK.out] at C0
        have B := Hbd.out
        have M := md_any w.heap.size len0 len0 n a2 (z0.getD (n + 1) 0) (z0.getD (n + 2) 0) (z0.getD (n + 3) 0) (z0.getD (n + 4) 0) w1 hs hn hn4 (Nat.le_refl _) C0 (C _ (by omega)) (C _ (by omega)) (C _ (by omega)) (C _ (by omega)) (B _).1 (B _).2 (B _).1 (B _).2 (B _).1 (B _).2 (B _).1 (B _).2
        have S := sh_any w.heap.size len0 len0 n a2 (z0.getD (n + 1) 0) (z0.getD (n + 2) 0) (z0.getD (n + 3) 0) (z0.getD (n + 4) 0) w1 hs hn hn4 (Nat.le_refl _) C0 (C _ (by omega)) (C _ (by omega)) (C _ (by omega)) (C _ (by omega)) (B _).1 (B _).2 (B _).1 (B _).2 (B _).1 (B _).2 (B _).1 (B _).2
        generalize shOut (z0.getD (n + 1) 0) (z0.getD (n + 2) 0) (z0.getD (n + 3) 0) (z0.getD (n + 4) 0) n = pq at M S
        obtain ⟨p, q⟩ := pq
        have HS := hideIt S
        clear C B C0 S hcell
        refine M.mono ?_
        clear M
        rintro e w' ⟨rfl, rfl⟩
        go_wp2_with fail
        refine HS.out.mono ?_
        rintro e w' ⟨rfl, k, rfl⟩
        go_wp2_with fail
        go_ret
        exact ⟨rfl, below_drewN hb k⟩
      · have hne := ne_t hk
        have HK : Hid ((z0.getD n 0 != a2) = true) := hne
        clear hk hne hbd
        go_enter Try.func6, Try.ntmps6
        go_wp2_with (first | (go_at_call 15; go_in) | (go_at_call 9; refine (clone_some x len0 cap0 z0 _ hl hs hz hcell).mono ?_; rintro e w1 ⟨rfl, hg, hb⟩))
        have C0 := hco.out w1 hg n (by omega)
        refine (md_kind _ len0 len0 n (z0.getD n 0) a2 _ hs hn hn4 C0 HK.out).mono ?_
        rintro e w' ⟨rfl, rfl⟩
        have HC0 := hideIt C0
        clear C0
        go_wp2_with fail
        refine (sh_kind _ len0 len0 n (z0.getD n 0) a2 _ hs hn hn4 HC0.out HK.out).mono ?_
        rintro e w' ⟨rfl, rfl⟩
        go_wp2_with fail
        go_ret
        exact ⟨rfl, hb⟩

/-! ### THE ROW's STEP: WRITTEN OUT: LEAVE IT -/
set_option maxRecDepth 100000 in
theorem lifted (os : Os) (started : os.Started) (H : Type) (enc : TypeId × Value → H) :
    ReturnsInHanded {} Try.checked os 6 .any (Rows.fnShortHeaderAgreesWithDecimalSpec.pre6 enc Try.prog Try.f6 Rows.fnShortHeaderAgreesWithDecimalRow.domain false) (Rows.fnShortHeaderAgreesWithDecimalSpec.post enc Try.prog Try.f6 false true false false) := by
  refine returnsInHanded_of_change (C := Try.checked) own started (by kernel_rfl) Try.func6
    (ChangeSpec.witness6 (enc := enc) (C := Try.checked) false ⟨#[], #[.slice none 0 0, .int .i64 0, .int .u8 0], []⟩ 8 (by kernel_rfl) (by kernel_rfl) (by kernel_rfl) (by kernel_rfl)) ?_
  intro W base args ds gs before hval0 hW hcnd _
  have hval : ∀ (j : Nat) t v, Try.f6.params[j]? = some t → args[j]? = some v → Value.okWide Try.prog W .any base t v := hval0
  have hW' := hW
  obtain ⟨p, q, hA0, hV, rfl, hfz, hnd⟩ := hW
  have hA : DataW.TrodAll enc Try.prog W 0 (fun _ => true) true Try.f6.params.toList args.toList ds p := hA0
  rw [Try.params6] at hA hval
  obtain ⟨v0, vs0, d0, ds0, p0, q0, hargs, rfl, rfl, h0, r0⟩ := trodAll_cons hA
  obtain ⟨v1, vs1, d1, ds1, p1, q1, rfl, rfl, rfl, h1, r1⟩ := trodAll_cons r0
  obtain ⟨v2, vs2, d2, ds2, p2, q2, rfl, rfl, rfl, h2, r2⟩ := trodAll_cons r1
  obtain ⟨rfl, rfl, rfl⟩ := trodAll_nil r2
  obtain rfl : args = #[v0, v1, v2] := by cases args; simp_all
  obtain ⟨rfl, rfl⟩ := trodVars_none hV
  obtain ⟨a0, len0, cap0, rfl⟩ := okWide_slice Try.underlying22 (hval 0 22 v0 rfl rfl)
  have k0 := h0
  have lt0 : ∀ x ∈ p0, x.block < W.heap.size := by obtain ⟨m, hm⟩ := k0; exact DataW.trod_lt m _ _ _ hm
  obtain ⟨z0, w0⟩ : ∃ zs, IsRow .u8 W a0 len0 cap0 zs := by
    obtain ⟨fuel, hf⟩ := h0
    rcases open_ints Try.underlying22 Try.underlying5 (by kernel_rfl) hf with ⟨hcs, _⟩ | ⟨x, l, c, zs, hcs, _, hl, hm, hz, _, hcell, hwz⟩
    · simp [Value.cells] at hcs
      obtain ⟨rfl, rfl, rfl⟩ := hcs
      exact ⟨[], .inl ⟨rfl, rfl, rfl, rfl⟩⟩
    · simp [Value.cells] at hcs
      obtain ⟨rfl, rfl, rfl⟩ := hcs
      exact ⟨zs, .inr ⟨_, rfl, hl, hm, by simpa using hz, hcell, hwz⟩⟩
  obtain ⟨a1, rfl, rfl, rfl, w1⟩ := open_int Try.underlying3 (hval 1 3 v1 rfl rfl) h1
  obtain ⟨a2, rfl, rfl, rfl, w2⟩ := open_int Try.underlying5 (hval 2 5 v2 rfl rfl) h2
  clear hA0 hval0
  refine (walk a0 len0 cap0 z0 a1 a2 W w0 w1 w2).mono fun e W' ⟨he, bel⟩ => ?_
  subst he
  exact ⟨_, rfl, _, _, _, [], _, [], hW', trodAll_mk1 (shut_bool Try.underlying4 _), (trodAll_cons_mk (Below.trod laidOut (by kernel_rfl) (of_decide_eq_true (by kernel_rfl)) k0 bel lt0) (trodAll_cons_mk (shut_int Try.underlying3 w1) (trodAll_cons_mk (shut_int Try.underlying5 w2) trodAll_mk0))), rfl, bel.frame _, fun h => by cases h⟩

theorem over : Rows.fnShortHeaderAgreesWithDecimalRow.holds Try.pinned (OpenSpec.ofChange Rows.fnShortHeaderAgreesWithDecimalSpec) :=
  OpenClaim.holds_of_wide 6 Try.f6 rfl rfl rfl rfl rfl rfl rfl ⟨rfl, rfl, rfl, rfl, rfl⟩ rfl rfl rfl rfl rfl (by kernel_rfl) Try.func6 (by kernel_rfl)
    (of_decide_eq_true (by kernel_rfl)) (by unfold Func.isWrapper; first | (rw [if_pos (by decide +kernel)]; kernel_rfl) | (rw [if_neg (by decide +kernel)]; exact ⟨rfl, rfl⟩))
    (fun os started H enc _ => lifted os started H enc)

/-- ████ THE STATEMENT ████ -/
theorem proved : Rows.FnShortHeaderAgreesWithDecimalSaid := over
end Go.Proofs.Qxb6600336a.fnShortHeaderAgreesWithDecimal
