/- cloneBytes by a contract: the copy lies in one new block, nothing old has turned. -/
import Derived.Test.Qxb6601149aProg
import Derived.WalkKit
import Derived.WalkSpells
import Derived.WalkLawsBesides
import Derived.Below
import Derived.Laws.CopyOwn
import Derived.Lib.SliceRun
namespace Go.Proofs.Qxb6601149a
open Go.RowKit
theorem info5 : (Try.prog.info? 5).map (fun i => (i.zero, i.size, i.bytes)) = some (some (.int .u8 0), 1, 1) := by kernel_rfl
theorem size5 : (Try.prog.info? 5).map (·.size) = some 1 := by kernel_rfl

theorem owned_full {w : World} {base e g n : Nat} {xs : List Value} (h : w.ownsRow base e 1 (.slice (some ⟨g, 0, none⟩) n n) n xs) :
    ∃ cur : List Value, cur.length = n ∧ w.heap[g]? = some (.cells cur.toArray e (0, 0)) := by
  rcases h.2 with ⟨h0, _⟩ | ⟨g', cap', cur, hv, hg, hh, hc1, hc2, hc3, hc4⟩
  · cases h0
  · simp only [Value.slice.injEq, Option.some.injEq, Addr.mk.injEq] at hv
    obtain ⟨⟨rfl, -, -⟩, -, rfl⟩ := hv
    exact ⟨cur.toList, by simpa using hc3, by simpa using hh⟩

theorem clone_nil (w : World) : Calls Try.prog 10 #[.slice none 0 0] w fun e w' => e = .returned (.slice none 0 0) ∧ w' = w := by
  have q22 := fun (w : World) (a : Option Addr) (n c n' c' : Nat) => Lib.run_eql_slice_nil (P := Try.prog) w 22 5 a n c n' c' Try.underlying22
  go_enter Try.func10, Try.ntmps10
  go_wp2
  go_ret
  exact ⟨rfl, rfl⟩

set_option maxHeartbeats 400000 in
theorem clone_some (x : Addr) (len cap : Nat) (zs : List Int) (w : World) (hl : len ≤ cap) (hm : len ≤ 1048576) (hz : zs.length = cap)
    (hcell : ∀ i, i < zs.length → w.cell? (x.add i) = some (.int .u8 (zs.getD i 0))) :
    Calls Try.prog 10 #[.slice (some x) len cap] w fun e w' => e = .returned (.slice (some ⟨w.heap.size, 0, none⟩) len len) ∧
      w'.heap[w.heap.size]? = some (.cells ((zs.take len).map (Value.int .u8)).toArray 5 (0, 0)) ∧ Below w.heap.size w w' := by
  have q22 := fun (w : World) (a : Option Addr) (n c n' c' : Nat) => Lib.run_eql_slice_nil (P := Try.prog) w 22 5 a n c n' c' Try.underlying22
  obtain ⟨i0, hi, hz0, hz1, hz2⟩ := info_parts info5
  go_enter Try.func10, Try.ntmps10
  go_wp2_with (at_make; refine wpList_make_full _ rfl _ _ 22 rfl w.heap.size 5 i0 (.int .u8 0) 1 Try.underlying22 hi hz0 hz1 _ _ _ _ len rfl rfl rfl rfl (by rw [hz2]; omega) (by unfold maxLen; omega) (Nat.le_refl _) ?_)
  intro w1 hown hgrow
  obtain ⟨cur, hcl, hh⟩ := owned_full hown
  have hb1 : Below w.heap.size w w1 := (Below.refl _ _).grown hgrow (Nat.le_refl _) (by intro k hk; cases hk)
  clear hown hgrow
  obtain ⟨cs, hcs⟩ : ∃ cs, cs = (zs.take len).map (Value.int .u8) := ⟨_, rfl⟩
  have hcs2 : cs.length = len := by rw [hcs]; simp; omega
  have HCS : Hid (cs = (zs.take len).map (Value.int .u8)) := hcs
  have HCS2 : Hid (cs.length = len) := hcs2
  have HCL : Hid (cur.length = len) := hcl
  clear hcs hcl hcs2
  go_wp2_with (refine wpList_copy_splice rfl (.tmp 9) (.tmp 10) 22 22 rfl 5 Try.underlying22 size5 _ _ _ _ _ _ rfl rfl w.heap.size 0 cur 5 hh cs (by rw [HCS2.out]; exact (Nat.min_self len).symm) ?hpos ?hfit ?h1 w.heap.size w hb1 (Nat.le_refl _) ?_)
  case hpos =>
    intro h0 j v hj
    have e := HCS.out
    have hj2 : j < len := by have := (List.getElem?_eq_some_iff.1 hj).1; have := HCS2.out; omega
    have hc := hcell j (by omega)
    rw [hb1.cell (World.block_lt_of_cell? w _ hc), hc]
    rw [e] at hj
    simp only [List.getElem?_map, List.getElem?_take, hj2, if_true] at hj
    rw [← hj, List.getD_eq_getElem?_getD, List.getElem?_eq_getElem (by omega)]
    rfl
  case hfit => rw [HCS2.out, HCL.out]; omega
  case h1 => rw [HCS.out]; exact ints_oneCell _ _
  intro w2 hg2 hb2
  go_wp2
  go_ret
  refine ⟨rfl, ?_, hb2⟩
  have e := hg2.out
  have e2 : splice cur 0 cs = cs := by
    unfold splice
    rw [List.take_zero, List.nil_append, List.drop_eq_nil_of_le (by rw [HCS2.out, HCL.out]; omega), List.append_nil]
  rw [e, e2, HCS.out]
end Go.Proofs.Qxb6601149a
