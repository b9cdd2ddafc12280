/- append(s, make([]T, k)...), s a row of the call's own: the laws. -/
import Derived.Lib.AppendZerosOnto
import Derived.Deep.RegionLaw
namespace Go.Proofs.Qxb6600375a

theorem zeroCells_one (z : Value) (n : Nat) : Builtin.zeroCells #[z] n = (List.replicate n z).toArray := by
  apply Array.ext
  · simp [Builtin.zeroCells]
  · intro i h1 h2
    simp [Builtin.zeroCells, Nat.mod_one]

theorem run_append_room_zeros {P : Program} (w : World) (t tn ty e : TypeId) (i : TypeInfo) (z : Value) (kq kn : IntKind) (ht : P.underlying t = some (.slice e)) (htn : P.underlying tn = some (.int kn)) (hi : P.info? e = some i) (hz : i.zero = some z)
    (hs : i.size = 1) (hzc : z.cells = #[z]) (hz1 : z.oneCell' = true)
    (g sLen sCap : Nat) (cur : Array Value) (hg : w.heap[g]? = some (.cells cur e (0, 0))) (k : Nat) (h0 : 0 < k) (hk63 : (k : Int) ≤ 9223372036854775807) (h48 : k * i.bytes ≤ 281474976710656) (hroom : sLen + k ≤ sCap) (hfit : sLen + k ≤ cur.size) :
    (Builtin.append_ #[t, tn] ty #[.slice (some ⟨g, 0, none⟩) sLen sCap, .int kq k]).run P w =
      .ok (.slice (some ⟨g, 0, none⟩) (sLen + k) sCap) (w.setRow g (cur.toList.take sLen ++ List.replicate k z ++ cur.toList.drop (sLen + k)).toArray) := by
  have hst := run_storeCells_at P g sLen e (List.replicate k z) 0 cur w hg (by simpa using hfit) (fun u hu => by rw [(List.mem_replicate.1 hu).2]; exact hz1)
  simp only [Nat.add_zero, List.length_replicate] at hst
  have hk : k ≠ 0 := by omega
  have hw : IntKind.i64.wrap (k : Int) = k := by rw [IntKind.wrap_i64]; omega
  have h48i : ¬ (281474976710656 < (k : Int) * (i.bytes : Int)) := by
    rw [← Int.natCast_mul]
    omega
  have hneg : ¬ ((k : Int) < 0) := by omega
  simp [Builtin.append_, run_underlying ht, run_underlying htn, sizeOf, typeInfo, zeroValue, hi, hz, hs, hzc, zeroCells_one, asInt, asIntOf, hw, hk, hneg, h48i, hroom, Addr.add_lit, hst]

theorem run_append_own_zeros {P : Program} (w : World) (base : Nat) (t tn ty e : TypeId) (i : TypeInfo) (z : Value) (bytes : Nat) (kq kn : IntKind) (ht : P.underlying t = some (.slice e)) (htn : P.underlying tn = some (.int kn)) (hi : P.info? e = some i) (hz : i.zero = some z)
    (hs : i.size = 1) (hby : i.bytes = bytes) (hzc : z.cells = #[z]) (hz1 : z.oneCell' = true) (v : Value) (n : Nat) (xs : List Value) (hown : w.ownsRow base e 1 v n xs)
    (k : Nat) (h0 : 0 < k) (h63 : n + k ≤ maxLen) (hbytes : (n + k) * bytes ≤ 140737488355328) (hbase : base ≤ w.heap.size) :
    ∃ g cap w', (Builtin.append_ #[t, tn] ty #[v, .int kq k]).run P w = .ok (.slice (some ⟨g, 0, none⟩) (n + k) cap) w' ∧ w'.ownsRow base e 1 (.slice (some ⟨g, 0, none⟩) (n + k) cap) (n + k) (xs ++ List.replicate k z) ∧ w.grownBy w' v.ownBlock := by
  subst hby
  have hsmall : n + k ≤ 9223372036854775807 := by simp only [maxLen] at h63; omega
  have hkb : k * i.bytes ≤ 140737488355328 := Nat.le_trans (Nat.mul_le_mul_right _ (by omega)) hbytes
  have hlx : xs.length = n := by simpa using hown.1
  have hlen : (xs ++ List.replicate k z).length = (n + k) * 1 := by simp [hlx]
  have grown : ∀ (old : Nat) (row : Option Nat),
      (w.drew.alloc (.cells (xs.toArray ++ Builtin.zeroCells z.cells k ++ Builtin.zeroCells z.cells (grownCap w (n + k) old e - (n + k))) e)).ownsRow base e 1
        (.slice (some ⟨w.heap.size, 0, none⟩) (n + k) (grownCap w (n + k) old e)) (n + k) (xs ++ List.replicate k z) ∧
      w.grownBy (w.drew.alloc (.cells (xs.toArray ++ Builtin.zeroCells z.cells k ++ Builtin.zeroCells z.cells (grownCap w (n + k) old e - (n + k))) e)) row := by
    intro old row
    have hge := grownCap_ge w (n + k) old e
    have hcm : grownCap w (n + k) old e ≤ maxLen := grownCap_le_maxLen w (n + k) old e h63
    refine ⟨⟨hlen, .inr ⟨w.heap.size, _, _, rfl, hbase, heap_alloc_new w.drew _, hge, hcm, ?_, ?_⟩⟩, ⟨rfl, rfl, rfl, by simp, fun k hk _ => heap_alloc_old w.drew _ k hk⟩⟩
    · simp [hzc, zeroCells_one, hlx]
      omega
    · simp only [hzc, zeroCells_one, Array.toList_append, List.append_assoc]
      rw [← List.append_assoc, ← hlen]
      exact List.take_left
  rcases hown.2 with ⟨rfl, rfl⟩ | ⟨g, cap, cur, rfl, hbg, hg, hnc, hcm, hcs, htake⟩
  · have hx : xs = [] := List.eq_nil_of_length_eq_zero (by simpa using hown.1)
    subst hx
    have hr := Lib.run_append_nil_zeros (P := P) w t tn ty e i z kq kn ht htn hi hz k h0 (by omega) (by omega) (by omega)
    have hgr := grown 0 (Value.ownBlock (.slice none 0 0))
    simp only [Nat.zero_add, List.nil_append, Array.empty_append] at hgr ⊢
    exact ⟨_, _, _, hr, hgr.1, hgr.2⟩
  · by_cases hroom : n + k ≤ cap
    · have hr := run_append_room_zeros (P := P) w t tn ty e i z kq kn ht htn hi hz hs hzc hz1 g n cap cur hg k h0 (by omega) (by omega) hroom (by rw [hcs]; omega)
      refine ⟨_, _, _, hr, ⟨hlen, .inr ⟨g, cap, _, rfl, hbg, setRow_heap w g cur _ e _ hg, hroom, hcm, ?_, ?_⟩⟩, ⟨rfl, rfl, rfl, by simp, fun k _ hk => setRow_other w g k _ (fun e => hk (by simp [Value.ownBlock, e]))⟩⟩
      · simp only [List.size_toArray, List.length_append, List.length_take, List.length_drop, Array.length_toList, List.length_replicate]
        omega
      · rw [show cur.toList.take n = xs by simpa using htake, ← hlen]
        exact List.take_left
    · have holds : ∀ j u, xs[j]? = some u → w.cell? ((⟨g, 0, none⟩ : Addr).add j) = some u := hown.cells (g := g) rfl
      have hf : (Builtin.firstCells i.size n (.slice (some ⟨g, 0, none⟩) n cap)).run P w.drew = .ok xs.toArray w.drew :=
        run_firstCells_some (P := P) w.drew i.size n ⟨g, 0, none⟩ n cap xs (by simp [hs, hlx]) (fun j u hu => holds j u hu)
      have hr := Lib.run_append_grow_zeros (P := P) w t tn ty e i z kq kn ht htn hi hz (some ⟨g, 0, none⟩) n cap xs hf k h0 (by omega) (by omega) (by omega) (by omega) (growslice_fits (by omega) hbytes)
      have hgr := grown cap (Value.ownBlock (.slice (some ⟨g, 0, none⟩) n cap))
      exact ⟨_, _, _, hr, hgr.1, hgr.2⟩

/-- The same as one step of a region that draws its order. -/
theorem step_append_zeros {P : Program} {ops : Array Oper} {o : Oper} {a : Act} {w : World} {K : Act → World → Prop} {Q : Exit → Act → World → Prop} {E : Prop}
    (hg : o.guard = none) (s x : Operand) (t tn : TypeId) (hop : o.op = Op.call { callee := Callee.builtin Builtin.append, args := #[s, x], argTypes := #[t, tn] })
    (base : Nat) (e : TypeId) (i : TypeInfo) (z : Value) (bytes : Nat) (kq kn : IntKind) (ht : P.underlying t = some (.slice e)) (htn : P.underlying tn = some (.int kn)) (hi : P.info? e = some i) (hz : i.zero = some z)
    (hs : i.size = 1) (hby : i.bytes = bytes) (hzc : z.cells = #[z]) (hz1 : z.oneCell' = true) (v : Value) (n : Nat) (xs : List Value) (hv : a.eval s = v) (hown : w.ownsRow base e 1 v n xs)
    (L : Int) (k : Nat) (hx : a.eval x = .int kq L) (hL : L = (k : Int)) (h0 : 0 < k) (h63 : n + k ≤ maxLen) (hbytes : (n + k) * bytes ≤ 140737488355328) (hbase : base ≤ w.heap.size)
    (hK : ∀ g cap w', w'.ownsRow base e 1 (.slice (some ⟨g, 0, none⟩) (n + k) cap) (n + k) (xs ++ List.replicate k z) → w.grownBy w' v.ownBlock → K (a.put o.dst (.slice (some ⟨g, 0, none⟩) (n + k) cap)) w') :
    if Region.wanted o (yielded ops a.tmps) = true then Oper.wp P o a w K Q else E := by
  have hw : Region.wanted o (yielded ops a.tmps) = true := by simp [Region.wanted, hg]
  rw [if_pos hw]
  subst hL
  obtain ⟨g, cap, w', hrun, r1, r2⟩ := run_append_own_zeros (P := P) w base t tn o.type e i z bytes kq kn ht htn hi hz hs hby hzc hz1 v n xs hown k h0 h63 hbytes hbase
  exact Lib.wp_append_run w s x t tn hop v _ hv hx _ _ hrun (hK g cap w' r1 r2)
end Go.Proofs.Qxb6600375a
