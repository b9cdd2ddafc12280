/- What a state set's memory holds, and what each store of add does to it. -/
import Derived.Below
import Derived.OneCell
namespace Go.Proofs.Qxb6600375a
open Go.RowKit
set_option linter.unusedVariables false

/-- Every block of element type t is in w' as it was in w. -/
def Keeps (w w' : World) (t : TypeId) : Prop := ∀ (k : Nat) cs q, w.heap[k]? = some (.cells cs t q) → w'.heap[k]? = some (.cells cs t q)
theorem Keeps.refl (w : World) (t : TypeId) : Keeps w w t := fun _ _ _ h => h
theorem Keeps.trans {a b c : World} {t : TypeId} (h : Keeps a b t) (k : Keeps b c t) : Keeps a c t := fun x cs q hx => k x cs q (h x cs q hx)
theorem Keeps.alloc (w : World) (o : Obj) (t : TypeId) : Keeps w (w.alloc o) t := fun k cs q h => by rw [heap_alloc_old w o k (lt_of_block h)]; exact h
theorem Keeps.setCell {w : World} {b i : Nat} {u : Value} {cs : Array Value} {t t' : TypeId} {q : Nat × Nat} (hb : w.heap[b]? = some (.cells cs t' q)) (hne : t' ≠ t) : Keeps w (w.setCell ⟨b, i, none⟩ u) t := fun k ds q' h => by
  rw [heap_setCell_other w ⟨b, i, none⟩ k u (by intro e; simp only at e; subst e; rw [hb] at h; simp only [Option.some.injEq, Obj.cells.injEq] at h; exact hne h.2.1)]
  exact h
theorem Keeps.grown {w w' : World} {row : Option Nat} {t : TypeId} (hg : w.grownBy w' row) (hr : ∀ g, row = some g → ∃ cs t' q, w.heap[g]? = some (.cells cs t' q) ∧ t' ≠ t) : Keeps w w' t := fun k cs q h => by
  rw [hg.block k (lt_of_block h) (by intro e; obtain ⟨cs', t', q', h1, h2⟩ := hr k e.symm; rw [h] at h1; simp only [Option.some.injEq, Obj.cells.injEq] at h1; exact h2 h1.2.1.symm)]
  exact h

theorem ownTag {w : World} {B e n : Nat} {v : Value} {xs : List Value} (h : w.ownsRow B e 1 v n xs) : ∀ g, v.ownBlock = some g → ∃ cs, w.heap[g]? = some (.cells cs e (0, 0)) := by
  intro g hg
  rcases h.2 with ⟨rfl, _⟩ | ⟨g', cap, cur, rfl, _, hh, _⟩
  · simp [Value.ownBlock] at hg
  · simp only [Value.ownBlock, Option.some.injEq] at hg
    subst hg
    exact ⟨cur, hh⟩
theorem ownTag' {w : World} {B e n t : Nat} {v : Value} {xs : List Value} (h : w.ownsRow B e 1 v n xs) (hne : e ≠ t) : ∀ g, v.ownBlock = some g → ∃ cs t' q, w.heap[g]? = some (.cells cs t' q) ∧ t' ≠ t := by
  intro g hg
  obtain ⟨cs, h1⟩ := ownTag h g hg
  exact ⟨cs, e, _, h1, hne⟩
theorem ownKeeps {w w' : World} {B e n : Nat} {v : Value} {xs : List Value} (h : w.ownsRow B e 1 v n xs) (k : Keeps w w' e) : w'.ownsRow B e 1 v n xs := by
  refine ⟨h.1, ?_⟩
  rcases h.2 with h2 | ⟨g, cap, cur, hv, hb, hh, r⟩
  · exact Or.inl h2
  · exact Or.inr ⟨g, cap, cur, hv, hb, k g _ _ hh, r⟩

theorem set_same {α : Type} {l : List α} {r : Nat} {x y : α} (h : (l.set r x)[r]? = some y) : y = x := by
  rw [List.getElem?_set] at h
  simp only [if_true] at h
  split at h
  · exact (Option.some.inj h).symm
  · cases h

/-- A row of page numbers: none yet; or a row of rn numbers in a block of its own. -/
def RowOk (w : World) (B rn : Nat) (L : List Nat) (v : Value) : Prop :=
  (L = [] ∧ v = .slice none 0 0) ∨ (L.length = rn ∧ (∃ g cap, v = .slice (some ⟨g, 0, none⟩) rn cap) ∧ w.ownsRow B 21 1 v rn (L.map fun x : Nat => Value.int .i32 x))
theorem RowOk.keeps {w w' : World} {B rn : Nat} {L : List Nat} {v : Value} (h : RowOk w B rn L v) (k : Keeps w w' 21) : RowOk w' B rn L v := by
  rcases h with h | ⟨h1, h2, h3⟩
  · exact Or.inl h
  · exact Or.inr ⟨h1, h2, ownKeeps h3 k⟩

structure Holds (w : World) (B S ps rs rn : Nat) (P : List (List Nat)) (W : List Nat) (pv wv : Value) (PV : List Value) : Prop where
  hS : w.heap[S]? = some (.cells #[pv, wv, .int .i64 ps, .int .i64 rs, .int .i64 rn] 34 (0, 0))
  hB : B ≤ S
  hp : w.ownsRow B 37 1 pv P.length PV
  hw : w.ownsRow B 38 1 wv W.length (W.map fun x : Nat => Value.int .u64 x)
  hrow : ∀ (r : Nat) L v, P[r]? = some L → PV[r]? = some v → RowOk w B rn L v
  hsep : ∀ (r r' : Nat) (v v' : Value) (g : Nat), r ≠ r' → PV[r]? = some v → PV[r']? = some v' → v.ownBlock = some g → v'.ownBlock ≠ some g

theorem Holds.heap {w w' : World} {B S ps rs rn : Nat} {P : List (List Nat)} {W : List Nat} {pv wv : Value} {PV : List Value} (h : Holds w B S ps rs rn P W pv wv PV) (e : w'.heap = w.heap) : Holds w' B S ps rs rn P W pv wv PV := by
  have kk : ∀ t, Keeps w w' t := fun t k cs q hk => by rw [e]; exact hk
  exact ⟨by rw [e]; exact h.hS, h.hB, ownKeeps h.hp (kk _), ownKeeps h.hw (kk _), fun r L v a b => (h.hrow r L v a b).keeps (kk _), h.hsep⟩

theorem Holds.cell {w : World} {B S ps rs rn : Nat} {P : List (List Nat)} {W : List Nat} {pv wv : Value} {PV : List Value} (h : Holds w B S ps rs rn P W pv wv PV) :
    w.cell? ⟨S, 0, none⟩ = some pv ∧ w.cell? ⟨S, 1, none⟩ = some wv ∧ w.cell? ⟨S, 2, none⟩ = some (.int .i64 ps) ∧ w.cell? ⟨S, 3, none⟩ = some (.int .i64 rs) ∧ w.cell? ⟨S, 4, none⟩ = some (.int .i64 rn) := by
  have c := fun j => cell_of_row w S j _ 34 (0, 0) h.hS
  exact ⟨c 0, c 1, c 2, c 3, c 4⟩
theorem Holds.free {w : World} {B S ps rs rn : Nat} {P : List (List Nat)} {W : List Nat} {pv wv : Value} {PV : List Value} (h : Holds w B S ps rs rn P W pv wv PV) (j : Nat) : w.frozen? ⟨S, j, none⟩ = false :=
  frozen_of_row w S j _ 34 h.hS
theorem Holds.size {w : World} {B S ps rs rn : Nat} {P : List (List Nat)} {W : List Nat} {pv wv : Value} {PV : List Value} (h : Holds w B S ps rs rn P W pv wv PV) : B ≤ w.heap.size :=
  Nat.le_trans h.hB (Nat.le_of_lt (lt_of_block h.hS))

/-- A slice that owns at least one element is written out. -/
theorem own_form {w : World} {B e n : Nat} {v : Value} {xs : List Value} (h : w.ownsRow B e 1 v n xs) (h0 : 0 < n) : ∃ g cap, v = .slice (some ⟨g, 0, none⟩) n cap ∧ B ≤ g := by
  rcases h.2 with ⟨_, h2⟩ | ⟨g, cap, cur, hv, hb, _⟩
  · omega
  · exact ⟨g, cap, hv, hb⟩

/-- words[i] = y. -/
theorem Holds.setWord {w : World} {B S ps rs rn : Nat} {P : List (List Nat)} {W : List Nat} {pv : Value} {PV : List Value} {g n cap : Nat} (h : Holds w B S ps rs rn P W pv (.slice (some ⟨g, 0, none⟩) n cap) PV) (i y : Nat) :
    Holds (w.setCell ⟨g, i, none⟩ (.int .u64 y)) B S ps rs rn P (W.set i y) pv (.slice (some ⟨g, 0, none⟩) n cap) PV := by
  obtain ⟨cur, hg⟩ := ownTag h.hw g rfl
  have hSg : S ≠ g := by intro e; subst e; have := h.hS; rw [hg] at this; simp at this
  have en : n = W.length := by
    rcases h.hw.2 with ⟨h1, _⟩ | ⟨_, _, _, h1, _⟩
    · cases h1
    · simp only [Value.slice.injEq] at h1; exact h1.2.1
  subst en
  have hw := (h.hw.stored i (.int .u64 y)).1
  have e : (W.map fun x : Nat => Value.int .u64 x).set i (.int .u64 y) = (W.set i y).map fun x : Nat => Value.int .u64 x := by rw [List.map_set]
  rw [e] at hw
  refine ⟨by rw [heap_setCell_other _ _ _ _ (by simpa using hSg)]; exact h.hS, h.hB, ownKeeps h.hp (Keeps.setCell hg (by decide)), ?_, fun r L v a b => (h.hrow r L v a b).keeps (Keeps.setCell hg (by decide)), h.hsep⟩
  rw [List.length_set]
  exact hw

/-- s.words = append(s.words, ..). -/
theorem Holds.setWords {w w2 : World} {B S ps rs rn : Nat} {P : List (List Nat)} {W : List Nat} {pv wv : Value} {PV : List Value} (h : Holds w B S ps rs rn P W pv wv PV)
    {v' : Value} {W' : List Nat} (hown : w2.ownsRow B 38 1 v' W'.length (W'.map fun x : Nat => Value.int .u64 x)) (hgr : w.grownBy w2 wv.ownBlock) :
    Holds (w2.setCell ⟨S, 1, none⟩ v') B S ps rs rn P W' pv v' PV := by
  have hne : some S ≠ wv.ownBlock := by
    intro e
    obtain ⟨cs, h1⟩ := ownTag h.hw S e.symm
    have := h.hS; rw [h1] at this; simp at this
  have hS2 : w2.heap[S]? = some (.cells #[pv, wv, .int .i64 ps, .int .i64 rs, .int .i64 rn] 34 (0, 0)) := (hgr.block S (lt_of_block h.hS) hne).trans h.hS
  have k1 : ∀ t, (38 : Nat) ≠ t → Keeps w w2 t := fun t ht => Keeps.grown hgr (ownTag' h.hw ht)
  have k2 : ∀ t, (34 : Nat) ≠ t → Keeps w2 (w2.setCell ⟨S, 1, none⟩ v') t := fun t ht => Keeps.setCell hS2 ht
  refine ⟨?_, h.hB, ownKeeps h.hp ((k1 _ (by decide)).trans (k2 _ (by decide))), ownKeeps hown (k2 _ (by decide)), fun r L v a b => (h.hrow r L v a b).keeps ((k1 _ (by decide)).trans (k2 _ (by decide))), h.hsep⟩
  rw [heap_setCell_same w2 S 1 _ 34 v' hS2]
  rfl

/-- s.pages = append(s.pages, nil). -/
theorem Holds.setPages {w w2 : World} {B S ps rs rn : Nat} {P : List (List Nat)} {W : List Nat} {pv wv : Value} {PV : List Value} (h : Holds w B S ps rs rn P W pv wv PV)
    {v' : Value} (hown : w2.ownsRow B 37 1 v' (P.length + 1) (PV ++ [.slice none 0 0])) (hgr : w.grownBy w2 pv.ownBlock) :
    Holds (w2.setCell ⟨S, 0, none⟩ v') B S ps rs rn (P ++ [[]]) W v' wv (PV ++ [.slice none 0 0]) := by
  have hne : some S ≠ pv.ownBlock := by
    intro e
    obtain ⟨cs, h1⟩ := ownTag h.hp S e.symm
    have := h.hS; rw [h1] at this; simp at this
  have hS2 : w2.heap[S]? = some (.cells #[pv, wv, .int .i64 ps, .int .i64 rs, .int .i64 rn] 34 (0, 0)) := (hgr.block S (lt_of_block h.hS) hne).trans h.hS
  have k1 : ∀ t, (37 : Nat) ≠ t → Keeps w w2 t := fun t ht => Keeps.grown hgr (ownTag' h.hp ht)
  have k2 : ∀ t, (34 : Nat) ≠ t → Keeps w2 (w2.setCell ⟨S, 0, none⟩ v') t := fun t ht => Keeps.setCell hS2 ht
  have hlen : PV.length = P.length := by have := h.hp.1; omega
  refine ⟨?_, h.hB, ?_, ownKeeps h.hw ((k1 _ (by decide)).trans (k2 _ (by decide))), ?_, ?_⟩
  · rw [heap_setCell_same w2 S 0 _ 34 v' hS2]
    rfl
  · rw [List.length_append]; exact ownKeeps hown (k2 _ (by decide))
  · intro r L v a b
    by_cases hr : r < P.length
    · rw [List.getElem?_append_left (by omega)] at a b
      exact (h.hrow r L v a b).keeps ((k1 _ (by decide)).trans (k2 _ (by decide)))
    · rw [List.getElem?_append_right (by omega)] at a b
      have e : r - P.length = 0 := by
        have := (List.getElem?_eq_some_iff.1 a).1
        simp at this; omega
      rw [hlen] at b
      rw [e] at a b
      simp at a b
      exact Or.inl ⟨a, b.symm⟩
  · intro r r' v v' g hrr a b hv
    by_cases hr : r < PV.length
    · by_cases hr' : r' < PV.length
      · rw [List.getElem?_append_left (by omega)] at a b
        exact h.hsep r r' v v' g hrr a b hv
      · rw [List.getElem?_append_right (by omega)] at b
        have e : r' - PV.length = 0 := by
          have := (List.getElem?_eq_some_iff.1 b).1
          simp at this; omega
        rw [e] at b
        simp at b
        rw [← b]; simp [Value.ownBlock]
    · rw [List.getElem?_append_right (by omega)] at a
      have e : r - PV.length = 0 := by
        have := (List.getElem?_eq_some_iff.1 a).1
        simp at this; omega
      rw [e] at a
      simp at a
      rw [← a] at hv; simp [Value.ownBlock] at hv

/-- s.pages[row] = a new row of numbers. -/
theorem Holds.setRowNew {w w2 : World} {B S ps rs rn : Nat} {P : List (List Nat)} {W : List Nat} {wv : Value} {PV : List Value} {g n cap : Nat} (h : Holds w B S ps rs rn P W (.slice (some ⟨g, 0, none⟩) n cap) wv PV)
    {g' cap' : Nat} {L' : List Nat} (row : Nat) (hL : L'.length = rn) (hown : w2.ownsRow B 21 1 (.slice (some ⟨g', 0, none⟩) rn cap') rn (L'.map fun x : Nat => Value.int .i32 x)) (hgr : w.grownBy w2 none) (hnew : w.heap.size ≤ g') :
    Holds (w2.setCell ⟨g, row, none⟩ (.slice (some ⟨g', 0, none⟩) rn cap')) B S ps rs rn (P.set row L') W (.slice (some ⟨g, 0, none⟩) n cap) wv (PV.set row (.slice (some ⟨g', 0, none⟩) rn cap')) := by
  obtain ⟨cur, hg⟩ := ownTag h.hp g rfl
  have k1 : ∀ t, Keeps w w2 t := fun t => Keeps.grown hgr (fun _ e => by cases e)
  have hg2 := k1 _ _ _ _ hg
  have hSg : S ≠ g := by intro e; subst e; have := h.hS; rw [hg] at this; simp at this
  have k2 : ∀ t, (37 : Nat) ≠ t → Keeps w2 (w2.setCell ⟨g, row, none⟩ (.slice (some ⟨g', 0, none⟩) rn cap')) t := fun t ht => Keeps.setCell hg2 ht
  have en : n = P.length := by
    rcases h.hp.2 with ⟨h1, _⟩ | ⟨_, _, _, h1, _⟩
    · cases h1
    · simp only [Value.slice.injEq] at h1; exact h1.2.1
  subst en
  have hp2 := ((ownKeeps h.hp (k1 _)).stored row (.slice (some ⟨g', 0, none⟩) rn cap')).1
  have old : ∀ (r : Nat) (v : Value) (x : Nat), PV[r]? = some v → v.ownBlock = some x → r < P.length → x < w.heap.size := by
    intro r v x a hv hr
    obtain ⟨L, hLr⟩ : ∃ L, P[r]? = some L := ⟨_, List.getElem?_eq_getElem hr⟩
    rcases h.hrow r L v hLr a with ⟨_, rfl⟩ | ⟨_, _, h3⟩
    · simp [Value.ownBlock] at hv
    · exact (h3.lt x hv).2
  have hlen : PV.length = P.length := by have := h.hp.1; omega
  refine ⟨by rw [heap_setCell_other _ _ _ _ (by simpa using hSg)]; exact k1 _ _ _ _ h.hS, h.hB, by rw [List.length_set]; exact hp2, ownKeeps h.hw ((k1 _).trans (k2 _ (by decide))), ?_, ?_⟩
  · intro r L v a b
    by_cases hr : r = row
    · subst hr
      obtain rfl := set_same a
      obtain rfl := set_same b
      exact Or.inr ⟨hL, ⟨_, _, rfl⟩, ownKeeps hown (k2 _ (by decide))⟩
    · rw [List.getElem?_set_ne (fun e => hr e.symm)] at a b
      exact (h.hrow r L v a b).keeps ((k1 _).trans (k2 _ (by decide)))
  · intro r r' v v' x hrr a b hv
    by_cases hr : r = row
    · subst hr
      obtain rfl := set_same a
      rw [List.getElem?_set_ne hrr] at b
      simp only [Value.ownBlock, Option.some.injEq] at hv
      subst hv
      intro hv'
      have := old r' v' _ b hv' (by have := (List.getElem?_eq_some_iff.1 b).1; omega)
      omega
    · rw [List.getElem?_set_ne (fun e => hr e.symm)] at a
      by_cases hr' : r' = row
      · subst hr'
        obtain rfl := set_same b
        simp only [Value.ownBlock, ne_eq, Option.some.injEq]
        intro e
        have := old r v x a hv (by have := (List.getElem?_eq_some_iff.1 a).1; omega)
        omega
      · rw [List.getElem?_set_ne (fun e => hr' e.symm)] at b
        exact h.hsep r r' v v' x hrr a b hv

/-- s.pages[row][run] = y. -/
theorem Holds.setPage {w : World} {B S ps rs rn : Nat} {P : List (List Nat)} {W : List Nat} {pv wv : Value} {PV : List Value} (h : Holds w B S ps rs rn P W pv wv PV)
    {row g' cap' : Nat} {L : List Nat} (hP : P[row]? = some L) (hV : PV[row]? = some (.slice (some ⟨g', 0, none⟩) rn cap')) (run y : Nat) :
    Holds (w.setCell ⟨g', run, none⟩ (.int .i32 y)) B S ps rs rn (P.set row (L.set run y)) W pv wv PV := by
  rcases h.hrow row L _ hP hV with ⟨_, e⟩ | ⟨hL, _, how⟩
  · cases e
  obtain ⟨cur, hg⟩ := ownTag how g' rfl
  have hSg : S ≠ g' := by intro e; subst e; have := h.hS; rw [hg] at this; simp at this
  have hst := (how.stored run (.int .i32 y)).1
  have e : (L.map fun x : Nat => Value.int .i32 x).set run (.int .i32 y) = (L.set run y).map fun x : Nat => Value.int .i32 x := by rw [List.map_set]
  rw [e] at hst
  refine ⟨by rw [heap_setCell_other _ _ _ _ (by simpa using hSg)]; exact h.hS, h.hB, by rw [List.length_set]; exact ownKeeps h.hp (Keeps.setCell hg (by decide)), ownKeeps h.hw (Keeps.setCell hg (by decide)), ?_, h.hsep⟩
  intro r L1 v a b
  by_cases hr : r = row
  · subst hr
    obtain rfl := set_same a
    rw [hV] at b
    simp only [Option.some.injEq] at b
    subst b
    exact Or.inr ⟨by simpa using hL, ⟨_, _, rfl⟩, hst⟩
  · rw [List.getElem?_set_ne (fun e => hr e.symm)] at a
    rcases h.hrow r L1 v a b with h1 | ⟨h1, h2, h3⟩
    · exact Or.inl h1
    · exact Or.inr ⟨h1, h2, ownsRow_setCell_other h3 (by
        intro hx
        exact h.hsep row r _ v g' (fun e => hr e.symm) hV b rfl hx) _⟩

theorem own_base {w : World} {B B' e n : Nat} {v : Value} {xs : List Value} (h : w.ownsRow B' e 1 v n xs) (hb : B ≤ B') : w.ownsRow B e 1 v n xs := by
  refine ⟨h.1, ?_⟩
  rcases h.2 with h2 | ⟨g, cap, cur, hv, hg, r⟩
  · exact Or.inl h2
  · exact Or.inr ⟨g, cap, cur, hv, Nat.le_trans hb hg, r⟩

/-- Behind an append on the nil slice: the set's own cells read as before. -/
theorem Holds.sNew {w w2 : World} {B S ps rs rn : Nat} {P : List (List Nat)} {W : List Nat} {wv : Value} {PV : List Value} {g n cap : Nat} (h : Holds w B S ps rs rn P W (.slice (some ⟨g, 0, none⟩) n cap) wv PV) (hgr : w.grownBy w2 none) (j : Nat) :
    w2.cell? ⟨S, 0, none⟩ = some (.slice (some ⟨g, 0, none⟩) n cap) ∧ w2.cell? ⟨S, 4, none⟩ = some (.int .i64 rn) ∧ w2.cell? ⟨g, j, none⟩ = w.cell? ⟨g, j, none⟩ ∧ w2.frozen? ⟨g, j, none⟩ = false := by
  have kk : ∀ t, Keeps w w2 t := fun t => Keeps.grown hgr (fun _ e => by cases e)
  have hS2 := kk _ _ _ _ h.hS
  obtain ⟨cur, hg⟩ := ownTag h.hp g rfl
  have hg2 := kk _ _ _ _ hg
  exact ⟨cell_of_row w2 S 0 _ 34 (0, 0) hS2, cell_of_row w2 S 4 _ 34 (0, 0) hS2, by rw [cell_of_row w2 g j _ 37 (0, 0) hg2, cell_of_row w g j _ 37 (0, 0) hg], frozen_of_row w2 g j _ 37 hg2⟩

theorem Holds.alloc {w : World} {B S ps rs rn : Nat} {P : List (List Nat)} {W : List Nat} {pv wv : Value} {PV : List Value} (h : Holds w B S ps rs rn P W pv wv PV) (o : Obj) : Holds (w.alloc o) B S ps rs rn P W pv wv PV :=
  ⟨by rw [heap_alloc_old w o S (lt_of_block h.hS)]; exact h.hS, h.hB, ownKeeps h.hp (Keeps.alloc _ _ _), ownKeeps h.hw (Keeps.alloc _ _ _), fun r L v a b => (h.hrow r L v a b).keeps (Keeps.alloc _ _ _), h.hsep⟩

theorem Holds.sP {w w2 : World} {B S ps rs rn : Nat} {P : List (List Nat)} {W : List Nat} {pv wv : Value} {PV : List Value} (h : Holds w B S ps rs rn P W pv wv PV) (hgr : w.grownBy w2 pv.ownBlock) :
    w2.cell? ⟨S, 0, none⟩ = some pv ∧ w2.frozen? ⟨S, 0, none⟩ = false := by
  have hS2 := Keeps.grown (t := 34) hgr (ownTag' h.hp (by decide)) S _ _ h.hS
  exact ⟨cell_of_row w2 S 0 _ 34 (0, 0) hS2, frozen_of_row w2 S 0 _ 34 hS2⟩
theorem Holds.sW {w w2 : World} {B S ps rs rn : Nat} {P : List (List Nat)} {W : List Nat} {pv wv : Value} {PV : List Value} (h : Holds w B S ps rs rn P W pv wv PV) (hgr : w.grownBy w2 wv.ownBlock) :
    w2.cell? ⟨S, 1, none⟩ = some wv ∧ w2.frozen? ⟨S, 1, none⟩ = false := by
  have hS2 := Keeps.grown (t := 34) hgr (ownTag' h.hw (by decide)) S _ _ h.hS
  exact ⟨cell_of_row w2 S 1 _ 34 (0, 0) hS2, frozen_of_row w2 S 1 _ 34 hS2⟩
theorem Holds.belP {w0 w w2 : World} {B S ps rs rn : Nat} {P : List (List Nat)} {W : List Nat} {pv wv : Value} {PV : List Value} (h : Holds w B S ps rs rn P W pv wv PV) (hb : Below B w0 w) (hgr : w.grownBy w2 pv.ownBlock) (u : Value) :
    Below B w0 (w2.setCell ⟨S, 0, none⟩ u) := (hb.grown hgr h.size (fun k e => (h.hp.lt k e).1)).setCell h.hB u
theorem Holds.belW {w0 w w2 : World} {B S ps rs rn : Nat} {P : List (List Nat)} {W : List Nat} {pv wv : Value} {PV : List Value} (h : Holds w B S ps rs rn P W pv wv PV) (hb : Below B w0 w) (hgr : w.grownBy w2 wv.ownBlock) (u : Value) :
    Below B w0 (w2.setCell ⟨S, 1, none⟩ u) := (hb.grown hgr h.size (fun k e => (h.hw.lt k e).1)).setCell h.hB u
end Go.Proofs.Qxb6600375a
