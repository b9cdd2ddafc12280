/- word over what the set's memory holds. -/
import Derived.Test.Qxb6600375aWord
import Derived.Test.Qxb6600375aZeros
import Derived.Test.Qxb6600375aHolds
import Derived.Deep.DeepCutAuto
import Derived.Deep.RegionLaw
import Derived.Deep.LoopGhost
import Derived.BigRegion
import Derived.Laws.BitsAllLaws
namespace Go.Proofs.Qxb6600375a
open Go.RowKit
set_option linter.unusedVariables false
theorem info38 : (Try.prog.info? 38).map (fun i => (i.zero, i.size, i.bytes)) = some (some (.int .u64 0), 1, 8) := by kernel_rfl
theorem info37 : (Try.prog.info? 37).map (fun i => (i.zero, i.size, i.bytes)) = some (some (.slice none 0 0), 1, 24) := by kernel_rfl
theorem info21 : (Try.prog.info? 21).map (fun i => (i.zero, i.size, i.bytes)) = some (some (.int .i32 0), 1, 4) := by kernel_rfl

/-- Where no page holds the state, word answers -1. -/
def NoPage (P : List (List Nat)) (rs row pos : Nat) : Prop := (P.getD row []).getD (pos / 2 ^ rs) 0 = 0

theorem pos_run (pos rs : Nat) : (pos : Int) / 2 ^ rs = ((pos / 2 ^ rs : Nat) : Int) := by simp

theorem word_miss (B S ps rs rn : Nat) (P : List (List Nat)) (W : List Nat) (row pos : Nat) (w : World) (pv wv : Value) (PV : List Value) (h : Holds w B S ps rs rn P W pv wv PV)
    (hrs : rs ≤ 12) (hrn : 1 ≤ rn) (hrn2 : rn ≤ 65536) (hP : P.length ≤ 65537) (hr : row ≤ 65536) (hpos : pos ≤ 1000000000) (hrun : pos / 2 ^ rs < rn) (hn : NoPage P rs row pos) :
    Calls Try.prog 12 #[.pointer (some ⟨S, 0, none⟩), .int .i64 row, .int .i64 pos] w fun e w' => e = .returned (.int .i64 (-1)) ∧ ∃ n, w' = w.drewN n := by
  have drew0 : ∀ {Q : Ending → Prop}, (Calls Try.prog 12 #[.pointer (some ⟨S, 0, none⟩), .int .i64 row, .int .i64 pos] w fun e w' => Q e ∧ w' = w) → Calls Try.prog 12 #[.pointer (some ⟨S, 0, none⟩), .int .i64 row, .int .i64 pos] w fun e w' => Q e ∧ ∃ n, w' = w.drewN n :=
    fun h => h.mono fun e w' ⟨h1, h2⟩ => ⟨h1, 0, by rw [h2]; rfl⟩
  obtain ⟨c0, c1, c2, c3, c4⟩ := h.cell
  by_cases hlt : row < P.length
  · obtain ⟨g, cap, rfl, hg⟩ := own_form h.hp (by omega)
    have hlen : PV.length = P.length := by have := h.hp.1; omega
    have hcr := h.hp.cellAt row (by omega)
    obtain ⟨v, hv⟩ : ∃ v, PV[row]? = some v := ⟨_, List.getElem?_eq_getElem (by omega)⟩
    obtain ⟨L, hL⟩ : ∃ L, P[row]? = some L := ⟨_, List.getElem?_eq_getElem hlt⟩
    rw [hv] at hcr
    rcases h.hrow row L v hL hv with ⟨_, rfl⟩ | ⟨h1, ⟨gr, cr, rfl⟩, h3⟩
    · exact drew0 (word_nil S g P.length cap row pos w c0 hP hr hlt hcr)
    · refine word_none S g gr P.length cap row pos rs rn cr (pos / 2 ^ rs) w c0 hP hr hlt hcr hrn hrn2 c3 hrs hpos (pos_run pos rs) hrun ?_
      have := h3.cellAt (pos / 2 ^ rs) (by omega)
      rw [this, List.getElem?_map, List.getElem?_eq_getElem (by omega)]
      unfold NoPage at hn
      have hL' : P.getD row [] = L := by rw [List.getD_eq_getElem?_getD, hL, Option.getD_some]
      rw [hL', List.getD_eq_getElem?_getD, List.getElem?_eq_getElem (by omega), Option.getD_some] at hn
      simp [hn]
  · have hf : ∃ pa R C, pv = .slice pa R C ∧ R = P.length := by
      rcases h.hp.2 with ⟨rfl, h2⟩ | ⟨g, cap, cur, rfl, _⟩
      · exact ⟨none, 0, 0, rfl, h2.symm⟩
      · exact ⟨_, _, _, rfl, rfl⟩
    obtain ⟨pa, R, C, rfl, rfl⟩ := hf
    exact drew0 (word_out S pa P.length C row pos w c0 hP hr (by omega))

theorem pow_lt64 {b : Nat} (hb : b < 64) : 2 ^ b < 18446744073709551616 := Nat.pow_lt_pow_right (by decide) (show b < 64 from hb)
theorem wrap_bit {b : Nat} (hb : b < 64) : IntKind.u64.wrap (2 ^ b) = ((2 ^ b : Nat) : Int) := by
  have := pow_lt64 hb
  rw [IntKind.wrap_u64]
  have e : ((2 : Int) ^ b) = ((2 ^ b : Nat) : Int) := by simp
  rw [e]
  generalize 2 ^ b = z at *
  omega
theorem and_bit {x b : Nat} (hx : x < 18446744073709551616) (hb : b < 64) : bits BinOp.and IntKind.u64 (x : Int) (IntKind.u64.wrap (2 ^ b)) = ((x &&& 2 ^ b : Nat) : Int) := by
  rw [wrap_bit hb]; exact u64_and_nat x _ hx (pow_lt64 hb)
theorem or_bit {x b : Nat} (hx : x < 18446744073709551616) (hb : b < 64) : bits BinOp.or IntKind.u64 (x : Int) (IntKind.u64.wrap (2 ^ b)) = ((x ||| 2 ^ b : Nat) : Int) := by
  rw [wrap_bit hb]; exact u64_or_nat x _ hx (pow_lt64 hb)
theorem cast_eq0 (n : Nat) : ((n : Int) == 0) = (n == 0) := by
  by_cases h : n = 0
  · subst h; rfl
  · have h1 : ((n : Int) == 0) = false := by simp; omega
    have h2 : (n == 0) = false := by simp; omega
    rw [h1, h2]

theorem getD_of {α : Type} {l : List α} {i : Nat} {x d : α} (h : l[i]? = some x) : l.getD i d = x := by rw [List.getD_eq_getElem?_getD, h, Option.getD_some]

/-- Where a page holds the state, word answers the index of its word. -/
theorem word_hit (B S ps rs rn : Nat) (P : List (List Nat)) (W : List Nat) (row pos k : Nat) (w : World) (pv wv : Value) (PV : List Value) (h : Holds w B S ps rs rn P W pv wv PV)
    (hps : ps ≤ 6) (hrs : rs ≤ 12) (hrn : 1 ≤ rn) (hrn2 : rn ≤ 65536) (hP : P.length ≤ 65537) (hr : row ≤ 65536) (hpos : pos ≤ 1000000000) (hrun : pos / 2 ^ rs < rn) (hn : (P.getD row []).getD (pos / 2 ^ rs) 0 = k + 1) (hk : k ≤ 8192) :
    Calls Try.prog 12 #[.pointer (some ⟨S, 0, none⟩), .int .i64 row, .int .i64 pos] w fun e w' => e = .returned (.int .i64 (idx ps k pos : Int)) ∧ ∃ n, w' = w.drewN n := by
  obtain ⟨c0, c1, c2, c3, c4⟩ := h.cell
  have hlt : row < P.length := by
    apply Classical.byContradiction
    intro hc
    have e : P.getD row [] = [] := by rw [List.getD_eq_getElem?_getD, List.getElem?_eq_none (by omega)]; rfl
    rw [e] at hn
    simp at hn
  obtain ⟨g, cap, rfl, hg⟩ := own_form h.hp (by omega)
  have hlen : PV.length = P.length := by have := h.hp.1; omega
  have hcr := h.hp.cellAt row (by omega)
  obtain ⟨v, hv⟩ : ∃ v, PV[row]? = some v := ⟨_, List.getElem?_eq_getElem (by omega)⟩
  obtain ⟨L, hL⟩ : ∃ L, P[row]? = some L := ⟨_, List.getElem?_eq_getElem hlt⟩
  rw [hv] at hcr
  rw [getD_of hL] at hn
  rcases h.hrow row L v hL hv with ⟨rfl, _⟩ | ⟨h1, ⟨gr, cr, rfl⟩, h3⟩
  · simp at hn
  · refine word_some S g gr P.length cap row pos ps rs rn cr (pos / 2 ^ rs) k w c0 hP hr hlt hcr hrn hrn2 c2 hps c3 hrs hpos (pos_run pos rs) hrun ?_ hk
    have := h3.cellAt (pos / 2 ^ rs) (by omega)
    rw [this, List.getElem?_map, List.getElem?_eq_getElem (by omega)]
    rw [List.getD_eq_getElem?_getD, List.getElem?_eq_getElem (by omega), Option.getD_some] at hn
    simp [hn]

end Go.Proofs.Qxb6600375a
