/-
  No cell of these rows narrows 'for every input' (looked for: loops, veiled, ifaces, maps, wideKeys, modest, calm, conditions, laid).
  DERIVED. THE GIVEN ROWS OF THIS SEAT. 2 by the template 'for every input the law returns true; each argument reads behind the call as it read before'; 0 by the template 'total and deterministic' (their statements: Qxb6600375aTotals.lean).
  GIVEN WITH THE SEED: the statements are not yours to turn. If you find one false, say at which input.
  Laid BY PROGRAM, IN A SANDBOX (cutbox-rows.mjs): the forced cells as the released guide's own fill.sh prints them over the translation 5f5b617246473526… (all of the seat's roots in one cut). By AI agents, Wed Nov 11 2026. No macro, syntax, notation, axiom, sorry.
-/
import Derived.Test.Qxb6600375aChecked
import GoSem.Claim
import GoSem.ClaimJoined
import GoSem.ClaimMapViews
import Derived.JoinedTies
import Derived.KernelRfl
namespace Go.Proofs.Qxb6600375a
/- THE CELL 'sum', in the pinned program and in every row, IS THE sha256 OF THE DUMP (.gsa) THAT Qxb6600375aProg.lean LOADS. Nothing in Lean hashes anything: it is a label: what it is worth is what the hold of that sum in a sandbox is worth. -/
noncomputable def Try.pinned : Pinned := { name := "qxb6600375a", sum := "5f5b6172464735268a588514634329aec9709e7e1640f6e486708db9c404445d", checked := Try.checked }
namespace Rows
def none {H : Type} : Left H := { results := [], args := [] }

/-- 'zzlaws_internal_ecmaregexp_b1.FnStateSetAddReportsNewStatesExactly': WHATEVER THE INPUT: true; the input reads as it did. -/
def fnStateSetAddReportsNewStatesExactlySpec : ChangeSpec := { name := "fnStateSetAddReportsNewStatesExactly", fn := fun _ => fun
  | [d1, d2, d3, d4, d5] => { results := [.lit (.bool true)], args := [d1, d2, d3, d4, d5] }
  | _ => none }
def fnStateSetAddReportsNewStatesExactlyRow : OpenClaim := { program := "qxb6600375a", sum := "5f5b6172464735268a588514634329aec9709e7e1640f6e486708db9c404445d", func := "example.com/tidings/tidings/zzlaws_internal_ecmaregexp_b1.FnStateSetAddReportsNewStatesExactly", spec := "fnStateSetAddReportsNewStatesExactly", apart := false }
def FnStateSetAddReportsNewStatesExactlySaid : Prop := fnStateSetAddReportsNewStatesExactlyRow.holds Try.pinned (OpenSpec.ofChange fnStateSetAddReportsNewStatesExactlySpec)

/-- ITS FALSE NEIGHBOUR: 'it returns false'. Refute it at one input. -/
def fnStateSetAddReportsNewStatesExactlyWrong : ChangeSpec := { name := "fnStateSetAddReportsNewStatesExactly", fn := fun _ => fun
  | [d1, d2, d3, d4, d5] => { results := [.lit (.bool false)], args := [d1, d2, d3, d4, d5] }
  | _ => none }
def FnStateSetAddReportsNewStatesExactlyWrongFalsely : Prop := fnStateSetAddReportsNewStatesExactlyRow.holds Try.pinned (OpenSpec.ofChange fnStateSetAddReportsNewStatesExactlyWrong)

/-- 'zzlaws_internal_ecmaregexp_b1.FnStateSetAddTakesOnePagePerRowAndRun': WHATEVER THE INPUT: true; the input reads as it did. -/
def fnStateSetAddTakesOnePagePerRowAndRunSpec : ChangeSpec := { name := "fnStateSetAddTakesOnePagePerRowAndRun", fn := fun _ => fun
  | [d1, d2, d3, d4, d5] => { results := [.lit (.bool true)], args := [d1, d2, d3, d4, d5] }
  | _ => none }
def fnStateSetAddTakesOnePagePerRowAndRunRow : OpenClaim := { program := "qxb6600375a", sum := "5f5b6172464735268a588514634329aec9709e7e1640f6e486708db9c404445d", func := "example.com/tidings/tidings/zzlaws_internal_ecmaregexp_b1.FnStateSetAddTakesOnePagePerRowAndRun", spec := "fnStateSetAddTakesOnePagePerRowAndRun", apart := false }
def FnStateSetAddTakesOnePagePerRowAndRunSaid : Prop := fnStateSetAddTakesOnePagePerRowAndRunRow.holds Try.pinned (OpenSpec.ofChange fnStateSetAddTakesOnePagePerRowAndRunSpec)

/-- ITS FALSE NEIGHBOUR: 'it returns false'. Refute it at one input. -/
def fnStateSetAddTakesOnePagePerRowAndRunWrong : ChangeSpec := { name := "fnStateSetAddTakesOnePagePerRowAndRun", fn := fun _ => fun
  | [d1, d2, d3, d4, d5] => { results := [.lit (.bool false)], args := [d1, d2, d3, d4, d5] }
  | _ => none }
def FnStateSetAddTakesOnePagePerRowAndRunWrongFalsely : Prop := fnStateSetAddTakesOnePagePerRowAndRunRow.holds Try.pinned (OpenSpec.ofChange fnStateSetAddTakesOnePagePerRowAndRunWrong)

end Rows
end Go.Proofs.Qxb6600375a
