/-
  No cell of these rows narrows 'for every input' (looked for: loops, veiled, ifaces, maps, wideKeys, modest, calm, conditions, laid).
  DERIVED. THE GIVEN ROWS OF THIS SEAT. 6 by the template 'for every input the law returns true; each argument reads behind the call as it read before'; 0 by the template 'total and deterministic' (their statements: Qxb6601149aTotals.lean).
  GIVEN WITH THE SEED: the statements are not yours to turn. If you find one false, say at which input.
  Laid BY PROGRAM, IN A SANDBOX (cutbox-rows.mjs): the forced cells as the released guide's own fill.sh prints them over the translation 97e8c63794a44739… (all of the seat's roots in one cut). By AI agents, Wed Nov 11 2026. No macro, syntax, notation, axiom, sorry.
-/
import Derived.Test.Qxb6601149aChecked
import GoSem.Claim
import GoSem.ClaimJoined
import GoSem.ClaimMapViews
import Derived.JoinedTies
import Derived.KernelRfl
namespace Go.Proofs.Qxb6601149a
/- THE CELL 'sum', in the pinned program and in every row, IS THE sha256 OF THE DUMP (.gsa) THAT Qxb6601149aProg.lean LOADS. Nothing in Lean hashes anything: it is a label: what it is worth is what the hold of that sum in a sandbox is worth. -/
noncomputable def Try.pinned : Pinned := { name := "qxb6601149a", sum := "97e8c63794a447395fd7a6662a1b6dc74f5b1637ee0d081d5bcc65f7f65bd836", checked := Try.checked }
namespace Rows
def none {H : Type} : Left H := { results := [], args := [] }

/-- 'zzlaws_internal_jsonl_b1.FnAppendStringIsCanonicalJSON': WHATEVER THE INPUT: true; the input reads as it did. -/
def fnAppendStringIsCanonicalJSONSpec : ChangeSpec := { name := "fnAppendStringIsCanonicalJSON", fn := fun _ => fun
  | [d1, d2] => { results := [.lit (.bool true)], args := [d1, d2] }
  | _ => none }
def fnAppendStringIsCanonicalJSONRow : OpenClaim := { program := "qxb6601149a", sum := "97e8c63794a447395fd7a6662a1b6dc74f5b1637ee0d081d5bcc65f7f65bd836", func := "example.com/strandline/strandline/zzlaws_internal_jsonl_b1.FnAppendStringIsCanonicalJSON", spec := "fnAppendStringIsCanonicalJSON", apart := false }
def FnAppendStringIsCanonicalJSONSaid : Prop := fnAppendStringIsCanonicalJSONRow.holds Try.pinned (OpenSpec.ofChange fnAppendStringIsCanonicalJSONSpec)

/-- ITS FALSE NEIGHBOUR: 'it returns false'. Refute it at one input. -/
def fnAppendStringIsCanonicalJSONWrong : ChangeSpec := { name := "fnAppendStringIsCanonicalJSON", fn := fun _ => fun
  | [d1, d2] => { results := [.lit (.bool false)], args := [d1, d2] }
  | _ => none }
def FnAppendStringIsCanonicalJSONWrongFalsely : Prop := fnAppendStringIsCanonicalJSONRow.holds Try.pinned (OpenSpec.ofChange fnAppendStringIsCanonicalJSONWrong)

/-- 'zzlaws_internal_jsonl_b1.FnEncodedStringIsOneClosedValue': WHATEVER THE INPUT: true; the input reads as it did. -/
def fnEncodedStringIsOneClosedValueSpec : ChangeSpec := { name := "fnEncodedStringIsOneClosedValue", fn := fun _ => fun
  | [d1, d2] => { results := [.lit (.bool true)], args := [d1, d2] }
  | _ => none }
def fnEncodedStringIsOneClosedValueRow : OpenClaim := { program := "qxb6601149a", sum := "97e8c63794a447395fd7a6662a1b6dc74f5b1637ee0d081d5bcc65f7f65bd836", func := "example.com/strandline/strandline/zzlaws_internal_jsonl_b1.FnEncodedStringIsOneClosedValue", spec := "fnEncodedStringIsOneClosedValue", apart := false }
def FnEncodedStringIsOneClosedValueSaid : Prop := fnEncodedStringIsOneClosedValueRow.holds Try.pinned (OpenSpec.ofChange fnEncodedStringIsOneClosedValueSpec)

/-- ITS FALSE NEIGHBOUR: 'it returns false'. Refute it at one input. -/
def fnEncodedStringIsOneClosedValueWrong : ChangeSpec := { name := "fnEncodedStringIsOneClosedValue", fn := fun _ => fun
  | [d1, d2] => { results := [.lit (.bool false)], args := [d1, d2] }
  | _ => none }
def FnEncodedStringIsOneClosedValueWrongFalsely : Prop := fnEncodedStringIsOneClosedValueRow.holds Try.pinned (OpenSpec.ofChange fnEncodedStringIsOneClosedValueWrong)

/-- 'zzlaws_internal_jsonl_b1.FnWalkMatchesTwoPassModel': WHATEVER THE INPUT: true; the input reads as it did. -/
def fnWalkMatchesTwoPassModelSpec : ChangeSpec := { name := "fnWalkMatchesTwoPassModel", fn := fun _ => fun
  | [d1, d2] => { results := [.lit (.bool true)], args := [d1, d2] }
  | _ => none }
def fnWalkMatchesTwoPassModelRow : OpenClaim := { program := "qxb6601149a", sum := "97e8c63794a447395fd7a6662a1b6dc74f5b1637ee0d081d5bcc65f7f65bd836", func := "example.com/strandline/strandline/zzlaws_internal_jsonl_b1.FnWalkMatchesTwoPassModel", spec := "fnWalkMatchesTwoPassModel", apart := false }
def FnWalkMatchesTwoPassModelSaid : Prop := fnWalkMatchesTwoPassModelRow.holds Try.pinned (OpenSpec.ofChange fnWalkMatchesTwoPassModelSpec)

/-- ITS FALSE NEIGHBOUR: 'it returns false'. Refute it at one input. -/
def fnWalkMatchesTwoPassModelWrong : ChangeSpec := { name := "fnWalkMatchesTwoPassModel", fn := fun _ => fun
  | [d1, d2] => { results := [.lit (.bool false)], args := [d1, d2] }
  | _ => none }
def FnWalkMatchesTwoPassModelWrongFalsely : Prop := fnWalkMatchesTwoPassModelRow.holds Try.pinned (OpenSpec.ofChange fnWalkMatchesTwoPassModelWrong)

/-- 'zzlaws_internal_jsonl_b1.FnWalkStopIgnoresWhatFollows': WHATEVER THE INPUT: true; the input reads as it did. -/
def fnWalkStopIgnoresWhatFollowsSpec : ChangeSpec := { name := "fnWalkStopIgnoresWhatFollows", fn := fun _ => fun
  | [d1, d2] => { results := [.lit (.bool true)], args := [d1, d2] }
  | _ => none }
def fnWalkStopIgnoresWhatFollowsRow : OpenClaim := { program := "qxb6601149a", sum := "97e8c63794a447395fd7a6662a1b6dc74f5b1637ee0d081d5bcc65f7f65bd836", func := "example.com/strandline/strandline/zzlaws_internal_jsonl_b1.FnWalkStopIgnoresWhatFollows", spec := "fnWalkStopIgnoresWhatFollows", apart := false }
def FnWalkStopIgnoresWhatFollowsSaid : Prop := fnWalkStopIgnoresWhatFollowsRow.holds Try.pinned (OpenSpec.ofChange fnWalkStopIgnoresWhatFollowsSpec)

/-- ITS FALSE NEIGHBOUR: 'it returns false'. Refute it at one input. -/
def fnWalkStopIgnoresWhatFollowsWrong : ChangeSpec := { name := "fnWalkStopIgnoresWhatFollows", fn := fun _ => fun
  | [d1, d2] => { results := [.lit (.bool false)], args := [d1, d2] }
  | _ => none }
def FnWalkStopIgnoresWhatFollowsWrongFalsely : Prop := fnWalkStopIgnoresWhatFollowsRow.holds Try.pinned (OpenSpec.ofChange fnWalkStopIgnoresWhatFollowsWrong)

/-- 'zzlaws_internal_jsonl_b1.FnSpanMatchesModel': WHATEVER THE INPUT: true; the input reads as it did. -/
def fnSpanMatchesModelSpec : ChangeSpec := { name := "fnSpanMatchesModel", fn := fun _ => fun
  | [d] => { results := [.lit (.bool true)], args := [d] }
  | _ => none }
def fnSpanMatchesModelRow : OpenClaim := { program := "qxb6601149a", sum := "97e8c63794a447395fd7a6662a1b6dc74f5b1637ee0d081d5bcc65f7f65bd836", func := "example.com/strandline/strandline/zzlaws_internal_jsonl_b1.FnSpanMatchesModel", spec := "fnSpanMatchesModel", apart := false }
def FnSpanMatchesModelSaid : Prop := fnSpanMatchesModelRow.holds Try.pinned (OpenSpec.ofChange fnSpanMatchesModelSpec)

/-- ITS FALSE NEIGHBOUR: 'it returns false'. Refute it at one input. -/
def fnSpanMatchesModelWrong : ChangeSpec := { name := "fnSpanMatchesModel", fn := fun _ => fun
  | [d] => { results := [.lit (.bool false)], args := [d] }
  | _ => none }
def FnSpanMatchesModelWrongFalsely : Prop := fnSpanMatchesModelRow.holds Try.pinned (OpenSpec.ofChange fnSpanMatchesModelWrong)

/-- 'zzlaws_internal_jsonl_b1.FnSpanOfPrefixesIsAStep': WHATEVER THE INPUT: true; the input reads as it did. -/
def fnSpanOfPrefixesIsAStepSpec : ChangeSpec := { name := "fnSpanOfPrefixesIsAStep", fn := fun _ => fun
  | [d1, d2, d3] => { results := [.lit (.bool true)], args := [d1, d2, d3] }
  | _ => none }
def fnSpanOfPrefixesIsAStepRow : OpenClaim := { program := "qxb6601149a", sum := "97e8c63794a447395fd7a6662a1b6dc74f5b1637ee0d081d5bcc65f7f65bd836", func := "example.com/strandline/strandline/zzlaws_internal_jsonl_b1.FnSpanOfPrefixesIsAStep", spec := "fnSpanOfPrefixesIsAStep", apart := false }
def FnSpanOfPrefixesIsAStepSaid : Prop := fnSpanOfPrefixesIsAStepRow.holds Try.pinned (OpenSpec.ofChange fnSpanOfPrefixesIsAStepSpec)

/-- ITS FALSE NEIGHBOUR: 'it returns false'. Refute it at one input. -/
def fnSpanOfPrefixesIsAStepWrong : ChangeSpec := { name := "fnSpanOfPrefixesIsAStep", fn := fun _ => fun
  | [d1, d2, d3] => { results := [.lit (.bool false)], args := [d1, d2, d3] }
  | _ => none }
def FnSpanOfPrefixesIsAStepWrongFalsely : Prop := fnSpanOfPrefixesIsAStepRow.holds Try.pinned (OpenSpec.ofChange fnSpanOfPrefixesIsAStepWrong)

end Rows
end Go.Proofs.Qxb6601149a
