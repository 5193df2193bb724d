/-
  No cell of these rows narrows 'for every input' (looked for: loops, veiled, ifaces, maps, wideKeys, modest, calm, conditions, laid).
  DERIVED. THE GIVEN ROWS OF THIS SEAT. 4 by the template 'for every input the law returns true; each argument reads behind the call as it read before'; 0 by the template 'total and deterministic' (their statements: Qxb6612289aTotals.lean).
  GIVEN WITH THE SEED: the statements are not yours to turn. If you find one false, say at which input.
  Laid BY PROGRAM, IN A SANDBOX (cutbox-rows.mjs): the forced cells as the released guide's own fill.sh prints them over the translation 047d7dd7c599b398… (all of the seat's roots in one cut). By AI agents, Wed Nov 11 2026. No macro, syntax, notation, axiom, sorry.
-/
import Derived.Test.Qxb6612289aChecked
import GoSem.Claim
import GoSem.ClaimJoined
import GoSem.ClaimMapViews
import Derived.JoinedTies
import Derived.KernelRfl
namespace Go.Proofs.Qxb6612289a
/- THE CELL 'sum', in the pinned program and in every row, IS THE sha256 OF THE DUMP (.gsa) THAT Qxb6612289aProg.lean LOADS. Nothing in Lean hashes anything: it is a label: what it is worth is what the hold of that sum in a sandbox is worth. -/
noncomputable def Try.pinned : Pinned := { name := "qxb6612289a", sum := "047d7dd7c599b398f08742d691204faef5d9f19019d258571174e0eab7151488", checked := Try.checked }
namespace Rows
def none {H : Type} : Left H := { results := [], args := [] }

/-- 'zzlaws_query_b1.FnLabelsKeyDecodesBack': WHATEVER THE INPUT: true; the input reads as it did. -/
def fnLabelsKeyDecodesBackSpec : ChangeSpec := { name := "fnLabelsKeyDecodesBack", fn := fun _ => fun
  | [d] => { results := [.lit (.bool true)], args := [d] }
  | _ => none }
def fnLabelsKeyDecodesBackRow : OpenClaim := { program := "qxb6612289a", sum := "047d7dd7c599b398f08742d691204faef5d9f19019d258571174e0eab7151488", func := "example.com/gaugewell/gaugewell/zzlaws_query_b1.FnLabelsKeyDecodesBack", spec := "fnLabelsKeyDecodesBack", apart := false }
def FnLabelsKeyDecodesBackSaid : Prop := fnLabelsKeyDecodesBackRow.holds Try.pinned (OpenSpec.ofChange fnLabelsKeyDecodesBackSpec)

/-- ITS FALSE NEIGHBOUR: 'it returns false'. Refute it at one input. -/
def fnLabelsKeyDecodesBackWrong : ChangeSpec := { name := "fnLabelsKeyDecodesBack", fn := fun _ => fun
  | [d] => { results := [.lit (.bool false)], args := [d] }
  | _ => none }
def FnLabelsKeyDecodesBackWrongFalsely : Prop := fnLabelsKeyDecodesBackRow.holds Try.pinned (OpenSpec.ofChange fnLabelsKeyDecodesBackWrong)

/-- 'zzlaws_query_b1.FnLabelsKeyInjective': WHATEVER THE INPUT: true; the input reads as it did. -/
def fnLabelsKeyInjectiveSpec : ChangeSpec := { name := "fnLabelsKeyInjective", fn := fun _ => fun
  | [d1, d2] => { results := [.lit (.bool true)], args := [d1, d2] }
  | _ => none }
def fnLabelsKeyInjectiveRow : OpenClaim := { program := "qxb6612289a", sum := "047d7dd7c599b398f08742d691204faef5d9f19019d258571174e0eab7151488", func := "example.com/gaugewell/gaugewell/zzlaws_query_b1.FnLabelsKeyInjective", spec := "fnLabelsKeyInjective", apart := false }
def FnLabelsKeyInjectiveSaid : Prop := fnLabelsKeyInjectiveRow.holds Try.pinned (OpenSpec.ofChange fnLabelsKeyInjectiveSpec)

/-- ITS FALSE NEIGHBOUR: 'it returns false'. Refute it at one input. -/
def fnLabelsKeyInjectiveWrong : ChangeSpec := { name := "fnLabelsKeyInjective", fn := fun _ => fun
  | [d1, d2] => { results := [.lit (.bool false)], args := [d1, d2] }
  | _ => none }
def FnLabelsKeyInjectiveWrongFalsely : Prop := fnLabelsKeyInjectiveRow.holds Try.pinned (OpenSpec.ofChange fnLabelsKeyInjectiveWrong)

/-- 'zzlaws_query_b1.FnSkipDigitsStopsAtEndOfRun': WHATEVER THE INPUT: true; the input reads as it did. -/
def fnSkipDigitsStopsAtEndOfRunSpec : ChangeSpec := { name := "fnSkipDigitsStopsAtEndOfRun", fn := fun _ => fun
  | [d1, d2, d3] => { results := [.lit (.bool true)], args := [d1, d2, d3] }
  | _ => none }
def fnSkipDigitsStopsAtEndOfRunRow : OpenClaim := { program := "qxb6612289a", sum := "047d7dd7c599b398f08742d691204faef5d9f19019d258571174e0eab7151488", func := "example.com/gaugewell/gaugewell/zzlaws_query_b1.FnSkipDigitsStopsAtEndOfRun", spec := "fnSkipDigitsStopsAtEndOfRun", inPlace := ["internal/bytealg.IndexByteString"], apart := false }
def FnSkipDigitsStopsAtEndOfRunSaid : Prop := fnSkipDigitsStopsAtEndOfRunRow.holds Try.pinned (OpenSpec.ofChange fnSkipDigitsStopsAtEndOfRunSpec)

/-- ITS FALSE NEIGHBOUR: 'it returns false'. Refute it at one input. -/
def fnSkipDigitsStopsAtEndOfRunWrong : ChangeSpec := { name := "fnSkipDigitsStopsAtEndOfRun", fn := fun _ => fun
  | [d1, d2, d3] => { results := [.lit (.bool false)], args := [d1, d2, d3] }
  | _ => none }
def FnSkipDigitsStopsAtEndOfRunWrongFalsely : Prop := fnSkipDigitsStopsAtEndOfRunRow.holds Try.pinned (OpenSpec.ofChange fnSkipDigitsStopsAtEndOfRunWrong)

/-- 'zzlaws_query_b1.FnSkipDigitsRestartsToSameStop': WHATEVER THE INPUT: true; the input reads as it did. -/
def fnSkipDigitsRestartsToSameStopSpec : ChangeSpec := { name := "fnSkipDigitsRestartsToSameStop", fn := fun _ => fun
  | [d1, d2, d3, d4] => { results := [.lit (.bool true)], args := [d1, d2, d3, d4] }
  | _ => none }
def fnSkipDigitsRestartsToSameStopRow : OpenClaim := { program := "qxb6612289a", sum := "047d7dd7c599b398f08742d691204faef5d9f19019d258571174e0eab7151488", func := "example.com/gaugewell/gaugewell/zzlaws_query_b1.FnSkipDigitsRestartsToSameStop", spec := "fnSkipDigitsRestartsToSameStop", inPlace := ["internal/bytealg.IndexByteString"], apart := false }
def FnSkipDigitsRestartsToSameStopSaid : Prop := fnSkipDigitsRestartsToSameStopRow.holds Try.pinned (OpenSpec.ofChange fnSkipDigitsRestartsToSameStopSpec)

/-- ITS FALSE NEIGHBOUR: 'it returns false'. Refute it at one input. -/
def fnSkipDigitsRestartsToSameStopWrong : ChangeSpec := { name := "fnSkipDigitsRestartsToSameStop", fn := fun _ => fun
  | [d1, d2, d3, d4] => { results := [.lit (.bool false)], args := [d1, d2, d3, d4] }
  | _ => none }
def FnSkipDigitsRestartsToSameStopWrongFalsely : Prop := fnSkipDigitsRestartsToSameStopRow.holds Try.pinned (OpenSpec.ofChange fnSkipDigitsRestartsToSameStopWrong)

end Rows
end Go.Proofs.Qxb6612289a
