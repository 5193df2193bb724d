/-
  No cell of these rows narrows 'for every input' (looked for: loops, veiled, ifaces, maps, wideKeys, modest, calm, conditions, laid).
  DERIVED. THE GIVEN ROWS OF THIS SEAT. 4 by the template 'for every input the law returns true; each argument reads behind the call as it read before'; 0 by the template 'total and deterministic' (their statements: Qxb6612232aTotals.lean).
  GIVEN WITH THE SEED: the statements are not yours to turn. If you find one false, say at which input.
  Laid BY PROGRAM, IN A SANDBOX (cutbox-rows.mjs): the forced cells as the released guide's own fill.sh prints them over the translation 689ca36b671363f7… (all of the seat's roots in one cut). By AI agents, Wed Nov 11 2026. No macro, syntax, notation, axiom, sorry.
-/
import Derived.Test.Qxb6612232aChecked
import GoSem.Claim
import GoSem.ClaimJoined
import GoSem.ClaimMapViews
import Derived.JoinedTies
import Derived.KernelRfl
namespace Go.Proofs.Qxb6612232a
/- THE CELL 'sum', in the pinned program and in every row, IS THE sha256 OF THE DUMP (.gsa) THAT Qxb6612232aProg.lean LOADS. Nothing in Lean hashes anything: it is a label: what it is worth is what the hold of that sum in a sandbox is worth. -/
noncomputable def Try.pinned : Pinned := { name := "qxb6612232a", sum := "689ca36b671363f74740383cf89ce6c8bbf58f91ea52302936d4362eaea1d19d", checked := Try.checked }
namespace Rows
def none {H : Type} : Left H := { results := [], args := [] }

/-- 'zzlaws_internal_terminal_b1.FnSpansIsOneSpanPerNonemptyStyleRun': WHATEVER THE INPUT: true; the input reads as it did. -/
def fnSpansIsOneSpanPerNonemptyStyleRunSpec : ChangeSpec := { name := "fnSpansIsOneSpanPerNonemptyStyleRun", fn := fun _ => fun
  | [d1, d2, d3, d4] => { results := [.lit (.bool true)], args := [d1, d2, d3, d4] }
  | _ => none }
def fnSpansIsOneSpanPerNonemptyStyleRunRow : OpenClaim := { program := "qxb6612232a", sum := "689ca36b671363f74740383cf89ce6c8bbf58f91ea52302936d4362eaea1d19d", func := "example.com/carillon/carillon/zzlaws_internal_terminal_b1.FnSpansIsOneSpanPerNonemptyStyleRun", spec := "fnSpansIsOneSpanPerNonemptyStyleRun", inPlace := ["internal/abi.NoEscape"], plainKeys := false, apart := false }
def FnSpansIsOneSpanPerNonemptyStyleRunSaid : Prop := fnSpansIsOneSpanPerNonemptyStyleRunRow.holds Try.pinned (OpenSpec.ofChange fnSpansIsOneSpanPerNonemptyStyleRunSpec)

/-- ITS FALSE NEIGHBOUR: 'it returns false'. Refute it at one input. -/
def fnSpansIsOneSpanPerNonemptyStyleRunWrong : ChangeSpec := { name := "fnSpansIsOneSpanPerNonemptyStyleRun", fn := fun _ => fun
  | [d1, d2, d3, d4] => { results := [.lit (.bool false)], args := [d1, d2, d3, d4] }
  | _ => none }
def FnSpansIsOneSpanPerNonemptyStyleRunWrongFalsely : Prop := fnSpansIsOneSpanPerNonemptyStyleRunRow.holds Try.pinned (OpenSpec.ofChange fnSpansIsOneSpanPerNonemptyStyleRunWrong)

/-- 'zzlaws_internal_terminal_b1.FnSpansSplitAtAStyleChangeIsTheSpansOfBothSides': WHATEVER THE INPUT: true; the input reads as it did. -/
def fnSpansSplitAtAStyleChangeIsTheSpansOfBothSidesSpec : ChangeSpec := { name := "fnSpansSplitAtAStyleChangeIsTheSpansOfBothSides", fn := fun _ => fun
  | [d1, d2, d3, d4, d5] => { results := [.lit (.bool true)], args := [d1, d2, d3, d4, d5] }
  | _ => none }
def fnSpansSplitAtAStyleChangeIsTheSpansOfBothSidesRow : OpenClaim := { program := "qxb6612232a", sum := "689ca36b671363f74740383cf89ce6c8bbf58f91ea52302936d4362eaea1d19d", func := "example.com/carillon/carillon/zzlaws_internal_terminal_b1.FnSpansSplitAtAStyleChangeIsTheSpansOfBothSides", spec := "fnSpansSplitAtAStyleChangeIsTheSpansOfBothSides", inPlace := ["internal/abi.NoEscape"], plainKeys := false, apart := false }
def FnSpansSplitAtAStyleChangeIsTheSpansOfBothSidesSaid : Prop := fnSpansSplitAtAStyleChangeIsTheSpansOfBothSidesRow.holds Try.pinned (OpenSpec.ofChange fnSpansSplitAtAStyleChangeIsTheSpansOfBothSidesSpec)

/-- ITS FALSE NEIGHBOUR: 'it returns false'. Refute it at one input. -/
def fnSpansSplitAtAStyleChangeIsTheSpansOfBothSidesWrong : ChangeSpec := { name := "fnSpansSplitAtAStyleChangeIsTheSpansOfBothSides", fn := fun _ => fun
  | [d1, d2, d3, d4, d5] => { results := [.lit (.bool false)], args := [d1, d2, d3, d4, d5] }
  | _ => none }
def FnSpansSplitAtAStyleChangeIsTheSpansOfBothSidesWrongFalsely : Prop := fnSpansSplitAtAStyleChangeIsTheSpansOfBothSidesRow.holds Try.pinned (OpenSpec.ofChange fnSpansSplitAtAStyleChangeIsTheSpansOfBothSidesWrong)

/-- 'zzlaws_internal_terminal_b1.FnTakeBeforeTakesExactlyTheRowsBefore': WHATEVER THE INPUT: true; the input reads as it did. -/
def fnTakeBeforeTakesExactlyTheRowsBeforeSpec : ChangeSpec := { name := "fnTakeBeforeTakesExactlyTheRowsBefore", fn := fun _ => fun
  | [d1, d2, d3] => { results := [.lit (.bool true)], args := [d1, d2, d3] }
  | _ => none }
def fnTakeBeforeTakesExactlyTheRowsBeforeRow : OpenClaim := { program := "qxb6612232a", sum := "689ca36b671363f74740383cf89ce6c8bbf58f91ea52302936d4362eaea1d19d", func := "example.com/carillon/carillon/zzlaws_internal_terminal_b1.FnTakeBeforeTakesExactlyTheRowsBefore", spec := "fnTakeBeforeTakesExactlyTheRowsBefore", unfollowed := true, recurses := true, plainKeys := false, apart := false }
def FnTakeBeforeTakesExactlyTheRowsBeforeSaid : Prop := fnTakeBeforeTakesExactlyTheRowsBeforeRow.holds Try.pinned (OpenSpec.ofChange fnTakeBeforeTakesExactlyTheRowsBeforeSpec)

/-- ITS FALSE NEIGHBOUR: 'it returns false'. Refute it at one input. -/
def fnTakeBeforeTakesExactlyTheRowsBeforeWrong : ChangeSpec := { name := "fnTakeBeforeTakesExactlyTheRowsBefore", fn := fun _ => fun
  | [d1, d2, d3] => { results := [.lit (.bool false)], args := [d1, d2, d3] }
  | _ => none }
def FnTakeBeforeTakesExactlyTheRowsBeforeWrongFalsely : Prop := fnTakeBeforeTakesExactlyTheRowsBeforeRow.holds Try.pinned (OpenSpec.ofChange fnTakeBeforeTakesExactlyTheRowsBeforeWrong)

/-- 'zzlaws_internal_terminal_b1.FnTakeBeforeTwiceTakesWhatOnceTakes': WHATEVER THE INPUT: true; the input reads as it did. -/
def fnTakeBeforeTwiceTakesWhatOnceTakesSpec : ChangeSpec := { name := "fnTakeBeforeTwiceTakesWhatOnceTakes", fn := fun _ => fun
  | [d1, d2, d3, d4] => { results := [.lit (.bool true)], args := [d1, d2, d3, d4] }
  | _ => none }
def fnTakeBeforeTwiceTakesWhatOnceTakesRow : OpenClaim := { program := "qxb6612232a", sum := "689ca36b671363f74740383cf89ce6c8bbf58f91ea52302936d4362eaea1d19d", func := "example.com/carillon/carillon/zzlaws_internal_terminal_b1.FnTakeBeforeTwiceTakesWhatOnceTakes", spec := "fnTakeBeforeTwiceTakesWhatOnceTakes", unfollowed := true, recurses := true, plainKeys := false, apart := false }
def FnTakeBeforeTwiceTakesWhatOnceTakesSaid : Prop := fnTakeBeforeTwiceTakesWhatOnceTakesRow.holds Try.pinned (OpenSpec.ofChange fnTakeBeforeTwiceTakesWhatOnceTakesSpec)

/-- ITS FALSE NEIGHBOUR: 'it returns false'. Refute it at one input. -/
def fnTakeBeforeTwiceTakesWhatOnceTakesWrong : ChangeSpec := { name := "fnTakeBeforeTwiceTakesWhatOnceTakes", fn := fun _ => fun
  | [d1, d2, d3, d4] => { results := [.lit (.bool false)], args := [d1, d2, d3, d4] }
  | _ => none }
def FnTakeBeforeTwiceTakesWhatOnceTakesWrongFalsely : Prop := fnTakeBeforeTwiceTakesWhatOnceTakesRow.holds Try.pinned (OpenSpec.ofChange fnTakeBeforeTwiceTakesWhatOnceTakesWrong)

end Rows
end Go.Proofs.Qxb6612232a
