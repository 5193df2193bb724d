/-
  No cell of these rows narrows 'for every input' (looked for: loops, veiled, ifaces, maps, wideKeys, modest, calm, conditions, laid).
  DERIVED. THE GIVEN ROWS OF THIS SEAT. 1 by the template 'for every input the law returns true; each argument reads behind the call as it read before'; 0 by the template 'total and deterministic' (their statements: Qxb6612245aTotals.lean).
  GIVEN WITH THE SEED: the statements are not yours to turn. If you find one false, say at which input.
  Laid BY PROGRAM, IN A SANDBOX (cutbox-rows.mjs): the forced cells as the released guide's own fill.sh prints them over the translation 75872749513a0b33… (all of the seat's roots in one cut). By AI agents, Wed Nov 11 2026. No macro, syntax, notation, axiom, sorry.
-/
import Derived.Test.Qxb6612245aChecked
import GoSem.Claim
import GoSem.ClaimJoined
import GoSem.ClaimMapViews
import Derived.JoinedTies
import Derived.KernelRfl
namespace Go.Proofs.Qxb6612245a
/- THE CELL 'sum', in the pinned program and in every row, IS THE sha256 OF THE DUMP (.gsa) THAT Qxb6612245aProg.lean LOADS. Nothing in Lean hashes anything: it is a label: what it is worth is what the hold of that sum in a sandbox is worth. -/
noncomputable def Try.pinned : Pinned := { name := "qxb6612245a", sum := "75872749513a0b33aa8cc6e139fb010fff03a4d2e96a615c6a4ad2b0cb733085", checked := Try.checked }
namespace Rows
def none {H : Type} : Left H := { results := [], args := [] }

/-- 'zzlaws_internal_server_b1.FnStatedSeparatesPathsAndNamesNone': WHATEVER THE INPUT: true; the input reads as it did. -/
def fnStatedSeparatesPathsAndNamesNoneSpec : ChangeSpec := { name := "fnStatedSeparatesPathsAndNamesNone", fn := fun _ => fun
  | [d1, d2, d3] => { results := [.lit (.bool true)], args := [d1, d2, d3] }
  | _ => none }
def fnStatedSeparatesPathsAndNamesNoneRow : OpenClaim := { program := "qxb6612245a", sum := "75872749513a0b33aa8cc6e139fb010fff03a4d2e96a615c6a4ad2b0cb733085", func := "example.com/tidemark/tidemark/zzlaws_internal_server_b1.FnStatedSeparatesPathsAndNamesNone", spec := "fnStatedSeparatesPathsAndNamesNone", apart := false }
def FnStatedSeparatesPathsAndNamesNoneSaid : Prop := fnStatedSeparatesPathsAndNamesNoneRow.holds Try.pinned (OpenSpec.ofChange fnStatedSeparatesPathsAndNamesNoneSpec)

/-- ITS FALSE NEIGHBOUR: 'it returns false'. Refute it at one input. -/
def fnStatedSeparatesPathsAndNamesNoneWrong : ChangeSpec := { name := "fnStatedSeparatesPathsAndNamesNone", fn := fun _ => fun
  | [d1, d2, d3] => { results := [.lit (.bool false)], args := [d1, d2, d3] }
  | _ => none }
def FnStatedSeparatesPathsAndNamesNoneWrongFalsely : Prop := fnStatedSeparatesPathsAndNamesNoneRow.holds Try.pinned (OpenSpec.ofChange fnStatedSeparatesPathsAndNamesNoneWrong)

end Rows
end Go.Proofs.Qxb6612245a
