/-
  No cell of these rows narrows 'for every input' (looked for: loops, veiled, ifaces, maps, wideKeys, modest, calm, conditions, laid).
  DERIVED. THE GIVEN ROWS OF THIS SEAT. 2 by the template 'for every input the law returns true; each argument reads behind the call as it read before'; 0 by the template 'total and deterministic' (their statements: Qxb6619346aTotals.lean).
  GIVEN WITH THE SEED: the statements are not yours to turn. If you find one false, say at which input.
  Laid BY PROGRAM, IN A SANDBOX (cutbox-rows.mjs): the forced cells as the released guide's own fill.sh prints them over the translation 5937d7b9bd0a16d6… (all of the seat's roots in one cut). By AI agents, Wed Nov 11 2026. No macro, syntax, notation, axiom, sorry.
-/
import Derived.Test.Qxb6619346aChecked
import GoSem.Claim
import GoSem.ClaimJoined
import GoSem.ClaimMapViews
import Derived.JoinedTies
import Derived.KernelRfl
namespace Go.Proofs.Qxb6619346a
/- THE CELL 'sum', in the pinned program and in every row, IS THE sha256 OF THE DUMP (.gsa) THAT Qxb6619346aProg.lean LOADS. Nothing in Lean hashes anything: it is a label: what it is worth is what the hold of that sum in a sandbox is worth. -/
noncomputable def Try.pinned : Pinned := { name := "qxb6619346a", sum := "5937d7b9bd0a16d6349677d8ff71ec988d7559da226d15e7a75226c8425ff715", checked := Try.checked }
namespace Rows
def none {H : Type} : Left H := { results := [], args := [] }

/-- 'zzlaws_internal_secret_b1.FnAddHexDigitShiftsAndReadsHexRuns': WHATEVER THE INPUT: true; the input reads as it did. -/
def fnAddHexDigitShiftsAndReadsHexRunsSpec : ChangeSpec := { name := "fnAddHexDigitShiftsAndReadsHexRuns", fn := fun _ => fun
  | [d1, d2] => { results := [.lit (.bool true)], args := [d1, d2] }
  | _ => none }
def fnAddHexDigitShiftsAndReadsHexRunsRow : OpenClaim := { program := "qxb6619346a", sum := "5937d7b9bd0a16d6349677d8ff71ec988d7559da226d15e7a75226c8425ff715", func := "example.com/enquiry-to-report/enquiry-to-report/zzlaws_internal_secret_b1.FnAddHexDigitShiftsAndReadsHexRuns", spec := "fnAddHexDigitShiftsAndReadsHexRuns", apart := false }
def FnAddHexDigitShiftsAndReadsHexRunsSaid : Prop := fnAddHexDigitShiftsAndReadsHexRunsRow.holds Try.pinned (OpenSpec.ofChange fnAddHexDigitShiftsAndReadsHexRunsSpec)

/-- ITS FALSE NEIGHBOUR: 'it returns false'. Refute it at one input. -/
def fnAddHexDigitShiftsAndReadsHexRunsWrong : ChangeSpec := { name := "fnAddHexDigitShiftsAndReadsHexRuns", fn := fun _ => fun
  | [d1, d2] => { results := [.lit (.bool false)], args := [d1, d2] }
  | _ => none }
def FnAddHexDigitShiftsAndReadsHexRunsWrongFalsely : Prop := fnAddHexDigitShiftsAndReadsHexRunsRow.holds Try.pinned (OpenSpec.ofChange fnAddHexDigitShiftsAndReadsHexRunsWrong)

/-- 'zzlaws_internal_secret_b1.FnJsonUnescapeIsInjectiveAndClosed': WHATEVER THE INPUT: true; the input reads as it did. -/
def fnJsonUnescapeIsInjectiveAndClosedSpec : ChangeSpec := { name := "fnJsonUnescapeIsInjectiveAndClosed", fn := fun _ => fun
  | [d] => { results := [.lit (.bool true)], args := [d] }
  | _ => none }
def fnJsonUnescapeIsInjectiveAndClosedRow : OpenClaim := { program := "qxb6619346a", sum := "5937d7b9bd0a16d6349677d8ff71ec988d7559da226d15e7a75226c8425ff715", func := "example.com/enquiry-to-report/enquiry-to-report/zzlaws_internal_secret_b1.FnJsonUnescapeIsInjectiveAndClosed", spec := "fnJsonUnescapeIsInjectiveAndClosed", apart := false }
def FnJsonUnescapeIsInjectiveAndClosedSaid : Prop := fnJsonUnescapeIsInjectiveAndClosedRow.holds Try.pinned (OpenSpec.ofChange fnJsonUnescapeIsInjectiveAndClosedSpec)

/-- ITS FALSE NEIGHBOUR: 'it returns false'. Refute it at one input. -/
def fnJsonUnescapeIsInjectiveAndClosedWrong : ChangeSpec := { name := "fnJsonUnescapeIsInjectiveAndClosed", fn := fun _ => fun
  | [d] => { results := [.lit (.bool false)], args := [d] }
  | _ => none }
def FnJsonUnescapeIsInjectiveAndClosedWrongFalsely : Prop := fnJsonUnescapeIsInjectiveAndClosedRow.holds Try.pinned (OpenSpec.ofChange fnJsonUnescapeIsInjectiveAndClosedWrong)

end Rows
end Go.Proofs.Qxb6619346a
