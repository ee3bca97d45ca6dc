/-
  No cell of these rows narrows 'for every input' (looked for: loops, veiled, ifaces, maps, wideKeys, modest, calm, conditions, laid).
  DERIVED. THE GIVEN ROWS OF THIS SEAT. 1 by the template 'for every input the law returns true; each argument reads behind the call as it read before'; 0 by the template 'total and deterministic' (their statements: Qxb6619586aTotals.lean).
  GIVEN WITH THE SEED: the statements are not yours to turn. If you find one false, say at which input.
  Laid BY PROGRAM, IN A SANDBOX (cutbox-rows.mjs): the forced cells as the released guide's own fill.sh prints them over the translation 04e53405cdceb61f… (all of the seat's roots in one cut). By AI agents, Wed Nov 11 2026. No macro, syntax, notation, axiom, sorry.
-/
import Derived.Test.Qxb6619586aChecked
import GoSem.Claim
import GoSem.ClaimJoined
import GoSem.ClaimMapViews
import Derived.JoinedTies
import Derived.KernelRfl
namespace Go.Proofs.Qxb6619586a
/- THE CELL 'sum', in the pinned program and in every row, IS THE sha256 OF THE DUMP (.gsa) THAT Qxb6619586aProg.lean LOADS. Nothing in Lean hashes anything: it is a label: what it is worth is what the hold of that sum in a sandbox is worth. -/
noncomputable def Try.pinned : Pinned := { name := "qxb6619586a", sum := "04e53405cdceb61f289932f88e73c08818e2b203241df42290df2e9a6b85c32b", checked := Try.checked }
namespace Rows
def none {H : Type} : Left H := { results := [], args := [] }

/-- 'zzlaws_versions_b1.FnPep440StringSplitsAtAnyReleaseCut': WHATEVER THE INPUT: true; the input reads as it did. -/
def fnPep440StringSplitsAtAnyReleaseCutSpec : ChangeSpec := { name := "fnPep440StringSplitsAtAnyReleaseCut", fn := fun _ => fun
  | [d1, d2, d3, d4, d5, d6, d7, d8] => { results := [.lit (.bool true)], args := [d1, d2, d3, d4, d5, d6, d7, d8] }
  | _ => none }
def fnPep440StringSplitsAtAnyReleaseCutRow : OpenClaim := { program := "qxb6619586a", sum := "04e53405cdceb61f289932f88e73c08818e2b203241df42290df2e9a6b85c32b", func := "example.com/toolhold/toolhold/zzlaws_versions_b1.FnPep440StringSplitsAtAnyReleaseCut", spec := "fnPep440StringSplitsAtAnyReleaseCut", inPlace := ["internal/abi.NoEscape", "internal/bytealg.MakeNoZero"], apart := false }
def FnPep440StringSplitsAtAnyReleaseCutSaid : Prop := fnPep440StringSplitsAtAnyReleaseCutRow.holds Try.pinned (OpenSpec.ofChange fnPep440StringSplitsAtAnyReleaseCutSpec)

/-- ITS FALSE NEIGHBOUR: 'it returns false'. Refute it at one input. -/
def fnPep440StringSplitsAtAnyReleaseCutWrong : ChangeSpec := { name := "fnPep440StringSplitsAtAnyReleaseCut", fn := fun _ => fun
  | [d1, d2, d3, d4, d5, d6, d7, d8] => { results := [.lit (.bool false)], args := [d1, d2, d3, d4, d5, d6, d7, d8] }
  | _ => none }
def FnPep440StringSplitsAtAnyReleaseCutWrongFalsely : Prop := fnPep440StringSplitsAtAnyReleaseCutRow.holds Try.pinned (OpenSpec.ofChange fnPep440StringSplitsAtAnyReleaseCutWrong)

end Rows
end Go.Proofs.Qxb6619586a
