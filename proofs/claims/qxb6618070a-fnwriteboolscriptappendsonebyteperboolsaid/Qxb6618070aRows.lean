/-
  No cell of these rows narrows 'for every input' (looked for: loops, veiled, ifaces, maps, wideKeys, modest, calm, conditions, laid).
  DERIVED. THE GIVEN ROWS OF THIS SEAT. 1 by the template 'for every input the law returns true; each argument reads behind the call as it read before'; 0 by the template 'total and deterministic' (their statements: Qxb6618070aTotals.lean).
  GIVEN WITH THE SEED: the statements are not yours to turn. If you find one false, say at which input.
  Laid BY PROGRAM, IN A SANDBOX (cutbox-rows.mjs): the forced cells as the released guide's own fill.sh prints them over the translation 34583dec3d108470… (all of the seat's roots in one cut). By AI agents, Wed Nov 11 2026. No macro, syntax, notation, axiom, sorry.
-/
import Derived.Test.Qxb6618070aChecked
import GoSem.Claim
import GoSem.ClaimJoined
import GoSem.ClaimMapViews
import Derived.JoinedTies
import Derived.KernelRfl
namespace Go.Proofs.Qxb6618070a
/- THE CELL 'sum', in the pinned program and in every row, IS THE sha256 OF THE DUMP (.gsa) THAT Qxb6618070aProg.lean LOADS. Nothing in Lean hashes anything: it is a label: what it is worth is what the hold of that sum in a sandbox is worth. -/
noncomputable def Try.pinned : Pinned := { name := "qxb6618070a", sum := "34583dec3d108470260963f4330c94daf3645f0ac6362c15ac8b7557736e980c", checked := Try.checked }
namespace Rows
def none {H : Type} : Left H := { results := [], args := [] }

/-- 'zzlaws_wire_b1.FnWriteBoolScriptAppendsOneBytePerBool': WHATEVER THE INPUT: true; the input reads as it did. -/
def fnWriteBoolScriptAppendsOneBytePerBoolSpec : ChangeSpec := { name := "fnWriteBoolScriptAppendsOneBytePerBool", fn := fun _ => fun
  | [d1, d2, d3] => { results := [.lit (.bool true)], args := [d1, d2, d3] }
  | _ => none }
def fnWriteBoolScriptAppendsOneBytePerBoolRow : OpenClaim := { program := "qxb6618070a", sum := "34583dec3d108470260963f4330c94daf3645f0ac6362c15ac8b7557736e980c", func := "example.com/quorumtree/quorumtree/zzlaws_wire_b1.FnWriteBoolScriptAppendsOneBytePerBool", spec := "fnWriteBoolScriptAppendsOneBytePerBool", apart := false }
def FnWriteBoolScriptAppendsOneBytePerBoolSaid : Prop := fnWriteBoolScriptAppendsOneBytePerBoolRow.holds Try.pinned (OpenSpec.ofChange fnWriteBoolScriptAppendsOneBytePerBoolSpec)

/-- ITS FALSE NEIGHBOUR: 'it returns false'. Refute it at one input. -/
def fnWriteBoolScriptAppendsOneBytePerBoolWrong : ChangeSpec := { name := "fnWriteBoolScriptAppendsOneBytePerBool", fn := fun _ => fun
  | [d1, d2, d3] => { results := [.lit (.bool false)], args := [d1, d2, d3] }
  | _ => none }
def FnWriteBoolScriptAppendsOneBytePerBoolWrongFalsely : Prop := fnWriteBoolScriptAppendsOneBytePerBoolRow.holds Try.pinned (OpenSpec.ofChange fnWriteBoolScriptAppendsOneBytePerBoolWrong)

end Rows
end Go.Proofs.Qxb6618070a
