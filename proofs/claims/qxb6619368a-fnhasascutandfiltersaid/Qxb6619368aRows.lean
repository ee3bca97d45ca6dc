/-
  No cell of these rows narrows 'for every input' (looked for: loops, veiled, ifaces, maps, wideKeys, modest, calm, conditions, laid).
  DERIVED. THE GIVEN ROWS OF THIS SEAT. 1 by the template 'for every input the law returns true; each argument reads behind the call as it read before'; 0 by the template 'total and deterministic' (their statements: Qxb6619368aTotals.lean).
  GIVEN WITH THE SEED: the statements are not yours to turn. If you find one false, say at which input.
  Laid BY PROGRAM, IN A SANDBOX (cutbox-rows.mjs): the forced cells as the released guide's own fill.sh prints them over the translation a8c1205ddc64dbdd… (all of the seat's roots in one cut). By AI agents, Wed Nov 11 2026. No macro, syntax, notation, axiom, sorry.
-/
import Derived.Test.Qxb6619368aChecked
import GoSem.Claim
import GoSem.ClaimJoined
import GoSem.ClaimMapViews
import Derived.JoinedTies
import Derived.KernelRfl
namespace Go.Proofs.Qxb6619368a
/- THE CELL 'sum', in the pinned program and in every row, IS THE sha256 OF THE DUMP (.gsa) THAT Qxb6619368aProg.lean LOADS. Nothing in Lean hashes anything: it is a label: what it is worth is what the hold of that sum in a sandbox is worth. -/
noncomputable def Try.pinned : Pinned := { name := "qxb6619368a", sum := "a8c1205ddc64dbdd8562a99852db2cd90878b61d56e4d55300107266d6c3010f", checked := Try.checked }
namespace Rows
def none {H : Type} : Left H := { results := [], args := [] }

/-- 'zzlaws_internal_bgp_b1.FnHasASCutAndFilter': WHATEVER THE INPUT: true; the input reads as it did. -/
def fnHasASCutAndFilterSpec : ChangeSpec := { name := "fnHasASCutAndFilter", fn := fun _ => fun
  | [d1, d2, d3, d4, d5, d6, d7, d8, d9] => { results := [.lit (.bool true)], args := [d1, d2, d3, d4, d5, d6, d7, d8, d9] }
  | _ => none }
def fnHasASCutAndFilterRow : OpenClaim := { program := "qxb6619368a", sum := "a8c1205ddc64dbdd8562a99852db2cd90878b61d56e4d55300107266d6c3010f", func := "example.com/loomspan/loomspan/zzlaws_internal_bgp_b1.FnHasASCutAndFilter", spec := "fnHasASCutAndFilter", apart := false }
def FnHasASCutAndFilterSaid : Prop := fnHasASCutAndFilterRow.holds Try.pinned (OpenSpec.ofChange fnHasASCutAndFilterSpec)

/-- ITS FALSE NEIGHBOUR: 'it returns false'. Refute it at one input. -/
def fnHasASCutAndFilterWrong : ChangeSpec := { name := "fnHasASCutAndFilter", fn := fun _ => fun
  | [d1, d2, d3, d4, d5, d6, d7, d8, d9] => { results := [.lit (.bool false)], args := [d1, d2, d3, d4, d5, d6, d7, d8, d9] }
  | _ => none }
def FnHasASCutAndFilterWrongFalsely : Prop := fnHasASCutAndFilterRow.holds Try.pinned (OpenSpec.ofChange fnHasASCutAndFilterWrong)

end Rows
end Go.Proofs.Qxb6619368a
