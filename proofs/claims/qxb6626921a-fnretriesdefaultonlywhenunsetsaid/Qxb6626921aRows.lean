/-
  No cell of these rows narrows 'for every input' (looked for: loops, veiled, ifaces, maps, wideKeys, modest, calm, conditions, laid).
  DERIVED. THE GIVEN ROWS OF THIS SEAT. 2 by the template 'for every input the law returns true; each argument reads behind the call as it read before'; 0 by the template 'total and deterministic' (their statements: Qxb6626921aTotals.lean).
  GIVEN WITH THE SEED: the statements are not yours to turn. If you find one false, say at which input.
  Laid BY PROGRAM, IN A SANDBOX (cutbox-rows.mjs): the forced cells as the released guide's own fill.sh prints them over the translation cd170f56528535a7… (all of the seat's roots in one cut). By AI agents, Wed Nov 11 2026. No macro, syntax, notation, axiom, sorry.
-/
import Derived.Test.Qxb6626921aChecked
import GoSem.Claim
import GoSem.ClaimJoined
import GoSem.ClaimMapViews
import Derived.JoinedTies
import Derived.KernelRfl
namespace Go.Proofs.Qxb6626921a
/- THE CELL 'sum', in the pinned program and in every row, IS THE sha256 OF THE DUMP (.gsa) THAT Qxb6626921aProg.lean LOADS. Nothing in Lean hashes anything: it is a label: what it is worth is what the hold of that sum in a sandbox is worth. -/
noncomputable def Try.pinned : Pinned := { name := "qxb6626921a", sum := "cd170f56528535a7c8ebc93de2895c0dac9ccce7730db747ee2f2b424caea4f7", checked := Try.checked }
namespace Rows
def none {H : Type} : Left H := { results := [], args := [] }

/-- 'zzlaws_pkg_config_b1.FnRetriesExplicitCountIsKept': WHATEVER THE INPUT: true; the input reads as it did. -/
def fnRetriesExplicitCountIsKeptSpec : ChangeSpec := { name := "fnRetriesExplicitCountIsKept", fn := fun _ => fun
  | [d1, d2, d3, d4, d5, d6, d7, d8, d9, d10, d11, d12] => { results := [.lit (.bool true)], args := [d1, d2, d3, d4, d5, d6, d7, d8, d9, d10, d11, d12] }
  | _ => none }
def fnRetriesExplicitCountIsKeptRow : OpenClaim := { program := "qxb6626921a", sum := "cd170f56528535a7c8ebc93de2895c0dac9ccce7730db747ee2f2b424caea4f7", func := "example.com/beadline/beadline/zzlaws_pkg_config_b1.FnRetriesExplicitCountIsKept", spec := "fnRetriesExplicitCountIsKept", apart := false }
def FnRetriesExplicitCountIsKeptSaid : Prop := fnRetriesExplicitCountIsKeptRow.holds Try.pinned (OpenSpec.ofChange fnRetriesExplicitCountIsKeptSpec)

/-- ITS FALSE NEIGHBOUR: 'it returns false'. Refute it at one input. -/
def fnRetriesExplicitCountIsKeptWrong : ChangeSpec := { name := "fnRetriesExplicitCountIsKept", fn := fun _ => fun
  | [d1, d2, d3, d4, d5, d6, d7, d8, d9, d10, d11, d12] => { results := [.lit (.bool false)], args := [d1, d2, d3, d4, d5, d6, d7, d8, d9, d10, d11, d12] }
  | _ => none }
def FnRetriesExplicitCountIsKeptWrongFalsely : Prop := fnRetriesExplicitCountIsKeptRow.holds Try.pinned (OpenSpec.ofChange fnRetriesExplicitCountIsKeptWrong)

/-- 'zzlaws_pkg_config_b1.FnRetriesDefaultOnlyWhenUnset': WHATEVER THE INPUT: true; the input reads as it did. -/
def fnRetriesDefaultOnlyWhenUnsetSpec : ChangeSpec := { name := "fnRetriesDefaultOnlyWhenUnset", fn := fun _ => fun
  | [d1, d2, d3, d4, d5, d6, d7, d8, d9, d10, d11, d12] => { results := [.lit (.bool true)], args := [d1, d2, d3, d4, d5, d6, d7, d8, d9, d10, d11, d12] }
  | _ => none }
def fnRetriesDefaultOnlyWhenUnsetRow : OpenClaim := { program := "qxb6626921a", sum := "cd170f56528535a7c8ebc93de2895c0dac9ccce7730db747ee2f2b424caea4f7", func := "example.com/beadline/beadline/zzlaws_pkg_config_b1.FnRetriesDefaultOnlyWhenUnset", spec := "fnRetriesDefaultOnlyWhenUnset", apart := false }
def FnRetriesDefaultOnlyWhenUnsetSaid : Prop := fnRetriesDefaultOnlyWhenUnsetRow.holds Try.pinned (OpenSpec.ofChange fnRetriesDefaultOnlyWhenUnsetSpec)

/-- ITS FALSE NEIGHBOUR: 'it returns false'. Refute it at one input. -/
def fnRetriesDefaultOnlyWhenUnsetWrong : ChangeSpec := { name := "fnRetriesDefaultOnlyWhenUnset", fn := fun _ => fun
  | [d1, d2, d3, d4, d5, d6, d7, d8, d9, d10, d11, d12] => { results := [.lit (.bool false)], args := [d1, d2, d3, d4, d5, d6, d7, d8, d9, d10, d11, d12] }
  | _ => none }
def FnRetriesDefaultOnlyWhenUnsetWrongFalsely : Prop := fnRetriesDefaultOnlyWhenUnsetRow.holds Try.pinned (OpenSpec.ofChange fnRetriesDefaultOnlyWhenUnsetWrong)

end Rows
end Go.Proofs.Qxb6626921a
