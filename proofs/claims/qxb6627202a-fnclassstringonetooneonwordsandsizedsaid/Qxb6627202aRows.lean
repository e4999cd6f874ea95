/-
  No cell of these rows narrows 'for every input' (looked for: loops, veiled, ifaces, maps, wideKeys, modest, calm, conditions, laid).
  DERIVED. THE GIVEN ROWS OF THIS SEAT. 2 by the template 'for every input the law returns true; each argument reads behind the call as it read before'; 0 by the template 'total and deterministic' (their statements: Qxb6627202aTotals.lean).
  GIVEN WITH THE SEED: the statements are not yours to turn. If you find one false, say at which input.
  Laid BY PROGRAM, IN A SANDBOX (cutbox-rows.mjs): the forced cells as the released guide's own fill.sh prints them over the translation cb8eaf4eff3febf2… (all of the seat's roots in one cut). By AI agents, Wed Nov 11 2026. No macro, syntax, notation, axiom, sorry.
-/
import Derived.Test.Qxb6627202aChecked
import GoSem.Claim
import GoSem.ClaimJoined
import GoSem.ClaimMapViews
import Derived.JoinedTies
import Derived.KernelRfl
namespace Go.Proofs.Qxb6627202a
/- THE CELL 'sum', in the pinned program and in every row, IS THE sha256 OF THE DUMP (.gsa) THAT Qxb6627202aProg.lean LOADS. Nothing in Lean hashes anything: it is a label: what it is worth is what the hold of that sum in a sandbox is worth. -/
noncomputable def Try.pinned : Pinned := { name := "qxb6627202a", sum := "cb8eaf4eff3febf2f96ca3b32686ac94f9650c1823d8d9b65ace60c4fae4fc88", checked := Try.checked }
namespace Rows
def none {H : Type} : Left H := { results := [], args := [] }

/-- 'zzlaws_composition_b1.FnClassStringWordsJoinAtTheirPlace': WHATEVER THE INPUT: true; the input reads as it did. -/
def fnClassStringWordsJoinAtTheirPlaceSpec : ChangeSpec := { name := "fnClassStringWordsJoinAtTheirPlace", fn := fun _ => fun
  | [d] => { results := [.lit (.bool true)], args := [d] }
  | _ => none }
def fnClassStringWordsJoinAtTheirPlaceRow : OpenClaim := { program := "qxb6627202a", sum := "cb8eaf4eff3febf2f96ca3b32686ac94f9650c1823d8d9b65ace60c4fae4fc88", func := "example.com/amends/amends/zzlaws_composition_b1.FnClassStringWordsJoinAtTheirPlace", spec := "fnClassStringWordsJoinAtTheirPlace", apart := false }
def FnClassStringWordsJoinAtTheirPlaceSaid : Prop := fnClassStringWordsJoinAtTheirPlaceRow.holds Try.pinned (OpenSpec.ofChange fnClassStringWordsJoinAtTheirPlaceSpec)

/-- ITS FALSE NEIGHBOUR: 'it returns false'. Refute it at one input. -/
def fnClassStringWordsJoinAtTheirPlaceWrong : ChangeSpec := { name := "fnClassStringWordsJoinAtTheirPlace", fn := fun _ => fun
  | [d] => { results := [.lit (.bool false)], args := [d] }
  | _ => none }
def FnClassStringWordsJoinAtTheirPlaceWrongFalsely : Prop := fnClassStringWordsJoinAtTheirPlaceRow.holds Try.pinned (OpenSpec.ofChange fnClassStringWordsJoinAtTheirPlaceWrong)

/-- 'zzlaws_composition_b1.FnClassStringOneToOneOnWordsAndSized': WHATEVER THE INPUT: true; the input reads as it did. -/
def fnClassStringOneToOneOnWordsAndSizedSpec : ChangeSpec := { name := "fnClassStringOneToOneOnWordsAndSized", fn := fun _ => fun
  | [d1, d2] => { results := [.lit (.bool true)], args := [d1, d2] }
  | _ => none }
def fnClassStringOneToOneOnWordsAndSizedRow : OpenClaim := { program := "qxb6627202a", sum := "cb8eaf4eff3febf2f96ca3b32686ac94f9650c1823d8d9b65ace60c4fae4fc88", func := "example.com/amends/amends/zzlaws_composition_b1.FnClassStringOneToOneOnWordsAndSized", spec := "fnClassStringOneToOneOnWordsAndSized", apart := false }
def FnClassStringOneToOneOnWordsAndSizedSaid : Prop := fnClassStringOneToOneOnWordsAndSizedRow.holds Try.pinned (OpenSpec.ofChange fnClassStringOneToOneOnWordsAndSizedSpec)

/-- ITS FALSE NEIGHBOUR: 'it returns false'. Refute it at one input. -/
def fnClassStringOneToOneOnWordsAndSizedWrong : ChangeSpec := { name := "fnClassStringOneToOneOnWordsAndSized", fn := fun _ => fun
  | [d1, d2] => { results := [.lit (.bool false)], args := [d1, d2] }
  | _ => none }
def FnClassStringOneToOneOnWordsAndSizedWrongFalsely : Prop := fnClassStringOneToOneOnWordsAndSizedRow.holds Try.pinned (OpenSpec.ofChange fnClassStringOneToOneOnWordsAndSizedWrong)

end Rows
end Go.Proofs.Qxb6627202a
