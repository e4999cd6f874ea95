/-
  No cell of these rows narrows 'for every input' (looked for: loops, veiled, ifaces, maps, wideKeys, modest, calm, conditions, laid).
  DERIVED. THE GIVEN ROWS OF THIS SEAT. 2 by the template 'for every input the law returns true; each argument reads behind the call as it read before'; 0 by the template 'total and deterministic' (their statements: Qxb6625468aTotals.lean).
  GIVEN WITH THE SEED: the statements are not yours to turn. If you find one false, say at which input.
  Laid BY PROGRAM, IN A SANDBOX (cutbox-rows.mjs): the forced cells as the released guide's own fill.sh prints them over the translation d94abb664d6310e5… (all of the seat's roots in one cut). By AI agents, Wed Nov 11 2026. No macro, syntax, notation, axiom, sorry.
-/
import Derived.Test.Qxb6625468aChecked
import GoSem.Claim
import GoSem.ClaimJoined
import GoSem.ClaimMapViews
import Derived.JoinedTies
import Derived.KernelRfl
namespace Go.Proofs.Qxb6625468a
/- THE CELL 'sum', in the pinned program and in every row, IS THE sha256 OF THE DUMP (.gsa) THAT Qxb6625468aProg.lean LOADS. Nothing in Lean hashes anything: it is a label: what it is worth is what the hold of that sum in a sandbox is worth. -/
noncomputable def Try.pinned : Pinned := { name := "qxb6625468a", sum := "d94abb664d6310e5d427f88995a4f1642076b6909b08e2a0c73f33927d4c2fc8", checked := Try.checked }
namespace Rows
def none {H : Type} : Left H := { results := [], args := [] }

/-- 'zzlaws_internal_deflate_b1.FnEntropyNearestSixteenthBit': WHATEVER THE INPUT: true; the input reads as it did. -/
def fnEntropyNearestSixteenthBitSpec : ChangeSpec := { name := "fnEntropyNearestSixteenthBit", fn := fun _ => fun
  | [d1, d2] => { results := [.lit (.bool true)], args := [d1, d2] }
  | _ => none }
def fnEntropyNearestSixteenthBitRow : OpenClaim := { program := "qxb6625468a", sum := "d94abb664d6310e5d427f88995a4f1642076b6909b08e2a0c73f33927d4c2fc8", func := "example.com/outwash/outwash/zzlaws_internal_deflate_b1.FnEntropyNearestSixteenthBit", spec := "fnEntropyNearestSixteenthBit", inPlace := ["math.Float64bits", "math.Float64frombits", "math.archLog"], apart := false }
def FnEntropyNearestSixteenthBitSaid : Prop := fnEntropyNearestSixteenthBitRow.holds Try.pinned (OpenSpec.ofChange fnEntropyNearestSixteenthBitSpec)

/-- ITS FALSE NEIGHBOUR: 'it returns false'. Refute it at one input. -/
def fnEntropyNearestSixteenthBitWrong : ChangeSpec := { name := "fnEntropyNearestSixteenthBit", fn := fun _ => fun
  | [d1, d2] => { results := [.lit (.bool false)], args := [d1, d2] }
  | _ => none }
def FnEntropyNearestSixteenthBitWrongFalsely : Prop := fnEntropyNearestSixteenthBitRow.holds Try.pinned (OpenSpec.ofChange fnEntropyNearestSixteenthBitWrong)

/-- 'zzlaws_internal_deflate_b1.FnEntropyZeroSymbolInsert': WHATEVER THE INPUT: true; the input reads as it did. -/
def fnEntropyZeroSymbolInsertSpec : ChangeSpec := { name := "fnEntropyZeroSymbolInsert", fn := fun _ => fun
  | [d1, d2] => { results := [.lit (.bool true)], args := [d1, d2] }
  | _ => none }
def fnEntropyZeroSymbolInsertRow : OpenClaim := { program := "qxb6625468a", sum := "d94abb664d6310e5d427f88995a4f1642076b6909b08e2a0c73f33927d4c2fc8", func := "example.com/outwash/outwash/zzlaws_internal_deflate_b1.FnEntropyZeroSymbolInsert", spec := "fnEntropyZeroSymbolInsert", inPlace := ["math.Float64bits", "math.Float64frombits", "math.archLog"], apart := false }
def FnEntropyZeroSymbolInsertSaid : Prop := fnEntropyZeroSymbolInsertRow.holds Try.pinned (OpenSpec.ofChange fnEntropyZeroSymbolInsertSpec)

/-- ITS FALSE NEIGHBOUR: 'it returns false'. Refute it at one input. -/
def fnEntropyZeroSymbolInsertWrong : ChangeSpec := { name := "fnEntropyZeroSymbolInsert", fn := fun _ => fun
  | [d1, d2] => { results := [.lit (.bool false)], args := [d1, d2] }
  | _ => none }
def FnEntropyZeroSymbolInsertWrongFalsely : Prop := fnEntropyZeroSymbolInsertRow.holds Try.pinned (OpenSpec.ofChange fnEntropyZeroSymbolInsertWrong)

end Rows
end Go.Proofs.Qxb6625468a
