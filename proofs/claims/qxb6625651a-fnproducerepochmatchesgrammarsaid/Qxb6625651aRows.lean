/-
  No cell of these rows narrows 'for every input' (looked for: loops, veiled, ifaces, maps, wideKeys, modest, calm, conditions, laid).
  DERIVED. THE GIVEN ROWS OF THIS SEAT. 2 by the template 'for every input the law returns true; each argument reads behind the call as it read before'; 0 by the template 'total and deterministic' (their statements: Qxb6625651aTotals.lean).
  GIVEN WITH THE SEED: the statements are not yours to turn. If you find one false, say at which input.
  Laid BY PROGRAM, IN A SANDBOX (cutbox-rows.mjs): the forced cells as the released guide's own fill.sh prints them over the translation 94969b5f138e8195… (all of the seat's roots in one cut). By AI agents, Wed Nov 11 2026. No macro, syntax, notation, axiom, sorry.
-/
import Derived.Test.Qxb6625651aChecked
import GoSem.Claim
import GoSem.ClaimJoined
import GoSem.ClaimMapViews
import Derived.JoinedTies
import Derived.KernelRfl
namespace Go.Proofs.Qxb6625651a
/- THE CELL 'sum', in the pinned program and in every row, IS THE sha256 OF THE DUMP (.gsa) THAT Qxb6625651aProg.lean LOADS. Nothing in Lean hashes anything: it is a label: what it is worth is what the hold of that sum in a sandbox is worth. -/
noncomputable def Try.pinned : Pinned := { name := "qxb6625651a", sum := "94969b5f138e81957d33398a2c42ac4f2c2f69eefb61c818916d44c945674259", checked := Try.checked }
namespace Rows
def none {H : Type} : Left H := { results := [], args := [] }

/-- 'zzlaws_internal_txn_b1.FnProducerEpochMatchesGrammar': WHATEVER THE INPUT: true; the input reads as it did. -/
def fnProducerEpochMatchesGrammarSpec : ChangeSpec := { name := "fnProducerEpochMatchesGrammar", fn := fun _ => fun
  | [d1, d2] => { results := [.lit (.bool true)], args := [d1, d2] }
  | _ => none }
def fnProducerEpochMatchesGrammarRow : OpenClaim := { program := "qxb6625651a", sum := "94969b5f138e81957d33398a2c42ac4f2c2f69eefb61c818916d44c945674259", func := "example.com/fencepost/fencepost/zzlaws_internal_txn_b1.FnProducerEpochMatchesGrammar", spec := "fnProducerEpochMatchesGrammar", apart := false }
def FnProducerEpochMatchesGrammarSaid : Prop := fnProducerEpochMatchesGrammarRow.holds Try.pinned (OpenSpec.ofChange fnProducerEpochMatchesGrammarSpec)

/-- ITS FALSE NEIGHBOUR: 'it returns false'. Refute it at one input. -/
def fnProducerEpochMatchesGrammarWrong : ChangeSpec := { name := "fnProducerEpochMatchesGrammar", fn := fun _ => fun
  | [d1, d2] => { results := [.lit (.bool false)], args := [d1, d2] }
  | _ => none }
def FnProducerEpochMatchesGrammarWrongFalsely : Prop := fnProducerEpochMatchesGrammarRow.holds Try.pinned (OpenSpec.ofChange fnProducerEpochMatchesGrammarWrong)

/-- 'zzlaws_internal_txn_b1.FnProducerEpochStreamReadsBack': WHATEVER THE INPUT: true; the input reads as it did. -/
def fnProducerEpochStreamReadsBackSpec : ChangeSpec := { name := "fnProducerEpochStreamReadsBack", fn := fun _ => fun
  | [d1, d2, d3, d4, d5] => { results := [.lit (.bool true)], args := [d1, d2, d3, d4, d5] }
  | _ => none }
def fnProducerEpochStreamReadsBackRow : OpenClaim := { program := "qxb6625651a", sum := "94969b5f138e81957d33398a2c42ac4f2c2f69eefb61c818916d44c945674259", func := "example.com/fencepost/fencepost/zzlaws_internal_txn_b1.FnProducerEpochStreamReadsBack", spec := "fnProducerEpochStreamReadsBack", apart := false }
def FnProducerEpochStreamReadsBackSaid : Prop := fnProducerEpochStreamReadsBackRow.holds Try.pinned (OpenSpec.ofChange fnProducerEpochStreamReadsBackSpec)

/-- ITS FALSE NEIGHBOUR: 'it returns false'. Refute it at one input. -/
def fnProducerEpochStreamReadsBackWrong : ChangeSpec := { name := "fnProducerEpochStreamReadsBack", fn := fun _ => fun
  | [d1, d2, d3, d4, d5] => { results := [.lit (.bool false)], args := [d1, d2, d3, d4, d5] }
  | _ => none }
def FnProducerEpochStreamReadsBackWrongFalsely : Prop := fnProducerEpochStreamReadsBackRow.holds Try.pinned (OpenSpec.ofChange fnProducerEpochStreamReadsBackWrong)

end Rows
end Go.Proofs.Qxb6625651a
