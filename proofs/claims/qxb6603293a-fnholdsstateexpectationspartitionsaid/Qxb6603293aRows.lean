/-
  No cell of these rows narrows 'for every input' (looked for: loops, veiled, ifaces, maps, wideKeys, modest, calm, conditions, laid).
  DERIVED. THE GIVEN ROWS OF THIS SEAT. 2 by the template 'for every input the law returns true; each argument reads behind the call as it read before'; 0 by the template 'total and deterministic' (their statements: Qxb6603293aTotals.lean).
  GIVEN WITH THE SEED: the statements are not yours to turn. If you find one false, say at which input.
  Laid BY PROGRAM, IN A SANDBOX (cutbox-rows.mjs): the forced cells as the released guide's own fill.sh prints them over the translation 9f41ec2df4105aa3… (all of the seat's roots in one cut). By AI agents, Wed Nov 11 2026. No macro, syntax, notation, axiom, sorry.
-/
import Derived.Test.Qxb6603293aChecked
import GoSem.Claim
import GoSem.ClaimJoined
import GoSem.ClaimMapViews
import Derived.JoinedTies
import Derived.KernelRfl
namespace Go.Proofs.Qxb6603293a
/- THE CELL 'sum', in the pinned program and in every row, IS THE sha256 OF THE DUMP (.gsa) THAT Qxb6603293aProg.lean LOADS. Nothing in Lean hashes anything: it is a label: what it is worth is what the hold of that sum in a sandbox is worth. -/
noncomputable def Try.pinned : Pinned := { name := "qxb6603293a", sum := "9f41ec2df4105aa363cc2b8374e1d360e594a8f4cca08b7f50e7d8b05d160324", checked := Try.checked }
namespace Rows
def none {H : Type} : Left H := { results := [], args := [] }

/-- 'zzlaws_internal_store_b1.FnHoldsStateExpectationsPartition': WHATEVER THE INPUT: true; the input reads as it did. -/
def fnHoldsStateExpectationsPartitionSpec : ChangeSpec := { name := "fnHoldsStateExpectationsPartition", fn := fun _ => fun
  | [d1, d2, d3] => { results := [.lit (.bool true)], args := [d1, d2, d3] }
  | _ => none }
def fnHoldsStateExpectationsPartitionRow : OpenClaim := { program := "qxb6603293a", sum := "9f41ec2df4105aa363cc2b8374e1d360e594a8f4cca08b7f50e7d8b05d160324", func := "example.com/greffier/greffier/zzlaws_internal_store_b1.FnHoldsStateExpectationsPartition", spec := "fnHoldsStateExpectationsPartition", apart := false }
def FnHoldsStateExpectationsPartitionSaid : Prop := fnHoldsStateExpectationsPartitionRow.holds Try.pinned (OpenSpec.ofChange fnHoldsStateExpectationsPartitionSpec)

/-- ITS FALSE NEIGHBOUR: 'it returns false'. Refute it at one input. -/
def fnHoldsStateExpectationsPartitionWrong : ChangeSpec := { name := "fnHoldsStateExpectationsPartition", fn := fun _ => fun
  | [d1, d2, d3] => { results := [.lit (.bool false)], args := [d1, d2, d3] }
  | _ => none }
def FnHoldsStateExpectationsPartitionWrongFalsely : Prop := fnHoldsStateExpectationsPartitionRow.holds Try.pinned (OpenSpec.ofChange fnHoldsStateExpectationsPartitionWrong)

/-- 'zzlaws_internal_store_b1.FnHoldsIgnoresIrrelevantRevisions': WHATEVER THE INPUT: true; the input reads as it did. -/
def fnHoldsIgnoresIrrelevantRevisionsSpec : ChangeSpec := { name := "fnHoldsIgnoresIrrelevantRevisions", fn := fun _ => fun
  | [d1, d2, d3, d4, d5, d6] => { results := [.lit (.bool true)], args := [d1, d2, d3, d4, d5, d6] }
  | _ => none }
def fnHoldsIgnoresIrrelevantRevisionsRow : OpenClaim := { program := "qxb6603293a", sum := "9f41ec2df4105aa363cc2b8374e1d360e594a8f4cca08b7f50e7d8b05d160324", func := "example.com/greffier/greffier/zzlaws_internal_store_b1.FnHoldsIgnoresIrrelevantRevisions", spec := "fnHoldsIgnoresIrrelevantRevisions", apart := false }
def FnHoldsIgnoresIrrelevantRevisionsSaid : Prop := fnHoldsIgnoresIrrelevantRevisionsRow.holds Try.pinned (OpenSpec.ofChange fnHoldsIgnoresIrrelevantRevisionsSpec)

/-- ITS FALSE NEIGHBOUR: 'it returns false'. Refute it at one input. -/
def fnHoldsIgnoresIrrelevantRevisionsWrong : ChangeSpec := { name := "fnHoldsIgnoresIrrelevantRevisions", fn := fun _ => fun
  | [d1, d2, d3, d4, d5, d6] => { results := [.lit (.bool false)], args := [d1, d2, d3, d4, d5, d6] }
  | _ => none }
def FnHoldsIgnoresIrrelevantRevisionsWrongFalsely : Prop := fnHoldsIgnoresIrrelevantRevisionsRow.holds Try.pinned (OpenSpec.ofChange fnHoldsIgnoresIrrelevantRevisionsWrong)

end Rows
end Go.Proofs.Qxb6603293a
