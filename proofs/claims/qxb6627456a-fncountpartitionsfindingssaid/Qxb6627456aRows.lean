/-
  No cell of these rows narrows 'for every input' (looked for: loops, veiled, ifaces, maps, wideKeys, modest, calm, conditions, laid).
  DERIVED. THE GIVEN ROWS OF THIS SEAT. 2 by the template 'for every input the law returns true; each argument reads behind the call as it read before'; 0 by the template 'total and deterministic' (their statements: Qxb6627456aTotals.lean).
  GIVEN WITH THE SEED: the statements are not yours to turn. If you find one false, say at which input.
  Laid BY PROGRAM, IN A SANDBOX (cutbox-rows.mjs): the forced cells as the released guide's own fill.sh prints them over the translation 9cc6360865956f74… (all of the seat's roots in one cut). By AI agents, Wed Nov 11 2026. No macro, syntax, notation, axiom, sorry.
-/
import Derived.Test.Qxb6627456aChecked
import GoSem.Claim
import GoSem.ClaimJoined
import GoSem.ClaimMapViews
import Derived.JoinedTies
import Derived.KernelRfl
namespace Go.Proofs.Qxb6627456a
/- THE CELL 'sum', in the pinned program and in every row, IS THE sha256 OF THE DUMP (.gsa) THAT Qxb6627456aProg.lean LOADS. Nothing in Lean hashes anything: it is a label: what it is worth is what the hold of that sum in a sandbox is worth. -/
noncomputable def Try.pinned : Pinned := { name := "qxb6627456a", sum := "9cc6360865956f74b014acdc84a623d041e7bb5f37317fd45bc32f35546aad8a", checked := Try.checked }
namespace Rows
def none {H : Type} : Left H := { results := [], args := [] }

/-- 'zzlaws_internal_validate_b1.FnCountInsertAndSplit': WHATEVER THE INPUT: true; the input reads as it did. -/
def fnCountInsertAndSplitSpec : ChangeSpec := { name := "fnCountInsertAndSplit", fn := fun _ => fun
  | [d1, d2, d3, d4] => { results := [.lit (.bool true)], args := [d1, d2, d3, d4] }
  | _ => none }
def fnCountInsertAndSplitRow : OpenClaim := { program := "qxb6627456a", sum := "9cc6360865956f74b014acdc84a623d041e7bb5f37317fd45bc32f35546aad8a", func := "example.com/forgeline/forgeline/zzlaws_internal_validate_b1.FnCountInsertAndSplit", spec := "fnCountInsertAndSplit", apart := false }
def FnCountInsertAndSplitSaid : Prop := fnCountInsertAndSplitRow.holds Try.pinned (OpenSpec.ofChange fnCountInsertAndSplitSpec)

/-- ITS FALSE NEIGHBOUR: 'it returns false'. Refute it at one input. -/
def fnCountInsertAndSplitWrong : ChangeSpec := { name := "fnCountInsertAndSplit", fn := fun _ => fun
  | [d1, d2, d3, d4] => { results := [.lit (.bool false)], args := [d1, d2, d3, d4] }
  | _ => none }
def FnCountInsertAndSplitWrongFalsely : Prop := fnCountInsertAndSplitRow.holds Try.pinned (OpenSpec.ofChange fnCountInsertAndSplitWrong)

/-- 'zzlaws_internal_validate_b1.FnCountPartitionsFindings': WHATEVER THE INPUT: true; the input reads as it did. -/
def fnCountPartitionsFindingsSpec : ChangeSpec := { name := "fnCountPartitionsFindings", fn := fun _ => fun
  | [d1, d2] => { results := [.lit (.bool true)], args := [d1, d2] }
  | _ => none }
def fnCountPartitionsFindingsRow : OpenClaim := { program := "qxb6627456a", sum := "9cc6360865956f74b014acdc84a623d041e7bb5f37317fd45bc32f35546aad8a", func := "example.com/forgeline/forgeline/zzlaws_internal_validate_b1.FnCountPartitionsFindings", spec := "fnCountPartitionsFindings", apart := false }
def FnCountPartitionsFindingsSaid : Prop := fnCountPartitionsFindingsRow.holds Try.pinned (OpenSpec.ofChange fnCountPartitionsFindingsSpec)

/-- ITS FALSE NEIGHBOUR: 'it returns false'. Refute it at one input. -/
def fnCountPartitionsFindingsWrong : ChangeSpec := { name := "fnCountPartitionsFindings", fn := fun _ => fun
  | [d1, d2] => { results := [.lit (.bool false)], args := [d1, d2] }
  | _ => none }
def FnCountPartitionsFindingsWrongFalsely : Prop := fnCountPartitionsFindingsRow.holds Try.pinned (OpenSpec.ofChange fnCountPartitionsFindingsWrong)

end Rows
end Go.Proofs.Qxb6627456a
