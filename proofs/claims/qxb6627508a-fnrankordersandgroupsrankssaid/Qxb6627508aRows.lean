/-
  No cell of these rows narrows 'for every input' (looked for: loops, veiled, ifaces, maps, wideKeys, modest, calm, conditions, laid).
  DERIVED. THE GIVEN ROWS OF THIS SEAT. 2 by the template 'for every input the law returns true; each argument reads behind the call as it read before'; 0 by the template 'total and deterministic' (their statements: Qxb6627508aTotals.lean).
  GIVEN WITH THE SEED: the statements are not yours to turn. If you find one false, say at which input.
  Laid BY PROGRAM, IN A SANDBOX (cutbox-rows.mjs): the forced cells as the released guide's own fill.sh prints them over the translation 178f355dc2a254ee… (all of the seat's roots in one cut). By AI agents, Wed Nov 11 2026. No macro, syntax, notation, axiom, sorry.
-/
import Derived.Test.Qxb6627508aChecked
import GoSem.Claim
import GoSem.ClaimJoined
import GoSem.ClaimMapViews
import Derived.JoinedTies
import Derived.KernelRfl
namespace Go.Proofs.Qxb6627508a
/- THE CELL 'sum', in the pinned program and in every row, IS THE sha256 OF THE DUMP (.gsa) THAT Qxb6627508aProg.lean LOADS. Nothing in Lean hashes anything: it is a label: what it is worth is what the hold of that sum in a sandbox is worth. -/
noncomputable def Try.pinned : Pinned := { name := "qxb6627508a", sum := "178f355dc2a254eec7f6af50a039fce05731fcb1f7e6606421a83ea07b19407d", checked := Try.checked }
namespace Rows
def none {H : Type} : Left H := { results := [], args := [] }

/-- 'zzlaws_internal_fold_b1.FnRankIsBucketOfTheRthShortest': WHATEVER THE INPUT: true; the input reads as it did. -/
def fnRankIsBucketOfTheRthShortestSpec : ChangeSpec := { name := "fnRankIsBucketOfTheRthShortest", fn := fun _ => fun
  | [d1, d2, d3, d4] => { results := [.lit (.bool true)], args := [d1, d2, d3, d4] }
  | _ => none }
def fnRankIsBucketOfTheRthShortestRow : OpenClaim := { program := "qxb6627508a", sum := "178f355dc2a254eec7f6af50a039fce05731fcb1f7e6606421a83ea07b19407d", func := "example.com/onefold/onefold/zzlaws_internal_fold_b1.FnRankIsBucketOfTheRthShortest", spec := "fnRankIsBucketOfTheRthShortest", apart := false }
def FnRankIsBucketOfTheRthShortestSaid : Prop := fnRankIsBucketOfTheRthShortestRow.holds Try.pinned (OpenSpec.ofChange fnRankIsBucketOfTheRthShortestSpec)

/-- ITS FALSE NEIGHBOUR: 'it returns false'. Refute it at one input. -/
def fnRankIsBucketOfTheRthShortestWrong : ChangeSpec := { name := "fnRankIsBucketOfTheRthShortest", fn := fun _ => fun
  | [d1, d2, d3, d4] => { results := [.lit (.bool false)], args := [d1, d2, d3, d4] }
  | _ => none }
def FnRankIsBucketOfTheRthShortestWrongFalsely : Prop := fnRankIsBucketOfTheRthShortestRow.holds Try.pinned (OpenSpec.ofChange fnRankIsBucketOfTheRthShortestWrong)

/-- 'zzlaws_internal_fold_b1.FnRankOrdersAndGroupsRanks': WHATEVER THE INPUT: true; the input reads as it did. -/
def fnRankOrdersAndGroupsRanksSpec : ChangeSpec := { name := "fnRankOrdersAndGroupsRanks", fn := fun _ => fun
  | [d1, d2, d3, d4, d5] => { results := [.lit (.bool true)], args := [d1, d2, d3, d4, d5] }
  | _ => none }
def fnRankOrdersAndGroupsRanksRow : OpenClaim := { program := "qxb6627508a", sum := "178f355dc2a254eec7f6af50a039fce05731fcb1f7e6606421a83ea07b19407d", func := "example.com/onefold/onefold/zzlaws_internal_fold_b1.FnRankOrdersAndGroupsRanks", spec := "fnRankOrdersAndGroupsRanks", apart := false }
def FnRankOrdersAndGroupsRanksSaid : Prop := fnRankOrdersAndGroupsRanksRow.holds Try.pinned (OpenSpec.ofChange fnRankOrdersAndGroupsRanksSpec)

/-- ITS FALSE NEIGHBOUR: 'it returns false'. Refute it at one input. -/
def fnRankOrdersAndGroupsRanksWrong : ChangeSpec := { name := "fnRankOrdersAndGroupsRanks", fn := fun _ => fun
  | [d1, d2, d3, d4, d5] => { results := [.lit (.bool false)], args := [d1, d2, d3, d4, d5] }
  | _ => none }
def FnRankOrdersAndGroupsRanksWrongFalsely : Prop := fnRankOrdersAndGroupsRanksRow.holds Try.pinned (OpenSpec.ofChange fnRankOrdersAndGroupsRanksWrong)

end Rows
end Go.Proofs.Qxb6627508a
