/-
  No cell of these rows narrows 'for every input' (looked for: loops, veiled, ifaces, maps, wideKeys, modest, calm, conditions, laid).
  DERIVED. THE GIVEN ROWS OF THIS SEAT. 1 by the template 'for every input the law returns true; each argument reads behind the call as it read before'; 0 by the template 'total and deterministic' (their statements: Qxb6627596aTotals.lean).
  GIVEN WITH THE SEED: the statements are not yours to turn. If you find one false, say at which input.
  Laid BY PROGRAM, IN A SANDBOX (cutbox-rows.mjs): the forced cells as the released guide's own fill.sh prints them over the translation 2db44f24e093308a… (all of the seat's roots in one cut). By AI agents, Wed Nov 11 2026. No macro, syntax, notation, axiom, sorry.
-/
import Derived.Test.Qxb6627596aChecked
import GoSem.Claim
import GoSem.ClaimJoined
import GoSem.ClaimMapViews
import Derived.JoinedTies
import Derived.KernelRfl
namespace Go.Proofs.Qxb6627596a
/- THE CELL 'sum', in the pinned program and in every row, IS THE sha256 OF THE DUMP (.gsa) THAT Qxb6627596aProg.lean LOADS. Nothing in Lean hashes anything: it is a label: what it is worth is what the hold of that sum in a sandbox is worth. -/
noncomputable def Try.pinned : Pinned := { name := "qxb6627596a", sum := "2db44f24e093308a3122162022d57d4082d31ea5d8c8c5a414cd4fa9a37d4fc8", checked := Try.checked }
namespace Rows
def none {H : Type} : Left H := { results := [], args := [] }

/-- 'zzlaws_internal_config_b1.FnDefaultIsSaneConfig': WHATEVER THE INPUT: true; the input reads as it did. -/
def fnDefaultIsSaneConfigSpec : ChangeSpec := { name := "fnDefaultIsSaneConfig", fn := fun _ => fun
  | [] => { results := [.lit (.bool true)], args := [] }
  | _ => none }
def fnDefaultIsSaneConfigRow : OpenClaim := { program := "qxb6627596a", sum := "2db44f24e093308a3122162022d57d4082d31ea5d8c8c5a414cd4fa9a37d4fc8", func := "example.com/rampart-cache/rampart-cache/zzlaws_internal_config_b1.FnDefaultIsSaneConfig", spec := "fnDefaultIsSaneConfig", apart := false }
def FnDefaultIsSaneConfigSaid : Prop := fnDefaultIsSaneConfigRow.holds Try.pinned (OpenSpec.ofChange fnDefaultIsSaneConfigSpec)

/-- ITS FALSE NEIGHBOUR: 'it returns false'. Refute it at one input. -/
def fnDefaultIsSaneConfigWrong : ChangeSpec := { name := "fnDefaultIsSaneConfig", fn := fun _ => fun
  | [] => { results := [.lit (.bool false)], args := [] }
  | _ => none }
def FnDefaultIsSaneConfigWrongFalsely : Prop := fnDefaultIsSaneConfigRow.holds Try.pinned (OpenSpec.ofChange fnDefaultIsSaneConfigWrong)

end Rows
end Go.Proofs.Qxb6627596a
