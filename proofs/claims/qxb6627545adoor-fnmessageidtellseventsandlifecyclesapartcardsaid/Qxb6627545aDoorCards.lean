/-
  DERIVED. GIVEN WITH THE SEED: THE CARDS: each row of Qxb6627545aDoorRows.lean that lists a variable, with what it lists TIED to the program's text (the seventh form; the later family's looks); each row that meets fmt, with fmt's text TOLD by the authors' own Lean function (tested against real Go, not proved from fmt's source: count such statements apart). THE CARD IS WHAT COUNTS. Prove the row's statement (the work); the ties are given (Qxb6627545aDoorTie.lean); close each card by the builder's one call (the guide's Derived/Test/ToyasCard.lean, 'card_holds'). Laid BY PROGRAM, IN A SANDBOX (cutbox-door.mjs). By AI agents, Wed Nov 11 2026. No macro, syntax, notation, axiom, sorry.
-/
import Derived.Test.Qxb6627545aDoorRows
import GoSem.ClaimSeven
namespace Go.Proofs.Qxb6627545aDoor
namespace Rows

/-- THE TIED CARD OF 'zzlaws_outbox_b1.FnMessageIDReadsBackToIDAndLifecycle'. -/
def fnMessageIDReadsBackToIDAndLifecycleCard : Claim7 := { stood := { row := fnMessageIDReadsBackToIDAndLifecycleRow, standIns := [], harness := (true, "f6068fd624992bf17d49f50064774ce703a4b9bb6b6fe4aa89e5045df950c7cd"), looks := false }, kinds := [], alts := [], laidByText := true, laidKinds := [.data, .data, .data], laidTests := true, laidLooks := .later }
def FnMessageIDReadsBackToIDAndLifecycleCardSaid : Prop := Claim7.holds Tryd.pinned (.plain (OpenSpec.ofChange fnMessageIDReadsBackToIDAndLifecycleSpec)) fnMessageIDReadsBackToIDAndLifecycleCard

/-- THE TIED CARD OF 'zzlaws_outbox_b1.FnMessageIDTellsEventsAndLifecyclesApart'. -/
def fnMessageIDTellsEventsAndLifecyclesApartCard : Claim7 := { stood := { row := fnMessageIDTellsEventsAndLifecyclesApartRow, standIns := [], harness := (true, "f6068fd624992bf17d49f50064774ce703a4b9bb6b6fe4aa89e5045df950c7cd"), looks := false }, kinds := [], alts := [], laidByText := true, laidKinds := [.data, .data, .data], laidTests := true, laidLooks := .later }
def FnMessageIDTellsEventsAndLifecyclesApartCardSaid : Prop := Claim7.holds Tryd.pinned (.plain (OpenSpec.ofChange fnMessageIDTellsEventsAndLifecyclesApartSpec)) fnMessageIDTellsEventsAndLifecyclesApartCard
end Rows
end Go.Proofs.Qxb6627545aDoor
