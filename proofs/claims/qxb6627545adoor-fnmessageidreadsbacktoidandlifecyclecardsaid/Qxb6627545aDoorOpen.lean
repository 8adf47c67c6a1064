import Derived.Test.Qxb6627545aDoorReads
import Derived.ProofKit
import Derived.LaidMore
import Derived.OpenShut
import Derived.Stop.Joined
import Derived.Lib.LaidTab
import Derived.Stop.LaidErr
import Derived.Maps.OwnSet
namespace Go.Proofs.Qxb6627545aDoor
open Go.ChangeShapes Go.WideShapes Go.ChangeAt Go.WideMaps Go.WideElems Go.RowKit

theorem Tryd.own : ownKnob Tryd.prog.godebug = none := by kernel_rfl
theorem Tryd.laidOut : laidOutB Tryd.prog = true := by kernel_rfl
theorem Tryd.tPow : (Tryd.prog.globals[0]?).map (·.type) = some 42 := by kernel_rfl

/-- The list of the two rows. -/
def laid3 : List (String × DataW Unit) := Rows.fnMessageIDReadsBackToIDAndLifecycleRow.laid

/-- The door's own heap meets the condition: three closed facts. -/
theorem door_met (os : Os) (args : Array Value) : laidMetH Tryd.prog laid3 ((World.doorLaid Tryd.prog 24 os).forCall (fun _ _ => 0) ⟨#[], args, []⟩).memory :=
  laidMetH_of_parts3 (fuel := 8) (laidMet_of_run' 8 (by kernel_rfl) (by kernel_rfl)) (by kernel_rfl) (by kernel_rfl)

theorem tab_of_laid {W : World} (h : laidMetH Tryd.prog laid3 W) : Tab W := by
  rw [MakeChecks.laidMetH_plain _ _ _ (by kernel_rfl)] at h
  have h2 := laidMet.tail (laidMet.tail h)
  exact Lib.tabIs_of_head (zs := Lib.pow10Tab) (rest := []) Tryd.gPow Tryd.tPow Tryd.underlying42 Tryd.underlying36 (by kernel_rfl) (by kernel_rfl) h2

theorem len_of {H : Type} {enc : TypeId × Value → H} {W : World} {m : Option Nat} {d : DataW H} {p : List MemPlace}
    (h : DataW.Trod enc Tryd.prog W 0 (fun _ => true) true 23 (.map m) d p) : ∃ L, LenIs W m L := by
  obtain ⟨fuel, hf⟩ := h
  rcases open_map Tryd.underlying23 hf with ⟨hcs, _⟩ | ⟨bm, es, clock, n, _, hcs, hb, _, _, _⟩
  · simp [Value.cells] at hcs
    subst hcs
    exact ⟨0, fun ty => Maps.len_nil Tryd.underlying23 ty⟩
  · simp [Value.cells] at hcs
    subst hcs
    refine ⟨es.size, fun ty => ?_⟩
    simp [Builtin.len_, run_underlying Tryd.underlying23, MapKept.run_getObj_map hb, goInt, Result.andThen]
end Go.Proofs.Qxb6627545aDoor
