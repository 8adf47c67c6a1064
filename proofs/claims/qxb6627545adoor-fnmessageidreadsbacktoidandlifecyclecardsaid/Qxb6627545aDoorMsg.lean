import Derived.Test.Qxb6627545aDoorRows
import Derived.Test.Qxb6627545aDoorShelf
import Derived.WalkKit
import Derived.WalkSpells
import Derived.WalkLawsBesides
import Derived.BigQuiet
import Derived.Deep.QuietTactic
import Derived.Deep.RegionWith
import Derived.Lib.ItoaLen
import Derived.ShutString
namespace Go.Proofs.Qxb6627545aDoor
open Go.RowKit Go.Sort

/-- The table that strconv reads, in a world. -/
def Tab (w : World) : Prop := Lib.TabIs Tryd.prog w Tryd.powName .u64 Lib.pow10Tab
theorem below_grow (w : World) (k : Nat) (os : Array Obj) : Below w.heap.size w (grow (w.drewN k) os) := by
  refine ⟨rfl, rfl, rfl, ?_, fun i hi => ?_⟩
  · show w.heap.size ≤ (w.heap ++ os).size
    simp
  · show (w.heap ++ os)[i]? = w.heap[i]?
    exact Array.getElem?_append_left hi
theorem Tryd.gPow : Tryd.prog.globalNamed Tryd.powName = some 0 := by kernel_rfl
theorem Tab.later {w w' : World} (h : Tab w) (hb : Below w.heap.size w w') : Tab w' := by
  have hlt : 0 < w.heap.size := World.block_lt_of_cell? _ _ (Lib.TabIs.cell h Tryd.gPow 0 (by decide))
  exact var?_below hb Tryd.gPow hlt h
theorem itoa_any (n : Int) (h0 : -9223372036854775808 ≤ n) (h1 : n ≤ 9223372036854775807) (w : World) (ht : Tab w) :
    Calls Tryd.prog 9 #[.int .i64 n] w fun e w' => e = .returned (.string ⟨(Lib.itoa n).toArray⟩) ∧ Below w.heap.size w w' :=
  (Tryd.strconv_Itoa n h0 h1 w ht).mono fun e w' ⟨he, k, os, hw⟩ => ⟨he, by rw [hw]; exact below_grow w k os⟩

theorem glue (id : ByteArray) (l : List UInt8) : (⟨(id.data.toList ++ 47 :: l).toArray⟩ : ByteArray) = id ++ ⟨#[47]⟩ ++ ⟨l.toArray⟩ := by
  apply ByteArray.ext
  apply Array.ext'
  simp
theorem hide {p : Prop} (h : p) : Hid p := h
theorem ret_str {a b : ByteArray} (h : a = b) : Ending.returned (.string a) = .returned (.string b) := by rw [h]

set_option maxHeartbeats 400000 in
theorem msg_first (id typ : ByteArray) (p : Option Addr) (pn pc : Nat) (m : Option Nat) (r : Int) (w : World) (hr : r ≤ 0) :
    Calls Tryd.prog 5 #[.agg #[.string id, .string typ, .slice p pn pc, .map m, .int .i64 r]] w fun e w' => e = .returned (.string id) ∧ Below w.heap.size w w' := by
  go_enter Tryd.func5, Tryd.ntmps5
  go_wp2
  go_ret
  exact ⟨rfl, (Below.refl _ _).alloc (Nat.le_refl _) _⟩

set_option maxHeartbeats 400000 in
theorem msg_later (id typ : ByteArray) (p : Option Addr) (pn pc : Nat) (m : Option Nat) (r : Int) (w : World) (hr : 0 < r) (hr1 : r ≤ 9223372036854775807) (hid : id.size ≤ 262144) (ht : Tab w) :
    Calls Tryd.prog 5 #[.agg #[.string id, .string typ, .slice p pn pc, .map m, .int .i64 r]] w fun e w' => e = .returned (.string ⟨(id.data.toList ++ 47 :: Lib.itoa r).toArray⟩) ∧ Below w.heap.size w w' := by
  have hr' : ¬ r ≤ 0 := by omega
  have ht1 : Tab (w.alloc (.cells #[.string id, .string typ, .slice p pn pc, .map m, .int .i64 r] 25)) := ht.later ((Below.refl _ _).alloc (Nat.le_refl _) _)
  obtain ⟨J, hJ⟩ : ∃ J : ByteArray, J = ⟨(Lib.itoa r).toArray⟩ := ⟨_, rfl⟩
  have hJs : J.size ≤ 21 := by
    have := Lib.itoa_length_le r (by omega) hr1
    rw [hJ, size_of_list]
    exact this
  have HI : Hid (∀ w : World, Tab w → Calls Tryd.prog 9 #[.int .i64 r] w fun e w' => e = .returned (.string J) ∧ Below w.heap.size w w') := by
    rw [hJ]
    exact fun w h => itoa_any r (by omega) hr1 w h
  have HE : Hid ((⟨(id.data.toList ++ 47 :: Lib.itoa r).toArray⟩ : ByteArray) = id ++ ⟨#[47]⟩ ++ J) := by
    rw [hJ]
    exact glue id _
  clear hJ
  go_enter Tryd.func5, Tryd.ntmps5
  go_wp2
  go_region_with (go_at_call 9; refine (HI.out _ (by exact ht1)).mono ?_; rintro e w1 ⟨rfl, hb⟩; have c0 : w1.cell? ⟨w.heap.size, 0, none⟩ = some (.string id) := cell_later hb (by simp); have hbw : Below w.heap.size w w1 := (((Below.refl _ _).alloc (Nat.le_refl _) _).drew).trans (hb.mono (by simp)))
  all_goals
    go_wp2
    go_ret
    exact ⟨ret_str HE.out.symm, by assumption⟩
end Go.Proofs.Qxb6627545aDoor
