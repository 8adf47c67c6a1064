import Derived.Test.Qxb6627545aDoorParse
namespace Go.Proofs.Qxb6627545aDoor
open Go.RowKit

/-- What len answers at the map that came in. -/
def LenIs (w : World) (m : Option Nat) (L : Int) : Prop := ∀ ty, (Builtin.len_ #[23] ty #[.map m]).run Tryd.prog w = .ok (.int .i64 L) w

set_option maxHeartbeats 1000000 in
theorem reads_first (id typ : ByteArray) (p : Option Addr) (pn pc : Nat) (m : Option Nat) (L : Int) (r : Int) (w : World) (hm : LenIs w m L) (hr : r ≤ 0) :
    Calls Tryd.prog 3 #[.string id, .string typ, .slice p pn pc, .map m, .int .i64 r] w fun e w' => e = .returned (.bool true) ∧ Below w.heap.size w w' := by
  unfold LenIs at hm
  go_enter Tryd.func3, Tryd.ntmps3
  go_wp2_with fail
  · go_ret
    exact ⟨rfl, Below.refl _ _⟩
  · go_ret
    exact ⟨rfl, Below.refl _ _⟩
  · go_ret
    exact ⟨rfl, Below.refl _ _⟩
  · go_ret
    exact ⟨rfl, Below.refl _ _⟩
  refine (msg_first id typ p pn pc m r _ hr).mono ?_
  rintro e w1 ⟨rfl, hb1⟩
  clear hm
  go_wp2_with fail
  refine (msg_first id typ p pn pc m 0 _ (by omega)).mono ?_
  rintro e w2 ⟨rfl, hb2⟩
  have hb12 : Below w.heap.size w w2 := hb1.trans (hb2.mono hb1.size)
  clear hb1 hb2
  go_wp2
  go_ret
  exact ⟨rfl, hb12⟩

/-- The text of a replay's message id, as the law cuts it. -/
theorem cuts (id : ByteArray) (l : List UInt8) : ∃ X J : ByteArray, (⟨(id.data.toList ++ 47 :: l).toArray⟩ : ByteArray) = X ∧ J.data.toList = l ∧ X.size = id.size + 1 + l.length ∧
    X.extract 0 id.size = id ∧ (∀ h : id.size < X.size, (X[id.size]'h).toNat = 47) ∧ X.extract (id.size + 1) X.size = J := by
  have hsz : (⟨(id.data.toList ++ 47 :: l).toArray⟩ : ByteArray).size = id.size + 1 + l.length := by
    show (id.data.toList ++ 47 :: l).toArray.size = _
    simp
    omega
  refine ⟨_, ⟨l.toArray⟩, rfl, by simp, hsz, ?_, ?_, ?_⟩
  · apply ByteArray.ext
    apply Array.ext'
    simp
  · intro h
    show ((id.data.toList ++ 47 :: l).toArray[id.size]'_).toNat = 47
    simp
  · rw [hsz]
    apply ByteArray.ext
    apply Array.ext'
    simp
    have e : id.data.toList ++ 47 :: l = (id.data.toList ++ [47]) ++ l := by simp
    rw [e, List.drop_left' (by simp)]
    simp

set_option maxHeartbeats 1000000 in
theorem reads_later (id typ : ByteArray) (p : Option Addr) (pn pc : Nat) (m : Option Nat) (L : Int) (r : Nat) (w : World) (hm : LenIs w m L) (hr : 1 ≤ r) (hr1 : r ≤ 9223372036854775807) (ht : Tab w) :
    Calls Tryd.prog 3 #[.string id, .string typ, .slice p pn pc, .map m, .int .i64 r] w fun e w' => e = .returned (.bool true) ∧ Below w.heap.size w w' := by
  unfold LenIs at hm
  obtain ⟨X, J, hX, hJ, hXs, x1, x2, x3⟩ := cuts id (Lib.itoa r)
  rw [Lib.itoa_nonneg] at hJ hXs
  have hl1 : 1 ≤ (Lib.decDigits r).length := List.length_pos_iff.2 (dec_props r).2.2.1
  have hl2 : (Lib.decDigits r).length ≤ 21 := by
    have := Lib.itoa_length_le r (by omega) (by omega)
    rwa [Lib.itoa_nonneg] at this
  have hJs : J.size ≤ 64 := by
    have : J.size = J.data.toList.length := by simp
    rw [this, hJ]; omega
  have HP : Hid (∀ w : World, Calls Tryd.prog 6 #[.string J] w fun e w' => e = .returned (.tuple #[.int .i64 r, .bool true]) ∧ w' = w) := fun w => parse_any J r w hJ hr hr1 hJs
  have HM : Hid (∀ w : World, id.size ≤ 262144 → Tab w → Calls Tryd.prog 5 #[.agg #[.string id, .string typ, .slice p pn pc, .map m, .int .i64 r]] w fun e w' => e = .returned (.string X) ∧ Below w.heap.size w w') := by
    rw [← hX]
    exact fun w hid ht => msg_later id typ p pn pc m r w (by omega) (by omega) hid ht
  have hr' : ¬ (r : Int) ≤ 0 := by omega
  have hXa : id.size + 2 ≤ X.size := by omega
  have hXb : X.size ≤ id.size + 22 := by omega
  clear hX hJ hXs hl1 hl2 hJs hr1
  go_enter Tryd.func3, Tryd.ntmps3
  go_wp2_with fail
  · go_ret
    exact ⟨rfl, Below.refl _ _⟩
  · go_ret
    exact ⟨rfl, Below.refl _ _⟩
  · go_ret
    exact ⟨rfl, Below.refl _ _⟩
  · go_ret
    exact ⟨rfl, Below.refl _ _⟩
  refine (HM.out _ (by omega) ht).mono ?_
  rintro e w1 ⟨rfl, hb1⟩
  clear hm HM ht
  go_wp2_with fail
  refine (msg_first id typ p pn pc m 0 _ (by omega)).mono ?_
  rintro e w2 ⟨rfl, hb2⟩
  have hb12 : Below w.heap.size w w2 := hb1.trans (hb2.mono hb1.size)
  clear hb1 hb2
  go_wp2_with fail
  refine (HP.out _).mono ?_
  rintro e w3 ⟨rfl, rfl⟩
  clear x1 x2 x3
  go_wp2
  go_ret
  exact ⟨rfl, hb12⟩
end Go.Proofs.Qxb6627545aDoor
