import Derived.Test.Qxb6627545aDoorReads
import Derived.Lib.Strings
namespace Go.Proofs.Qxb6627545aDoor
open Go.RowKit

/-! ### The plain law -/
def mid (id : ByteArray) (r : Int) : ByteArray := if r ≤ 0 then id else ⟨(id.data.toList ++ 47 :: Lib.itoa r).toArray⟩
def life (r : Int) : Int := if r < 0 then 0 else r

theorem split_first {a b c d : List UInt8} (ha : (47 : UInt8) ∉ a) (hb : (47 : UInt8) ∉ b) (h : a ++ 47 :: c = b ++ 47 :: d) : a = b ∧ c = d := by
  induction a generalizing b with
  | nil =>
    cases b with
    | nil => simpa using h
    | cons y b =>
      simp only [List.nil_append, List.cons_append, List.cons.injEq] at h
      exact absurd (by rw [h.1]; exact List.mem_cons_self) hb
  | cons x a ih =>
    cases b with
    | nil =>
      simp only [List.nil_append, List.cons_append, List.cons.injEq] at h
      exact absurd (by rw [← h.1]; exact List.mem_cons_self) ha
    | cons y b =>
      simp only [List.cons_append, List.cons.injEq] at h
      obtain ⟨rfl, h⟩ := h
      obtain ⟨rfl, rfl⟩ := ih (fun hm => ha (List.mem_cons_of_mem _ hm)) (fun hm => hb (List.mem_cons_of_mem _ hm)) h
      exact ⟨rfl, rfl⟩

theorem noSlash {id : ByteArray} (h : (id.data.toList.any fun b => b == 47) = false) : (47 : UInt8) ∉ id.data.toList := by
  intro hm
  have := List.any_eq_false.1 h 47 hm
  simp at this

theorem data_inj {a b : ByteArray} (h : a.data.toList = b.data.toList) : a = b := by
  apply ByteArray.ext
  exact Array.ext' h

theorem mid_law {id1 id2 : ByteArray} {r1 r2 : Int} (h1 : (id1.data.toList.any fun b => b == 47) = false) (h2 : (id2.data.toList.any fun b => b == 47) = false) :
    mid id1 r1 = mid id2 r2 ↔ id1 = id2 ∧ life r1 = life r2 := by
  have n1 := noSlash h1
  have n2 := noSlash h2
  unfold mid life
  by_cases a1 : r1 ≤ 0
  · by_cases a2 : r2 ≤ 0
    · rw [if_pos a1, if_pos a2]
      refine ⟨fun h => ⟨h, ?_⟩, fun h => h.1⟩
      split <;> split <;> omega
    · rw [if_pos a1, if_neg a2]
      refine ⟨fun h => ?_, fun h => ?_⟩
      · exfalso
        apply n1
        rw [h]
        simp
      · exfalso
        have := h.2
        split at this <;> split at this <;> omega
  · by_cases a2 : r2 ≤ 0
    · rw [if_neg a1, if_pos a2]
      refine ⟨fun h => ?_, fun h => ?_⟩
      · exfalso
        apply n2
        rw [← h]
        simp
      · exfalso
        have := h.2
        split at this <;> split at this <;> omega
    · rw [if_neg a1, if_neg a2]
      refine ⟨fun h => ?_, fun h => ?_⟩
      · have e := congrArg (fun x => x.data.toList) h
        simp only at e
        obtain ⟨e1, e2⟩ := split_first n1 n2 e
        refine ⟨data_inj e1, ?_⟩
        obtain ⟨k1, rfl⟩ : ∃ k : Nat, r1 = k := ⟨r1.toNat, by omega⟩
        obtain ⟨k2, rfl⟩ : ∃ k : Nat, r2 = k := ⟨r2.toNat, by omega⟩
        rw [Lib.itoa_nonneg, Lib.itoa_nonneg] at e2
        rw [dec_inj e2]
      · obtain ⟨rfl, h⟩ := h
        have : r1 = r2 := by split at h <;> split at h <;> omega
        rw [this]

theorem same_text (a b : ByteArray) : (a.toList == b.toList) = decide (a = b) := by
  rw [Bool.eq_iff_iff, decide_eq_true_iff, beq_iff_eq]
  constructor
  · intro h
    rw [Lib.toList_data, Lib.toList_data] at h
    exact data_inj h
  · rintro rfl; rfl

theorem msg_any (id typ : ByteArray) (p : Option Addr) (pn pc : Nat) (m : Option Nat) (r : Int) (w : World) (hr1 : r ≤ 9223372036854775807) (hid : id.size ≤ 262144) (ht : Tab w) :
    Calls Tryd.prog 5 #[.agg #[.string id, .string typ, .slice p pn pc, .map m, .int .i64 r]] w fun e w' => e = .returned (.string (mid id r)) ∧ Below w.heap.size w w' := by
  unfold mid
  by_cases h : r ≤ 0
  · rw [if_pos h]; exact msg_first id typ p pn pc m r w h
  · rw [if_neg h]; exact msg_later id typ p pn pc m r w (by omega) hr1 hid ht

set_option maxHeartbeats 2000000 in
theorem apart_any (id1 typ1 : ByteArray) (p1 : Option Addr) (pn1 pc1 : Nat) (m1 : Option Nat) (L1 : Int) (r1 : Int) (id2 typ2 : ByteArray) (p2 : Option Addr) (pn2 pc2 : Nat) (m2 : Option Nat) (L2 : Int) (r2 : Int) (w : World)
    (hm1 : LenIs w m1 L1) (hm2 : LenIs w m2 L2) (hr1 : r1 ≤ 9223372036854775807) (hr2 : r2 ≤ 9223372036854775807) (ht : Tab w) :
    Calls Tryd.prog 4 #[.string id1, .string typ1, .slice p1 pn1 pc1, .map m1, .int .i64 r1, .string id2, .string typ2, .slice p2 pn2 pc2, .map m2, .int .i64 r2] w fun e w' => e = .returned (.bool true) ∧ Below w.heap.size w w' := by
  unfold LenIs at hm1 hm2
  have HM1 : Hid (∀ w : World, id1.size ≤ 262144 → Tab w → Calls Tryd.prog 5 #[.agg #[.string id1, .string typ1, .slice p1 pn1 pc1, .map m1, .int .i64 r1]] w fun e w' => e = .returned (.string (mid id1 r1)) ∧ Below w.heap.size w w') := fun w h h' => msg_any id1 typ1 p1 pn1 pc1 m1 r1 w hr1 h h'
  have HM2 : Hid (∀ w : World, id2.size ≤ 262144 → Tab w → Calls Tryd.prog 5 #[.agg #[.string id2, .string typ2, .slice p2 pn2 pc2, .map m2, .int .i64 r2]] w fun e w' => e = .returned (.string (mid id2 r2)) ∧ Below w.heap.size w w') := fun w h h' => msg_any id2 typ2 p2 pn2 pc2 m2 r2 w hr2 h h'
  have HL1 : Hid (∀ w : World, Calls Tryd.prog 8 #[.int .i64 r1] w fun e w' => e = .returned (.int .i64 (life r1)) ∧ w' = w) := fun w => life_any r1 w
  have HL2 : Hid (∀ w : World, Calls Tryd.prog 8 #[.int .i64 r2] w fun e w' => e = .returned (.int .i64 (life r2)) ∧ w' = w) := fun w => life_any r2 w
  obtain ⟨b1, hb1⟩ : ∃ b, (id1.data.toList.any fun b => b == 47) = b := ⟨_, rfl⟩
  obtain ⟨b2, hb2⟩ : ∃ b, (id2.data.toList.any fun b => b == 47) = b := ⟨_, rfl⟩
  have HS1 : Hid (∀ w : World, id1.size ≤ 262144 → Calls Tryd.prog 7 #[.string id1] w fun e w' => e = .returned (.bool b1) ∧ w' = w) := fun w h => by rw [← hb1]; exact slash_any id1 w h
  have HS2 : Hid (∀ w : World, id2.size ≤ 262144 → Calls Tryd.prog 7 #[.string id2] w fun e w' => e = .returned (.bool b2) ∧ w' = w) := fun w h => by rw [← hb2]; exact slash_any id2 w h
  obtain ⟨X1, hX1⟩ : ∃ X, mid id1 r1 = X := ⟨_, rfl⟩
  obtain ⟨X2, hX2⟩ : ∃ X, mid id2 r2 = X := ⟨_, rfl⟩
  obtain ⟨l1, hl1⟩ : ∃ l, life r1 = l := ⟨_, rfl⟩
  obtain ⟨l2, hl2⟩ : ∃ l, life r2 = l := ⟨_, rfl⟩
  have HW : Hid (b1 = false → b2 = false → (X1 = X2 ↔ id1 = id2 ∧ l1 = l2)) := by
    rintro rfl rfl
    rw [← hX1, ← hX2, ← hl1, ← hl2]
    exact mid_law hb1 hb2
  rw [hX1] at HM1
  rw [hX2] at HM2
  rw [hl1] at HL1
  rw [hl2] at HL2
  clear hX1 hX2 hl1 hl2 hb1 hb2 hr1 hr2
  go_enter Tryd.func4, Tryd.ntmps4
  go_wp2_with fail
  · go_ret
    exact ⟨rfl, Below.refl _ _⟩
  · go_ret
    exact ⟨rfl, Below.refl _ _⟩
  · go_ret
    exact ⟨rfl, Below.refl _ _⟩
  · go_ret
    exact ⟨rfl, Below.refl _ _⟩
  · go_ret
    exact ⟨rfl, Below.refl _ _⟩
  · go_ret
    exact ⟨rfl, Below.refl _ _⟩
  · go_ret
    exact ⟨rfl, Below.refl _ _⟩
  · go_ret
    exact ⟨rfl, Below.refl _ _⟩
  refine (HS1.out _ (by omega)).mono ?_
  rintro e w ⟨rfl, rfl⟩
  clear hm1 hm2 HS1
  cases b1
  rotate_left
  · go_wp2_with fail
    go_ret
    exact ⟨rfl, Below.refl _ _⟩
  go_wp2_with fail
  refine (HS2.out _ (by omega)).mono ?_
  rintro e w ⟨rfl, rfl⟩
  clear HS2
  cases b2
  rotate_left
  · go_wp2_with fail
    go_ret
    exact ⟨rfl, Below.refl _ _⟩
  go_wp2_with fail
  refine (HM1.out _ (by omega) ht).mono ?_
  rintro e w1 ⟨rfl, hb1⟩
  have ht1 := ht.later hb1
  clear ht
  go_wp2_with fail
  refine (HM2.out _ (by omega) ht1).mono ?_
  rintro e w2 ⟨rfl, hb2⟩
  have hb12 : Below w.heap.size w w2 := hb1.trans (hb2.mono hb1.size)
  clear hb1 hb2 ht1 HM1 HM2
  have hlaw := HW.out (by first | rfl | trivial) (by first | rfl | trivial)
  clear HW
  by_cases hid : id1 = id2
  · have hI : (id1.toList == id2.toList) = true := by rw [same_text]; exact decide_eq_true hid
    have hEL : ((X1.toList == X2.toList) = true ∧ (l1 == l2) = true) ∨ ((X1.toList == X2.toList) = false ∧ (l1 == l2) = false) := by
      by_cases hl : l1 = l2
      · exact .inl ⟨by rw [same_text]; exact decide_eq_true (hlaw.2 ⟨hid, hl⟩), by simpa using hl⟩
      · exact .inr ⟨by rw [same_text]; exact decide_eq_false (fun h => hl (hlaw.1 h).2), by simpa using hl⟩
    clear hlaw hid
    rcases hEL with ⟨hE, hL⟩ | ⟨hE, hL⟩
    all_goals
      go_wp2_with fail
      refine (HL1.out _).mono ?_
      rintro e w3 ⟨rfl, rfl⟩
      go_wp2_with fail
      refine (HL2.out _).mono ?_
      rintro e w3 ⟨rfl, rfl⟩
      go_wp2
      go_ret
      exact ⟨rfl, hb12⟩
  · have hI : (id1.toList == id2.toList) = false := by rw [same_text]; exact decide_eq_false hid
    have hE : (X1.toList == X2.toList) = false := by rw [same_text]; exact decide_eq_false (fun h => hid (hlaw.1 h).1)
    clear hlaw hid
    go_wp2_with fail
    go_ret
    exact ⟨rfl, hb12⟩
end Go.Proofs.Qxb6627545aDoor
