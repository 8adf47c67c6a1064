import Derived.Test.Qxb6627456aRows
import Derived.WalkKit
import Derived.WalkSpells
import Derived.WalkLawsBesides
namespace Go.Proofs.Qxb6627456a
open Go.RowKit

/-- A row of records of three strings: nothing is asked of an empty one. -/
def Row3 (w : World) (a : Option Addr) (n : Nat) (S F M : Nat → ByteArray) : Prop :=
  n = 0 ∨ ∃ b off, a = some ⟨b, off, none⟩ ∧ ∀ k, k < n →
    w.cell? ⟨b, off + k * 3, none⟩ = some (.string (S k)) ∧ w.cell? ⟨b, off + k * 3 + 1, none⟩ = some (.string (F k)) ∧ w.cell? ⟨b, off + k * 3 + 2, none⟩ = some (.string (M k))

theorem Row3.head {w : World} {a : Option Addr} {n : Nat} {S F M : Nat → ByteArray} (h : Row3 w a n S F M) {k : Nat} (hk : k < n) :
    ∃ b off, a = some ⟨b, off, none⟩ ∧ w.cell? ⟨b, off + k * 3, none⟩ = some (.string (S k)) ∧ w.cell? ⟨b, off + k * 3 + 1, none⟩ = some (.string (F k)) ∧ w.cell? ⟨b, off + k * 3 + 2, none⟩ = some (.string (M k)) := by
  rcases h with rfl | ⟨b, off, rfl, h⟩
  · omega
  · exact ⟨b, off, rfl, h k hk⟩

/-- The call returns a bool, whichever. -/
def SomeBool (e : Ending) : Prop := ∃ bb : Bool, e = .returned (.bool bb)
theorem SomeBool.mk (bb : Bool) : SomeBool (.returned (.bool bb)) := ⟨bb, rfl⟩

def cnt (S : Nat → ByteArray) (s : ByteArray) : Nat → Nat
  | 0 => 0
  | n + 1 => cnt S s n + if (S n).toList == s.toList then 1 else 0

theorem cnt_le (S : Nat → ByteArray) (s : ByteArray) (n : Nat) : cnt S s n ≤ n := by
  induction n with
  | zero => exact Nat.le_refl _
  | succ n ih => simp only [cnt]; split <;> omega

set_option maxHeartbeats 400000 in
theorem count_any (p : Nat) (b off n c : Nat) (S F M : Nat → ByteArray) (s : ByteArray) (w : World) (hn : n ≤ 1048576)
    (hp : w.cell? ⟨p, 0, none⟩ = some (.slice (some ⟨b, off, none⟩) n c))
    (hr : ∀ k, k < n → w.cell? ⟨b, off + k * 3, none⟩ = some (.string (S k)) ∧ w.cell? ⟨b, off + k * 3 + 1, none⟩ = some (.string (F k)) ∧ w.cell? ⟨b, off + k * 3 + 2, none⟩ = some (.string (M k))) :
    Calls Try.prog 8 #[.pointer (some ⟨p, 0, none⟩), .string s] w fun e w' => e = .returned (.int .i64 (cnt S s n : Nat)) ∧ Below w.heap.size w w' := by
  go_enter Try.func8, Try.ntmps8
  go_wp2
  go_loopw [5, 13] (fun v i wr => ∃ k : Nat, k ≤ n ∧ i = .int .i64 k ∧ v = .int .i64 (cnt S s k : Nat) ∧ Below w.heap.size w wr) (fun _ i _ => n - (intOf i).toNat)
  case atStart => exact ⟨0, Nat.zero_le _, rfl, rfl, Below.refl _ _⟩
  case round =>
    obtain ⟨k, hk, rfl, rfl, hb⟩ := hrel
    have hle := cnt_le S s k
    by_cases hlt : k < n
    · obtain ⟨g0, g1, g2⟩ := hr k hlt
      have c0 := cell_later hb g0
      have c1 := cell_later hb g1
      have c2 := cell_later hb g2
      clear g0 g1 g2 hr hp
      go_wp2
      · have ht : ((S k).toList == s.toList) = true := by assumption
        go_roundw
        case rel => exact ⟨k + 1, by omega, by go_num, by rw [cnt, if_pos ht]; go_num, hb.alloc hb.size _⟩
        case measure => simp [intOf]; omega
      · have ht : ((S k).toList == s.toList) = false := by assumption
        go_roundw
        case rel => exact ⟨k + 1, by omega, by go_num, by rw [cnt, if_neg (by simp [ht])]; go_num, hb.alloc hb.size _⟩
        case measure => simp [intOf]; omega
    · go_wp2
      go_ret
      have : k = n := by omega
      subst this
      exact ⟨rfl, hb⟩

set_option maxHeartbeats 400000 in
theorem count_none (p : Nat) (a : Option Addr) (c : Nat) (s : ByteArray) (w : World)
    (hp : w.cell? ⟨p, 0, none⟩ = some (.slice a 0 c)) :
    Calls Try.prog 8 #[.pointer (some ⟨p, 0, none⟩), .string s] w fun e w' => e = .returned (.int .i64 0) ∧ Below w.heap.size w w' := by
  go_enter Try.func8, Try.ntmps8
  go_wp2
  refine wp_loop_rounds 1 ?_
  rw [rounds_succ]
  go_wp2
  go_ret
  exact ⟨rfl, Below.refl _ _⟩

theorem count_row (p : Nat) (a : Option Addr) (n c : Nat) (S F M : Nat → ByteArray) (s : ByteArray) (w : World) (hn : n ≤ 1048576)
    (hp : w.cell? ⟨p, 0, none⟩ = some (.slice a n c)) (hr : Row3 w a n S F M) :
    Calls Try.prog 8 #[.pointer (some ⟨p, 0, none⟩), .string s] w fun e w' => e = .returned (.int .i64 (cnt S s n : Nat)) ∧ Below w.heap.size w w' := by
  rcases hr with rfl | ⟨b, off, rfl, hr⟩
  · exact count_none p a c s w hp
  · exact count_any p b off n c S F M s w hn hp hr
end Go.Proofs.Qxb6627456a
