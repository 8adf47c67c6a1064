import Derived.Test.Qxb6627456aCount
import Derived.BigQuiet
import Derived.Deep.QuietTactic
namespace Go.Proofs.Qxb6627456a
open Go.RowKit

set_option maxHeartbeats 1000000 in
theorem bytes9 (a : Option Addr) (n c : Nat) (S F M : Nat → ByteArray) (t : ByteArray) (w : World) (hr : Row3 w a n S F M) :
    Calls Try.prog 9 #[.slice a n c, .string t] w fun e w' => SomeBool e ∧ w' = w := by
  by_cases hn : n ≤ 1048576
  · have hn' : (n : Int) ≤ 1048576 := by omega
    go_enter Try.func9, Try.ntmps9
    go_wp2
    go_loop [5, 6] (fun v i => ∃ k : Nat, k ≤ n ∧ i = .int .i64 k ∧ ∃ z : Int, 0 ≤ z ∧ z ≤ 1048576 ∧ v = .int .i64 z) (fun _ i => n - (intOf i).toNat)
    case atStart => exact ⟨0, Nat.zero_le _, rfl, n, by omega, by omega, rfl⟩
    case round =>
      obtain ⟨k, hk, rfl, z, hz0, hz1, rfl⟩ := hrel
      by_cases hlt : k < n
      · obtain ⟨b, off, rfl, g0, g1, g2⟩ := hr.head hlt
        clear hr
        go_wp2
        all_goals first
          | (go_round; (case rel => exact ⟨k + 1, by omega, by go_num, _, by omega, by omega, rfl⟩); (case measure => simp [intOf]; omega))
          | (go_ret; exact ⟨SomeBool.mk _, rfl⟩)
      · go_wp2
        all_goals (go_ret; exact ⟨SomeBool.mk _, rfl⟩)
  · have hn' : (1048576 : Int) < n := by omega
    go_enter Try.func9, Try.ntmps9
    go_wp2
    go_ret
    exact ⟨SomeBool.mk _, rfl⟩

set_option maxRecDepth 100000 in
set_option maxHeartbeats 1000000 in
theorem bytes5 (a : Option Addr) (n c : Nat) (S F M : Nat → ByteArray) (i0 : Int) (f0 f1 f2 t : ByteArray) (w : World) (hr : Row3 w a n S F M) :
    Calls Try.prog 5 #[.slice a n c, .int .i64 i0, .agg #[.string f0, .string f1, .string f2], .string t] w fun e w' => SomeBool e ∧ Below w.heap.size w w' := by
  by_cases hn : n ≤ 1048576
  · have hn' : (n : Int) ≤ 1048576 := by omega
    go_enter Try.func5, Try.ntmps5
    go_wp2
    go_loop [9, 10] (fun v i => ∃ k : Nat, k ≤ n ∧ i = .int .i64 k ∧ ∃ z : Int, 0 ≤ z ∧ z ≤ 1048576 ∧ v = .int .i64 z) (fun _ i => n - (intOf i).toNat)
    case atStart => exact ⟨0, Nat.zero_le _, rfl, n, by omega, by omega, rfl⟩
    case round =>
      obtain ⟨k, hk, rfl, z, hz0, hz1, rfl⟩ := hrel
      by_cases hlt : k < n
      · obtain ⟨b, off, rfl, g0, g1, g2⟩ := hr.head hlt
        have q0 : b < w.heap.size := World.block_lt_of_cell? w _ g0
        clear hr
        go_wp2
        all_goals first
          | (go_round; (case rel => exact ⟨k + 1, by omega, by go_num, _, by omega, by omega, rfl⟩); (case measure => simp [intOf]; omega))
          | (go_ret; exact ⟨SomeBool.mk _, (Below.refl _ _).alloc (Nat.le_refl _) _⟩)
      · go_wp2
        all_goals (go_ret; exact ⟨SomeBool.mk _, (Below.refl _ _).alloc (Nat.le_refl _) _⟩)
  · have hn' : (1048576 : Int) < n := by omega
    go_enter Try.func5, Try.ntmps5
    go_wp2
    go_ret
    exact ⟨SomeBool.mk _, (Below.refl _ _).alloc (Nat.le_refl _) _⟩

end Go.Proofs.Qxb6627456a
