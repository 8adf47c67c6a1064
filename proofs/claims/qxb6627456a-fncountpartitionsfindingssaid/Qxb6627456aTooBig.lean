import Derived.Test.Qxb6627456aCount
import Derived.BigQuiet
import Derived.Deep.QuietTactic
namespace Go.Proofs.Qxb6627456a
open Go.RowKit

set_option maxRecDepth 100000 in
set_option maxHeartbeats 1000000 in
theorem tooBig (a : Option Addr) (n c : Nat) (S F M : Nat → ByteArray) (x : Int) (w : World) (hn : n ≤ 4096) (hx0 : 0 ≤ x) (hx : x ≤ 8388608) (hr : Row3 w a n S F M) :
    Calls Try.prog 6 #[.slice a n c, .int .i64 x] w fun e w' => SomeBool e ∧ Below w.heap.size w w' := by
  have hn' : (n : Int) ≤ 4096 := by omega
  go_enter Try.func6, Try.ntmps6
  go_wp2
  · go_ret
    exact ⟨SomeBool.mk _, Below.refl _ _⟩
  · go_ret
    exact ⟨SomeBool.mk _, Below.refl _ _⟩
  · go_loopw [5, 6] (fun v i wr => ∃ k : Nat, k ≤ n ∧ i = .int .i64 k ∧ (∃ z : Int, 0 ≤ z ∧ z ≤ 1048576 ∧ v = .int .i64 z) ∧ Below w.heap.size w wr) (fun _ i _ => n - (intOf i).toNat)
    case atStart => exact ⟨0, Nat.zero_le _, rfl, ⟨_, by omega, by omega, rfl⟩, Below.refl _ _⟩
    case round =>
      obtain ⟨k, hk, rfl, ⟨z, hz0, hz1, rfl⟩, hb⟩ := hrel
      by_cases hlt : k < n
      · obtain ⟨b, off, rfl, g0, g1, g2⟩ := hr.head hlt
        have c0 := cell_later hb g0
        have c1 := cell_later hb g1
        have c2 := cell_later hb g2
        have hlt' : (k : Int) < n := by omega
        clear hr g0 g1 g2
        go_wp2
        · go_ret
          exact ⟨SomeBool.mk _, hb⟩
        · have hM : ((M k).size : Int) ≤ 1048576 := by omega
          go_quiet (fail)
          go_wp2
          · go_ret
            exact ⟨SomeBool.mk _, below_drewN hb _⟩
          · go_roundw
            case rel => exact ⟨k + 1, by omega, by go_num, ⟨_, by omega, by omega, rfl⟩, below_drewN hb _⟩
            case measure => simp [intOf]; omega
        · go_ret
          exact ⟨SomeBool.mk _, hb⟩
        · go_ret
          exact ⟨SomeBool.mk _, hb⟩
      · go_wp2
        all_goals (go_ret; exact ⟨SomeBool.mk _, hb⟩)
end Go.Proofs.Qxb6627456a
