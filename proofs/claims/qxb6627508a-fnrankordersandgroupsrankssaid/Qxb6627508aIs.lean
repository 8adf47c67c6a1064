import Derived.Test.Qxb6627508aCallees
namespace Go.Proofs.Qxb6627508a
open Go.RowKit

/-- What is known of the counts that came in. -/
def Came (w : World) (a : Option Addr) (n : Nat) (C : Nat → Nat) : Prop := n = 0 ∨ ∃ b off, a = some ⟨b, off, none⟩ ∧ RowU w b off n C
theorem Came.head {w : World} {a : Option Addr} {n : Nat} {C : Nat → Nat} (h : Came w a n C) {k : Nat} (hk : k < n) : ∃ b off, a = some ⟨b, off, none⟩ ∧ RowU w b off n C := by
  rcases h with h | h
  · omega
  · exact h

theorem lim_small {f : Nat} (hf : f ≤ 16) : (64 - f) * 2 ^ f ≤ 4194304 := by
  have h1 : 2 ^ f ≤ 65536 := Nat.pow_le_pow_right (n := 2) (by decide) hf
  calc (64 - f) * 2 ^ f ≤ 64 * 65536 := Nat.mul_le_mul (by omega) h1
    _ = 4194304 := rfl
theorem wrap_over (C : Nat → Nat) {k : Nat} (h1 : pre C k < 2 ^ 64) (h2 : C k < 2 ^ 64) (h3 : ¬ pre C (k + 1) < 2 ^ 64) : ∃ X : Nat, IntKind.u64.wrap ((pre C k : Int) + (C k : Int)) = X ∧ X < pre C k := by
  refine ⟨pre C k + C k - 2 ^ 64, ?_, ?_⟩
  · simp only [pre] at h3
    simp [IntKind.wrap, IntKind.bits, IntKind.signed]
    omega
  · simp only [pre] at h3
    omega

set_option maxRecDepth 100000 in
set_option maxHeartbeats 400000 in
theorem is_out (a0 a1 a3 : Int) (a2 : Option Addr) (n c : Nat) (w : World) (h : ¬ (n ≤ 131072 ∧ 0 ≤ a0 ∧ a0 ≤ 30)) :
    Calls Try.prog 3 #[.int .i64 a0, .int .u64 a1, .slice a2 n c, .int .u64 a3] w fun e w' => e = .returned (.bool true) ∧ Below w.heap.size w w' := by
  by_cases hn : n ≤ 131072
  · have hn' : (n : Int) ≤ 131072 := by omega
    by_cases h0 : a0 < 0
    · go_enter Try.func3, Try.ntmps3
      go_wp2
      go_ret
      exact ⟨rfl, Below.refl _ _⟩
    · have h1 : 30 < a0 := by omega
      go_enter Try.func3, Try.ntmps3
      go_wp2
      go_ret
      exact ⟨rfl, Below.refl _ _⟩
  · have hn' : (131072 : Int) < n := by omega
    by_cases hn2 : (n : Int) ≤ 1048576
    · go_enter Try.func3, Try.ntmps3
      go_wp2
      go_ret
      exact ⟨rfl, Below.refl _ _⟩
    · go_enter Try.func3, Try.ntmps3
      go_wp2
      go_ret
      exact ⟨rfl, Below.refl _ _⟩

set_option maxRecDepth 100000 in
set_option maxHeartbeats 400000 in
theorem is_lim (f : Nat) (a1 a3 : Int) (a2 : Option Addr) (n c : Nat) (w : World) (hn : n ≤ 131072) (hf : f ≤ 16) (h : (64 - f) * 2 ^ f < n) :
    Calls Try.prog 3 #[.int .i64 f, .int .u64 a1, .slice a2 n c, .int .u64 a3] w fun e w' => e = .returned (.bool true) ∧ Below w.heap.size w w' := by
  have hl := lim_small hf
  obtain ⟨K, hK⟩ : ∃ K, (64 - f) * 2 ^ f = K := ⟨_, rfl⟩
  have e1 : wrap64 ((64 - (f : Int)) * (2 : Int) ^ f) = (K : Int) := by
    refine wrap_i ?_ (by rw [← hK]; exact Nat.lt_of_le_of_lt hl (by decide))
    rw [← hK, Int.natCast_mul, Int.natCast_sub (by omega)]
    simp
  rw [hK] at h hl
  clear hK
  have hn' : (n : Int) ≤ 131072 := by clear e1; omega
  have hf' : (f : Int) ≤ 16 := by clear e1; omega
  have hKn : (K : Int) < n := by clear e1; omega
  go_enter Try.func3, Try.ntmps3
  go_wp2
  go_ret
  exact ⟨rfl, Below.refl _ _⟩
end Go.Proofs.Qxb6627508a
