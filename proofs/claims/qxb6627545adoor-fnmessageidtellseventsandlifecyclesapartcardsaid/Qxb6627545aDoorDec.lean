import Derived.Lib.ItoaNum
import Derived.WalkKit
namespace Go.Proofs.Qxb6627545aDoor
open Go.Lib

/-! ### Decimal numerals: no Go in sight -/
def val (l : List UInt8) : Nat := l.foldl (fun v c => v * 10 + (c.toNat - 48)) 0
theorem val_snoc (l : List UInt8) (c : UInt8) : val (l ++ [c]) = val l * 10 + (c.toNat - 48) := by simp [val]

theorem toNat_digit {d : Nat} (h : d < 10) : (UInt8.ofNat (48 + d)).toNat = 48 + d := by
  rw [UInt8.toNat_ofNat']
  omega
theorem dec_small {u : Nat} (h : u < 10) : decDigits u = [UInt8.ofNat (48 + u)] := by rw [decDigits, dif_pos h]
theorem dec_great {u : Nat} (h : ¬ u < 10) : decDigits u = decDigits (u / 10) ++ [UInt8.ofNat (48 + u % 10)] := by rw [decDigits, dif_neg h]

theorem dec_props (u : Nat) : val (decDigits u) = u ∧ (∀ c ∈ decDigits u, 48 ≤ c.toNat ∧ c.toNat ≤ 57) ∧ decDigits u ≠ [] ∧ (1 ≤ u → ∀ c r, decDigits u = c :: r → c.toNat ≠ 48) := by
  induction u using Nat.strongRecOn with
  | ind u ih =>
    by_cases h : u < 10
    · rw [dec_small h]
      have e := toNat_digit h
      refine ⟨?_, ?_, by simp, ?_⟩
      · simp only [val, List.foldl_cons, List.foldl_nil, e]; omega
      · intro c hc
        rw [List.mem_singleton.1 hc, e]; omega
      · intro hu c r hcr
        simp only [List.cons.injEq] at hcr
        rw [← hcr.1, e]; omega
    · obtain ⟨h1, h2, h3, h4⟩ := ih (u / 10) (by omega)
      have e := toNat_digit (show u % 10 < 10 by omega)
      rw [dec_great h]
      refine ⟨?_, ?_, by simp, ?_⟩
      · rw [val_snoc, h1, e]; omega
      · intro c hc
        rcases List.mem_append.1 hc with hc | hc
        · exact h2 c hc
        · rw [List.mem_singleton.1 hc, e]; omega
      · intro _ c r hcr
        match hd : decDigits (u / 10), h3 with
        | a :: t, _ =>
          rw [hd] at hcr
          simp only [List.cons_append, List.cons.injEq] at hcr
          rw [← hcr.1]
          exact h4 (by omega) a t hd

theorem val_take_le (l : List UInt8) : ∀ k, val (l.take k) ≤ val l := by
  suffices H : ∀ n, ∀ l : List UInt8, l.length = n → ∀ k, val (l.take k) ≤ val l from H _ l rfl
  intro n
  induction n with
  | zero =>
    intro l hl k
    obtain rfl := List.eq_nil_of_length_eq_zero hl
    simp
  | succ n ih =>
    intro l hl k
    have hne : l ≠ [] := by rintro rfl; simp at hl
    by_cases hk : l.length ≤ k
    · rw [List.take_of_length_le hk]; exact Nat.le_refl _
    · rw [← List.dropLast_concat_getLast hne, List.take_append_of_le_length (by simp; omega), val_snoc]
      have := ih l.dropLast (by simp; omega) k
      omega
theorem val_take_succ (l : List UInt8) (k : Nat) (h : k < l.length) : val (l.take (k + 1)) = val (l.take k) * 10 + (l[k].toNat - 48) := by
  rw [List.take_succ_eq_append_getElem h, val_snoc]
theorem dec_inj {a b : Nat} (h : decDigits a = decDigits b) : a = b := by
  have := congrArg val h
  rwa [(dec_props a).1, (dec_props b).1] at this
end Go.Proofs.Qxb6627545aDoor
