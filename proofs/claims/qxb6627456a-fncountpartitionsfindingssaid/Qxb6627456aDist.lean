import Derived.Test.Qxb6627456aPlain
namespace Go.Proofs.Qxb6627456a
open Go.RowKit

/-! ### The distinct severities: no Go in sight -/
def seen (L : List ByteArray) (x : ByteArray) : Bool := L.any fun d => d.toList == x.toList
def dist (S : Nat → ByteArray) : Nat → List ByteArray
  | 0 => []
  | n + 1 => if seen (dist S n) (S n) then dist S n else dist S n ++ [S n]
def occ (L : List ByteArray) (x : ByteArray) : Nat := (L.map fun d => one d x).sum
def tot (L : List ByteArray) (S : Nat → ByteArray) (k : Nat) : Nat := (L.map fun d => cnt S d k).sum

theorem seen_snoc (L : List ByteArray) (d x : ByteArray) : seen (L ++ [d]) x = (seen L x || d.toList == x.toList) := by simp [seen]
theorem occ_snoc (L : List ByteArray) (d x : ByteArray) : occ (L ++ [d]) x = occ L x + one d x := by simp [occ]
theorem tot_snoc (L : List ByteArray) (d : ByteArray) (S : Nat → ByteArray) (k : Nat) : tot (L ++ [d]) S k = tot L S k + cnt S d k := by simp [tot]
theorem one_congr {d x y : ByteArray} (h : x.toList = y.toList) : one d x = one d y := by simp [one, h]
theorem occ_congr {L : List ByteArray} {x y : ByteArray} (h : x.toList = y.toList) : occ L x = occ L y := by simp [occ, one, h]
theorem one_comm (x y : ByteArray) : one x y = one y x := by
  unfold one
  by_cases h : x.toList = y.toList
  · simp [h]
  · simp [h, Ne.symm h]
theorem one_yes {x y : ByteArray} (h : x.toList = y.toList) : one x y = 1 := by simp [one, h]
theorem one_no {x y : ByteArray} (h : ¬ x.toList = y.toList) : one x y = 0 := by simp [one, h]
theorem occ_of_seen {L : List ByteArray} {x : ByteArray} (h : seen L x = true) : 1 ≤ occ L x := by
  induction L with
  | nil => simp [seen] at h
  | cons d L ih =>
    simp only [occ, List.map_cons, List.sum_cons]
    by_cases hd : d.toList = x.toList
    · rw [one_yes hd]; omega
    · have : seen L x = true := by simpa [seen, hd] using h
      have := ih this
      unfold occ at this
      omega
theorem occ_of_unseen {L : List ByteArray} {x : ByteArray} (h : seen L x = false) : occ L x = 0 := by
  induction L with
  | nil => rfl
  | cons d L ih =>
    simp only [seen, List.any_cons, Bool.or_eq_false_iff, beq_eq_false_iff_ne, ne_eq] at h
    simp only [occ, List.map_cons, List.sum_cons]
    rw [one_no h.1]
    have := ih h.2
    unfold occ at this
    omega
theorem occ_dist (S : Nat → ByteArray) (x : ByteArray) (k : Nat) : occ (dist S k) x = min 1 (cnt S x k) := by
  induction k generalizing x with
  | zero => rfl
  | succ k ih =>
    rw [cnt_succ, dist]
    by_cases hk : (S k).toList = x.toList
    · rw [one_yes hk]
      split
      · rename_i hs
        have := occ_of_seen hs
        rw [occ_congr hk] at this
        have := ih x
        omega
      · rename_i hs
        have := occ_of_unseen (by simpa using hs : seen (dist S k) (S k) = false)
        rw [occ_congr hk] at this
        rw [occ_snoc, one_yes hk]
        omega
    · rw [one_no hk]
      split
      · rw [ih]; rfl
      · rw [occ_snoc, one_no hk, ih]; rfl
theorem dist_length (S : Nat → ByteArray) (k : Nat) : (dist S k).length ≤ k := by
  induction k with
  | zero => exact Nat.le_refl _
  | succ k ih =>
    rw [dist]
    split
    · omega
    · simp; omega
theorem occ_mem {L : List ByteArray} {d : ByteArray} (h : d ∈ L) : 1 ≤ occ L d := by
  refine occ_of_seen ?_
  simp only [seen, List.any_eq_true]
  exact ⟨d, h, by simp⟩
theorem cnt_mem (S : Nat → ByteArray) (n : Nat) {d : ByteArray} (h : d ∈ dist S n) : 1 ≤ cnt S d n := by
  have := occ_mem h
  rw [occ_dist] at this
  omega
theorem cnt_unseen (S : Nat → ByteArray) (n : Nat) {t : ByteArray} (h : seen (dist S n) t = false) : cnt S t n = 0 := by
  have := occ_of_unseen h
  rw [occ_dist] at this
  omega
theorem cnt_at (S : Nat → ByteArray) {j n : Nat} (h : j < n) : 1 ≤ cnt S (S j) n := by
  induction n with
  | zero => omega
  | succ n ih =>
    rw [cnt_succ]
    by_cases hj : j = n
    · subst hj; rw [one_self]; omega
    · have := ih (by omega); omega
theorem tot_succ (L : List ByteArray) (S : Nat → ByteArray) (k : Nat) : tot L S (k + 1) = tot L S k + occ L (S k) := by
  induction L with
  | nil => rfl
  | cons d L ih =>
    simp only [tot, occ, List.map_cons, List.sum_cons, cnt_succ] at ih ⊢
    rw [ih, one_comm (S k) d]
    omega
theorem tot_zero (L : List ByteArray) (S : Nat → ByteArray) : tot L S 0 = 0 := by
  induction L with
  | nil => rfl
  | cons d L ih => simpa [tot, cnt] using ih
theorem tot_dist (S : Nat → ByteArray) (n : Nat) : tot (dist S n) S n = n := by
  have key : ∀ k, k ≤ n → tot (dist S n) S k = k := by
    intro k
    induction k with
    | zero => intro _; exact tot_zero _ _
    | succ k ih =>
      intro hk
      rw [tot_succ, ih (by omega), occ_dist]
      have := cnt_at S (show k < n by omega)
      omega
  exact key n (Nat.le_refl _)
theorem tot_append (A B : List ByteArray) (S : Nat → ByteArray) (k : Nat) : tot (A ++ B) S k = tot A S k + tot B S k := by
  unfold tot
  rw [List.map_append, List.sum_append]
theorem tot_le (S : Nat → ByteArray) (n j : Nat) : tot ((dist S n).take j) S n ≤ n := by
  have h := tot_dist S n
  have := tot_append ((dist S n).take j) ((dist S n).drop j) S n
  rw [List.take_append_drop] at this
  omega
theorem take_snoc_at {L : List ByteArray} {j : Nat} (h : j < L.length) : L.take (j + 1) = L.take j ++ [L[j]] := by
  rw [List.take_succ_eq_append_getElem h]
end Go.Proofs.Qxb6627456a
