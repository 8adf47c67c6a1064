import Derived.WalkKit
namespace Go.Proofs.Qxb6627508a

/-! ### Buckets: no Go in sight. 'f': the fineness; 'i': a bucket; its group 'i / 2 ^ f'. -/
def low (f i : Nat) : Nat := if i / 2 ^ f = 0 then i else (2 ^ f + i % 2 ^ f) * 2 ^ (i / 2 ^ f - 1)
def wid (f i : Nat) : Nat := if i / 2 ^ f = 0 then 1 else 2 ^ (i / 2 ^ f - 1)
def InB (f i d : Nat) : Prop := low f i ≤ d ∧ d < low f i + wid f i

theorem pow_pos2 (n : Nat) : 0 < 2 ^ n := Nat.two_pow_pos n
theorem wid_pos (f i : Nat) : 1 ≤ wid f i := by
  unfold wid
  split
  · exact Nat.le_refl _
  · exact pow_pos2 _

theorem low_zero {f i : Nat} (h : i / 2 ^ f = 0) : low f i = i := by simp [low, h]
theorem wid_zero {f i : Nat} (h : i / 2 ^ f = 0) : wid f i = 1 := by simp [wid, h]
theorem low_pos {f i : Nat} (h : ¬ i / 2 ^ f = 0) : low f i = (2 ^ f + i % 2 ^ f) * 2 ^ (i / 2 ^ f - 1) := by simp [low, h]
theorem wid_pos' {f i : Nat} (h : ¬ i / 2 ^ f = 0) : wid f i = 2 ^ (i / 2 ^ f - 1) := by simp [wid, h]

/-- What lies in a bucket of a group from 1 on: its leading digits, and how many digits it has. -/
theorem inB_pos {f i d : Nat} (h : ¬ i / 2 ^ f = 0) (hd : InB f i d) :
    d / 2 ^ (i / 2 ^ f - 1) = 2 ^ f + i % 2 ^ f ∧ 2 ^ (f + (i / 2 ^ f - 1)) ≤ d ∧ d < 2 ^ (f + (i / 2 ^ f - 1) + 1) := by
  obtain ⟨h1, h2⟩ := hd
  rw [low_pos h] at h1 h2
  rw [wid_pos' h] at h2
  generalize hs : i / 2 ^ f - 1 = s at *
  have ho : i % 2 ^ f < 2 ^ f := Nat.mod_lt _ (pow_pos2 f)
  generalize i % 2 ^ f = o at *
  have hq := pow_pos2 s
  refine ⟨?_, ?_, ?_⟩
  · refine Nat.div_eq_of_lt_le ?_ ?_
    · exact h1
    · rw [Nat.add_mul, Nat.one_mul]; exact h2
  · rw [Nat.pow_add]
    refine Nat.le_trans (Nat.mul_le_mul_right _ (Nat.le_add_right _ o)) h1
  · rw [Nat.pow_succ, Nat.pow_add]
    have : (2 ^ f + o) * 2 ^ s + 2 ^ s ≤ 2 ^ f * 2 ^ s * 2 := by
      have : (2 ^ f + o + 1) * 2 ^ s ≤ (2 ^ f * 2) * 2 ^ s := Nat.mul_le_mul_right _ (by omega)
      rw [Nat.add_mul, Nat.one_mul] at this
      rw [Nat.mul_right_comm]
      exact this
    omega

theorem inB_zero {f i d : Nat} (h : i / 2 ^ f = 0) (hd : InB f i d) : d = i ∧ d < 2 ^ f := by
  obtain ⟨h1, h2⟩ := hd
  rw [low_zero h] at h1 h2
  rw [wid_zero h] at h2
  have : i < 2 ^ f := by
    rcases Nat.div_eq_zero_iff.1 h with h | h
    · have := pow_pos2 f; omega
    · exact h
  omega

theorem inB_low (f i : Nat) : InB f i (low f i) := ⟨Nat.le_refl _, by have := wid_pos f i; omega⟩
theorem inB_high (f i : Nat) : InB f i (low f i + wid f i - 1) := by have := wid_pos f i; exact ⟨by omega, by omega⟩

/-- The buckets lie side by side. -/
theorem low_succ (f i : Nat) : low f (i + 1) = low f i + wid f i := by
  have hp := pow_pos2 f
  have e0 := Nat.div_add_mod i (2 ^ f)
  have ho : i % 2 ^ f < 2 ^ f := Nat.mod_lt _ hp
  by_cases hm : i % 2 ^ f + 1 < 2 ^ f
  · have hd : (i + 1) / 2 ^ f = i / 2 ^ f := by
      refine Nat.div_eq_of_lt_le ?_ ?_
      · rw [Nat.mul_comm]; omega
      · rw [Nat.add_mul, Nat.one_mul, Nat.mul_comm]; omega
    have hr : (i + 1) % 2 ^ f = i % 2 ^ f + 1 := by
      have := Nat.div_add_mod (i + 1) (2 ^ f)
      rw [hd] at this
      omega
    by_cases h : i / 2 ^ f = 0
    · rw [low_zero h, wid_zero h, low_zero (by rw [hd]; exact h)]
    · rw [low_pos h, wid_pos' h, low_pos (by rw [hd]; exact h), hd, hr, ← Nat.add_assoc, Nat.add_mul _ 1, Nat.one_mul]
  · have hd : (i + 1) / 2 ^ f = i / 2 ^ f + 1 := by
      refine Nat.div_eq_of_lt_le ?_ ?_
      · rw [Nat.add_mul, Nat.one_mul, Nat.mul_comm]; omega
      · rw [Nat.add_mul, Nat.add_mul, Nat.one_mul, Nat.mul_comm]; omega
    have hr : (i + 1) % 2 ^ f = 0 := by
      have := Nat.div_add_mod (i + 1) (2 ^ f)
      rw [hd, Nat.mul_add, Nat.mul_one] at this
      omega
    have ho' : i % 2 ^ f = 2 ^ f - 1 := by
      clear hd hr e0
      generalize i % 2 ^ f = o at *
      generalize 2 ^ f = P at *
      omega
    rw [low_pos (by rw [hd]; exact Nat.succ_ne_zero _), hd, hr, Nat.add_zero, Nat.add_sub_cancel]
    by_cases h : i / 2 ^ f = 0
    · rw [low_zero h, wid_zero h, h, Nat.pow_zero, Nat.mul_one]
      rw [h] at e0
      omega
    · rw [low_pos h, wid_pos' h, ho']
      obtain ⟨s, hs⟩ : ∃ s, i / 2 ^ f = s + 1 := ⟨i / 2 ^ f - 1, by clear ho' hm hd hr ho e0; generalize i / 2 ^ f = G at *; omega⟩
      rw [hs, Nat.add_sub_cancel, Nat.pow_succ]
      have : (2 ^ f + (2 ^ f - 1)) * 2 ^ s + 2 ^ s = (2 ^ f + (2 ^ f - 1) + 1) * 2 ^ s := by rw [Nat.add_mul _ 1, Nat.one_mul]
      rw [this, show 2 ^ f + (2 ^ f - 1) + 1 = 2 ^ f * 2 by omega, Nat.mul_right_comm, Nat.mul_assoc]

theorem low_mono (f : Nat) {i j : Nat} (h : i < j) : low f i + wid f i ≤ low f j := by
  induction j with
  | zero => omega
  | succ j ih =>
    rw [low_succ]
    by_cases hij : i = j
    · subst hij; exact Nat.le_refl _
    · have := ih (by omega); omega

/-- A bucket that ends within 2 ^ 63. -/
theorem high_lt {f i : Nat} (h : i < (64 - f) * 2 ^ f) (hf : f ≤ 63) : low f i + wid f i ≤ 2 ^ 63 := by
  have h1 : low f ((64 - f) * 2 ^ f) = 2 ^ 63 := by
    have hp := pow_pos2 f
    have hd : (64 - f) * 2 ^ f / 2 ^ f = 64 - f := Nat.mul_div_cancel _ hp
    rw [low_pos (by rw [hd]; omega), hd, Nat.mul_mod_left, Nat.add_zero, ← Nat.pow_add]
    congr 1
    omega
  rw [← h1]
  exact low_mono f h

/-- Of a bucket that holds a number below 2 ^ 63 the group is small. -/
theorem group_le {f i d : Nat} (hd : InB f i d) (h : d < 2 ^ 63) (h0 : ¬ i / 2 ^ f = 0) : f + (i / 2 ^ f - 1) < 63 := by
  have := (inB_pos h0 hd).2.1
  exact (Nat.pow_lt_pow_iff_right (by decide)).1 (Nat.lt_of_le_of_lt this h)

/-! ### Sums of counts -/
def pre (C : Nat → Nat) : Nat → Nat
  | 0 => 0
  | n + 1 => pre C n + C n
theorem pre_mono (C : Nat → Nat) {a b : Nat} (h : a ≤ b) : pre C a ≤ pre C b := by
  induction b with
  | zero => obtain rfl : a = 0 := by omega
            exact Nat.le_refl _
  | succ b ih =>
    by_cases hab : a = b + 1
    · subst hab; exact Nat.le_refl _
    · have := ih (by omega); simp only [pre]; omega
/-- The bucket of the r-th. -/
theorem pre_find (C : Nat → Nat) (n r : Nat) (h1 : 1 ≤ r) (h2 : r ≤ pre C n) : ∃ i, i < n ∧ pre C i < r ∧ r ≤ pre C (i + 1) := by
  induction n with
  | zero => simp only [pre] at h2; omega
  | succ n ih =>
    by_cases h : r ≤ pre C n
    · obtain ⟨i, hi, h⟩ := ih h; exact ⟨i, by omega, h⟩
    · exact ⟨n, by omega, by omega, h2⟩
theorem pre_lt_iff {C : Nat → Nat} {a b : Nat} (h : pre C a < pre C b) : a < b := by
  refine Nat.lt_of_not_le fun hb => ?_
  have := pre_mono C hb
  omega
theorem pre_congr {C D : Nat → Nat} {n : Nat} (h : ∀ k, k < n → C k = D k) : pre C n = pre D n := by
  induction n with
  | zero => rfl
  | succ n ih => simp only [pre]; rw [ih (fun k hk => h k (by omega)), h n (by omega)]
end Go.Proofs.Qxb6627508a
