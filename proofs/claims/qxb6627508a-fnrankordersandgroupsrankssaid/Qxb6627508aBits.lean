import Derived.Test.Qxb6627508aRows
import Derived.Test.Qxb6627508aPlain
import Derived.WalkKit
import Derived.WalkSpells
import Derived.WalkLawsBesides
import Derived.BigQuiet
import Derived.Deep.QuietTactic
namespace Go.Proofs.Qxb6627508a
open Go.RowKit

def sh (d k : Nat) : Nat := d / 2 ^ k
theorem sh_succ (d k : Nat) : sh d (k + 1) = sh d k / 2 := by rw [sh, sh, Nat.pow_succ, Nat.div_div_eq_div_mul]
theorem sh_pos {d k m : Nat} (h : 2 ^ m ≤ d) (hk : k ≤ m) : 0 < sh d k := by
  refine Nat.div_pos (Nat.le_trans ?_ h) (pow_pos2 k)
  exact Nat.pow_le_pow_right (by decide) hk
theorem sh_last {d m : Nat} (h : d < 2 ^ (m + 1)) : sh d (m + 1) = 0 := Nat.div_eq_of_lt h

set_option maxHeartbeats 400000 in
theorem bitlen (d m : Nat) (w : World) (h1 : 2 ^ m ≤ d) (h2 : d < 2 ^ (m + 1)) (hm : m ≤ 63) :
    Calls Try.prog 13 #[.int .u64 d] w fun e w' => e = .returned (.int .i64 ((m : Int) + 1)) ∧ w' = w := by
  have H1 : Hid (2 ^ m ≤ d) := h1
  have H2 : Hid (d < 2 ^ (m + 1)) := h2
  clear h1 h2
  go_enter Try.func13, Try.ntmps13
  go_wp2
  go_loop [0, 3] (fun v i => ∃ k : Nat, k ≤ m + 1 ∧ i = .int .i64 k ∧ v = .int .u64 (sh d k : Nat)) (fun _ i => m + 1 - (intOf i).toNat)
  case atStart => exact ⟨0, Nat.zero_le _, rfl, by simp [sh]⟩
  case round =>
    obtain ⟨k, hk, rfl, rfl⟩ := hrel
    by_cases hlt : k ≤ m
    · have hp := sh_pos H1.out hlt
      have HS : Hid (sh d (k + 1) = sh d k / 2) := sh_succ d k
      obtain ⟨z, hz⟩ : ∃ z, sh d k = z := ⟨_, rfl⟩
      rw [hz] at hp ⊢
      have HS' : Hid (sh d (k + 1) = z / 2) := by rw [← hz]; exact HS
      clear hz HS
      have hz0 : ((z : Int) != 0) = true := by simp; omega
      go_wp2
      go_round
      case rel => exact ⟨k + 1, by omega, by go_num, by rw [HS'.out]; go_num⟩
      case measure => simp [intOf]; omega
    · obtain rfl : k = m + 1 := by omega
      rw [sh_last H2.out]
      go_wp2
      go_ret
      exact ⟨by go_num, rfl⟩

theorem ret_int {k : IntKind} {a b : Int} (h : a = b) : Ending.returned (.int k a) = .returned (.int k b) := by rw [h]
theorem pow_small {f : Nat} (hf : f ≤ 30) : 2 ^ f ≤ 1073741824 := Nat.pow_le_pow_right (n := 2) (by decide) hf
theorem wrap_i {x : Int} {n : Nat} (h : x = (n : Int)) (hn : n < 2 ^ 63) : wrap64 x = (n : Int) := by
  subst h
  have : (n : Int) < 9223372036854775808 := by omega
  unfold wrap64
  omega
theorem wrap_u {x : Int} {n : Nat} (h : x = (n : Int)) (hn : n < 2 ^ 64) : IntKind.u64.wrap x = (n : Int) := by
  subst h
  have : (n : Int) < 18446744073709551616 := by omega
  simp [IntKind.wrap, IntKind.bits, IntKind.signed]
  omega

set_option maxHeartbeats 400000 in
theorem bucket_zero (f i d : Nat) (w : World) (hf : f ≤ 30) (h0 : i / 2 ^ f = 0) (hd : InB f i d) :
    Calls Try.prog 9 #[.int .u64 d, .int .i64 f] w fun e w' => e = .returned (.int .i64 i) ∧ w' = w := by
  obtain ⟨rfl, hlt⟩ := inB_zero h0 hd
  clear hd h0
  have hs := pow_small hf
  obtain ⟨P, hP⟩ : ∃ P, 2 ^ f = P := ⟨_, rfl⟩
  have e1 : IntKind.u64.wrap ((2 : Int) ^ f) = (P : Int) := wrap_u (by rw [← hP]; simp) (by omega)
  rw [hP] at hlt hs
  have hlt' : (d : Int) < P := by omega
  clear hP
  go_enter Try.func9, Try.ntmps9
  go_wp2
  go_ret
  exact ⟨rfl, rfl⟩

set_option maxHeartbeats 400000 in
theorem bucket_pos (f i d : Nat) (w : World) (hf : f ≤ 30) (h0 : ¬ i / 2 ^ f = 0) (hd : InB f i d) (h63 : d < 2 ^ 63) :
    Calls Try.prog 9 #[.int .u64 d, .int .i64 f] w fun e w' => e = .returned (.int .i64 i) ∧ w' = w := by
  obtain ⟨hq, hlo, hhi⟩ := inB_pos h0 hd
  have hg := group_le hd h63 h0
  have hsm := pow_small hf
  have hi := Nat.div_add_mod i (2 ^ f)
  have ho : i % 2 ^ f < 2 ^ f := Nat.mod_lt _ (pow_pos2 f)
  have hdl : 2 ^ f ≤ d := Nat.le_trans (Nat.pow_le_pow_right (by decide) (Nat.le_add_right _ _)) hlo
  obtain ⟨s, hs⟩ : ∃ s, i / 2 ^ f = s + 1 := ⟨i / 2 ^ f - 1, by generalize i / 2 ^ f = G at *; omega⟩
  rw [hs, Nat.add_sub_cancel] at hq hlo hhi hg
  rw [hs] at hi
  obtain ⟨o, hoo⟩ : ∃ o, i % 2 ^ f = o := ⟨_, rfl⟩
  rw [hoo] at hq hi ho
  obtain ⟨P, hP⟩ : ∃ P, 2 ^ f = P := ⟨_, rfl⟩
  have e1 : IntKind.u64.wrap ((2 : Int) ^ f) = (P : Int) := wrap_u (by rw [← hP]; simp) (by omega)
  have hA : P * (s + 1) ≤ P * 63 := Nat.mul_le_mul_left _ (by omega)
  obtain ⟨A, hAA⟩ : ∃ A, P * (s + 1) = A := ⟨_, rfl⟩
  have e2 : wrap64 (((s : Int) + 1) * (2 : Int) ^ f) = (A : Int) := wrap_i (by rw [← hAA, ← hP]; simp [Int.mul_comm]) (by omega)
  have e3 : (d : Int) / (2 : Int) ^ s = (P : Int) + o := by
    have : ((d / 2 ^ s : Nat) : Int) = ((P + o : Nat) : Int) := by rw [hq, hP]
    simpa using this
  rw [hP] at hsm hi ho hdl
  rw [hAA] at hA hi
  obtain ⟨B, HB, hB1, hB2, e4⟩ : ∃ B : Int, Hid (∀ w, Calls Try.prog 13 #[.int .u64 d] w fun e w' => e = .returned (.int .i64 B) ∧ w' = w) ∧ 1 ≤ B ∧ B ≤ 64 ∧ B - 1 - f = s := by
    have h1 : f + s ≤ 63 := by clear hlo hhi hq hs h0 h63 hd hi hA e1 e2 e3; omega
    exact ⟨((f + s : Nat) : Int) + 1, fun w => bitlen d (f + s) w hlo hhi h1, by clear hlo hhi hq hs h0 h63 hd hi hA e1 e2 e3; omega, by clear hlo hhi hq hs h0 h63 hd hi hA e1 e2 e3; omega, by clear hlo hhi hq hs h0 h63 hd hi hA e1 e2 e3; omega⟩
  clear hP hAA hlo hhi hq hs hd h0 hoo h63
  have hdl' : ¬ (d : Int) < P := by clear e1 e2 e3 hi hA; omega
  have HI : Hid ((A : Int) + o = i) := by show (A : Int) + o = i; clear e1 e2 e3; omega
  clear hdl hi
  go_enter Try.func9, Try.ntmps9
  go_wp2_with fail
  refine (HB.out _).mono ?_
  rintro e w' ⟨rfl, rfl⟩
  go_wp2
  go_ret
  exact ⟨ret_int (by have := HI.out; clear e1 e2 e3 e4; omega), rfl⟩

theorem bucket_any (f i d : Nat) (w : World) (hf : f ≤ 30) (hd : InB f i d) (h63 : d < 2 ^ 63) :
    Calls Try.prog 9 #[.int .u64 d, .int .i64 f] w fun e w' => e = .returned (.int .i64 i) ∧ w' = w := by
  by_cases h0 : i / 2 ^ f = 0
  · exact bucket_zero f i d w hf h0 hd
  · exact bucket_pos f i d w hf h0 hd h63

set_option maxHeartbeats 400000 in
theorem bounds_zero (f i : Nat) (w : World) (hf : f ≤ 30) (hi : i < 131072) (h0 : i / 2 ^ f = 0) :
    Calls Try.prog 12 #[.int .i64 i, .int .i64 f] w fun e w' => e = .returned (.tuple #[.int .u64 (low f i), .int .u64 (wid f i)]) ∧ Below w.heap.size w w' := by
  rw [low_zero h0, wid_zero h0]
  have hlt : i < 2 ^ f := by
    rcases Nat.div_eq_zero_iff.1 h0 with h | h
    · have := pow_pos2 f; omega
    · exact h
  have hsm := pow_small hf
  obtain ⟨P, hP⟩ : ∃ P, 2 ^ f = P := ⟨_, rfl⟩
  rw [hP] at hlt hsm
  have e1 : wrap64 ((2 : Int) ^ f) = (P : Int) := wrap_i (by rw [← hP]; simp) (by omega)
  have hP0 : (0 : Int) < P := by omega
  have e2 : (i : Int) / P = 0 := Int.ediv_eq_zero_of_lt (by omega) (by omega)
  have e3 : (i : Int) % P = i := Int.emod_eq_of_lt (by omega) (by omega)
  have hPn : ((P : Int) == 0) = false := by simp; omega
  clear hP h0
  go_enter Try.func12, Try.ntmps12
  go_wp2
  go_quiet (fail)
  go_wp2
  go_ret2
  exact ⟨rfl, below_drewN (Below.refl _ _) _⟩

set_option maxHeartbeats 400000 in
theorem bounds_pos (f i : Nat) (w : World) (hf : f ≤ 30) (hi : i < 131072) (h0 : ¬ i / 2 ^ f = 0) (h63 : low f i + wid f i ≤ 2 ^ 63) :
    Calls Try.prog 12 #[.int .i64 i, .int .i64 f] w fun e w' => e = .returned (.tuple #[.int .u64 (low f i), .int .u64 (wid f i)]) ∧ Below w.heap.size w w' := by
  have hg := group_le (inB_low f i) (by have := wid_pos f i; omega) h0
  have ho : i % 2 ^ f < 2 ^ f := Nat.mod_lt _ (pow_pos2 f)
  have hsm := pow_small hf
  have hp0 := pow_pos2 f
  have hl := low_pos h0
  have hw := wid_pos' h0
  obtain ⟨s, hs⟩ : ∃ s, i / 2 ^ f = s + 1 := ⟨i / 2 ^ f - 1, by generalize i / 2 ^ f = G at *; omega⟩
  rw [hs, Nat.add_sub_cancel] at hl hw hg
  obtain ⟨lo, hlo⟩ : ∃ lo, low f i = lo := ⟨_, rfl⟩
  obtain ⟨wd, hwd⟩ : ∃ wd, wid f i = wd := ⟨_, rfl⟩
  rw [hlo] at hl h63 ⊢
  rw [hwd] at hw h63 ⊢
  obtain ⟨o, hoo⟩ : ∃ o, i % 2 ^ f = o := ⟨_, rfl⟩
  obtain ⟨P, hP⟩ : ∃ P, 2 ^ f = P := ⟨_, rfl⟩
  rw [hoo, hP] at hl ho
  rw [hP] at hsm hp0 hs hoo
  have e1 : wrap64 ((2 : Int) ^ f) = (P : Int) := wrap_i (by rw [← hP]; simp) (Nat.lt_of_le_of_lt hsm (by decide))
  have e2 : (i : Int) / P = (s : Int) + 1 := by
    have : ((i / P : Nat) : Int) = ((s + 1 : Nat) : Int) := by rw [hs]
    simpa using this
  have e3 : (i : Int) % P = o := by
    have : ((i % P : Nat) : Int) = (o : Int) := by rw [hoo]
    simpa using this
  have h1 : lo < 2 ^ 64 := Nat.lt_of_le_of_lt (Nat.le_trans (Nat.le_add_right _ _) h63) (by decide)
  have h2 : wd < 2 ^ 64 := Nat.lt_of_le_of_lt (Nat.le_trans (Nat.le_add_left _ _) h63) (by decide)
  have e4 : IntKind.u64.wrap (((P : Int) + o) * (2 : Int) ^ s) = (lo : Int) := wrap_u (by rw [hl]; simp) h1
  have e5 : IntKind.u64.wrap ((2 : Int) ^ s) = (wd : Int) := wrap_u (by rw [hw]; simp) h2
  clear hP h0 hl hw hlo hwd hs hoo h63 h1 h2
  have hP0 : (0 : Int) < P := by clear e1 e2 e3 e4 e5; omega
  have hPn : ((P : Int) == 0) = false := by clear e1 e2 e3 e4 e5; simp; omega
  have ho' : o < 1073741824 := by clear e1 e2 e3 e4 e5; omega
  clear hp0
  go_enter Try.func12, Try.ntmps12
  go_wp2
  go_quiet (fail)
  go_wp2
  go_quiet (fail)
  go_wp2
  go_ret2
  exact ⟨rfl, below_drewN (below_drewN (Below.refl _ _) _) _⟩

theorem bounds_any (f i : Nat) (w : World) (hf : f ≤ 30) (hi : i < 131072) (h63 : low f i + wid f i ≤ 2 ^ 63) :
    Calls Try.prog 12 #[.int .i64 i, .int .i64 f] w fun e w' => e = .returned (.tuple #[.int .u64 (low f i), .int .u64 (wid f i)]) ∧ Below w.heap.size w w' := by
  by_cases h0 : i / 2 ^ f = 0
  · exact bounds_zero f i w hf hi h0
  · exact bounds_pos f i w hf hi h0 h63
end Go.Proofs.Qxb6627508a
