import Derived.Test.Qxb6627596aRows
import Derived.WalkKit
import Derived.WalkSpells
import Derived.WalkLawsBesides
namespace Go.Proofs.Qxb6627596a
open Go.RowKit

set_option maxHeartbeats 400000 in
theorem alpha_low (c : Int) (w : World) (h1 : 97 ≤ c) (h2 : c ≤ 122) :
    Calls Try.prog 9 #[.int .u8 c] w fun e w' => e = .returned (.bool true) ∧ w' = w := by
  go_enter Try.func9, Try.ntmps9
  go_wp2
  go_ret
  exact ⟨rfl, rfl⟩

set_option maxHeartbeats 400000 in
theorem tchar_low (c : Int) (w : World) (h1 : 97 ≤ c) (h2 : c ≤ 122) :
    Calls Try.prog 10 #[.int .u8 c] w fun e w' => e = .returned (.bool true) ∧ w' = w := by
  go_enter Try.func10, Try.ntmps10
  go_wp2_with fail
  refine (alpha_low c _ h1 h2).mono ?_
  rintro e w1 ⟨rfl, rfl⟩
  go_wp2
  go_ret
  exact ⟨rfl, rfl⟩

/- A text of small letters, not empty. -/
set_option maxHeartbeats 400000 in
theorem token_low (s : ByteArray) (w : World) (h0 : 0 < s.size) (hs : s.size ≤ 64) (hc : ∀ k (h : k < s.size), 97 ≤ (s[k].toNat : Int) ∧ (s[k].toNat : Int) ≤ 122) :
    Calls Try.prog 6 #[.string s] w fun e w' => e = .returned (.bool true) ∧ w' = w := by
  have HC : Hid (∀ k (h : k < s.size), 97 ≤ (s[k].toNat : Int) ∧ (s[k].toNat : Int) ≤ 122) := hc
  obtain ⟨c1, c2⟩ := hc 0 h0
  clear hc
  have h0' : ((s.size : Int) == 0) = false := by rw [beq_eq_false_iff_ne]; omega
  go_enter Try.func6, Try.ntmps6
  go_wp2_with fail
  refine (alpha_low _ _ c1 c2).mono ?_
  rintro e w ⟨rfl, rfl⟩
  go_wp2
  go_loop [3] (fun i => ∃ k : Nat, 1 ≤ k ∧ k ≤ s.size ∧ i = .int .i64 k) (fun i => s.size - (intOf i).toNat)
  case atStart => exact ⟨1, Nat.le_refl _, h0, rfl⟩
  case round =>
    obtain ⟨k, hk1, hk, rfl⟩ := hrel
    by_cases hlt : k < s.size
    · obtain ⟨d1, d2⟩ := HC.out k hlt
      go_wp2_with fail
      refine (tchar_low _ _ d1 d2).mono ?_
      rintro e w ⟨rfl, rfl⟩
      go_wp2
      go_round
      case rel => exact ⟨k + 1, by omega, by omega, by go_num⟩
      case measure => simp [intOf]; omega
    · go_wp2
      go_ret
      exact ⟨rfl, rfl⟩

set_option maxHeartbeats 400000 in
theorem secs (d : Int) (w : World) (h : 0 < d) (hd : d ≤ 1000000000000) (hm : (d % 1000000000 == 0) = true) :
    Calls Try.prog 7 #[.int .i64 d] w fun e w' => e = .returned (.bool true) ∧ w' = w := by
  go_enter Try.func7, Try.ntmps7
  go_wp2
  go_ret
  exact ⟨rfl, rfl⟩

set_option maxHeartbeats 400000 in
theorem mibs (d : Int) (w : World) (h : 0 < d) (hd : d ≤ 1000000000000) (hm : (d % 1048576 == 0) = true) :
    Calls Try.prog 8 #[.int .i64 d] w fun e w' => e = .returned (.bool true) ∧ w' = w := by
  go_enter Try.func8, Try.ntmps8
  go_wp2
  go_ret
  exact ⟨rfl, rfl⟩

set_option maxHeartbeats 400000 in
theorem default_any (w : World) :
    Calls Try.prog 4 #[] w fun e w' => e = .returned (.agg #[.string ⟨#[114, 97, 109, 112, 97, 114, 116]⟩, .string ⟨#[]⟩, .int .i64 30000000000, .int .i64 60000000000, .string ⟨#[]⟩, .int .i64 30000000000, .int .i64 60000000000, .string ⟨#[]⟩, .int .i64 5000000000, .int .i64 30000000000, .int .i64 268435456, .int .i64 10485760, .slice none 0 0, .slice none 0 0]) ∧ Below w.heap.size w w' := by
  go_enter Try.func4, Try.ntmps4
  go_wp2
  exact bodyPost_ret (v := .agg #[.string ⟨#[114, 97, 109, 112, 97, 114, 116]⟩, .string ⟨#[]⟩, .int .i64 30000000000, .int .i64 60000000000, .string ⟨#[]⟩, .int .i64 30000000000, .int .i64 60000000000, .string ⟨#[]⟩, .int .i64 5000000000, .int .i64 30000000000, .int .i64 268435456, .int .i64 10485760, .slice none 0 0, .slice none 0 0]) (by simp [results, Try.results4, go_sem]) rfl ⟨rfl, ((Below.refl _ _).alloc (Nat.le_refl _) _).alloc (by simp) _⟩

theorem rampart_low : ∀ k (h : k < (⟨#[114, 97, 109, 112, 97, 114, 116]⟩ : ByteArray).size), 97 ≤ (((⟨#[114, 97, 109, 112, 97, 114, 116]⟩ : ByteArray)[k]'h).toNat : Int) ∧ (((⟨#[114, 97, 109, 112, 97, 114, 116]⟩ : ByteArray)[k]'h).toNat : Int) ≤ 122 := by
  intro k h
  have h7 : k < 7 := h
  match k, h7, h with
  | 0, _, _ => exact ⟨of_decide_eq_true rfl, of_decide_eq_true rfl⟩
  | 1, _, _ => exact ⟨of_decide_eq_true rfl, of_decide_eq_true rfl⟩
  | 2, _, _ => exact ⟨of_decide_eq_true rfl, of_decide_eq_true rfl⟩
  | 3, _, _ => exact ⟨of_decide_eq_true rfl, of_decide_eq_true rfl⟩
  | 4, _, _ => exact ⟨of_decide_eq_true rfl, of_decide_eq_true rfl⟩
  | 5, _, _ => exact ⟨of_decide_eq_true rfl, of_decide_eq_true rfl⟩
  | 6, _, _ => exact ⟨of_decide_eq_true rfl, of_decide_eq_true rfl⟩

set_option maxHeartbeats 1000000 in
theorem sane_any (w : World) :
    Calls Try.prog 5 #[.agg #[.string ⟨#[114, 97, 109, 112, 97, 114, 116]⟩, .string ⟨#[]⟩, .int .i64 30000000000, .int .i64 60000000000, .string ⟨#[]⟩, .int .i64 30000000000, .int .i64 60000000000, .string ⟨#[]⟩, .int .i64 5000000000, .int .i64 30000000000, .int .i64 268435456, .int .i64 10485760, .slice none 0 0, .slice none 0 0]] w fun e w' => e = .returned (.bool true) ∧ Below w.heap.size w w' := by
  have HT : Hid (∀ w : World, Calls Try.prog 6 #[.string ⟨#[114, 97, 109, 112, 97, 114, 116]⟩] w fun e w' => e = .returned (.bool true) ∧ w' = w) := fun w => token_low _ w (by decide) (by decide) rampart_low
  go_enter Try.func5, Try.ntmps5
  go_wp2_with fail
  refine (HT.out _).mono ?_
  rintro e w1 ⟨rfl, hw1⟩
  subst hw1
  go_wp2_with (first | (go_at_call 7; refine (secs _ _ (by decide) (by decide) (by decide)).mono ?_; rintro e w1 ⟨rfl, hw1⟩; subst hw1) | (go_at_call 8; refine (mibs _ _ (by decide) (by decide) (by decide)).mono ?_; rintro e w1 ⟨rfl, hw1⟩; subst hw1))
  go_ret
  exact ⟨rfl, (Below.refl _ _).alloc (Nat.le_refl _) _⟩
end Go.Proofs.Qxb6627596a
