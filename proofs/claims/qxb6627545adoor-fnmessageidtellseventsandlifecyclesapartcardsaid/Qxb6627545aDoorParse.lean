import Derived.Test.Qxb6627545aDoorMsg
import Derived.Test.Qxb6627545aDoorDec
namespace Go.Proofs.Qxb6627545aDoor
open Go.RowKit

theorem str_at (s : ByteArray) (k : Nat) (h : k < s.size) : s.data.toList[k]'(by simpa using h) = s[k] := rfl

set_option maxHeartbeats 400000 in
theorem parse_any (s : ByteArray) (r : Nat) (w : World) (hs : s.data.toList = Lib.decDigits r) (hr : 1 ≤ r) (hr1 : r ≤ 9223372036854775807) (hsz : s.size ≤ 64) :
    Calls Tryd.prog 6 #[.string s] w fun e w' => e = .returned (.tuple #[.int .i64 r, .bool true]) ∧ w' = w := by
  obtain ⟨hval, hdig, hne, hhead⟩ := dec_props r
  rw [← hs] at hval hdig hne hhead
  have hpos : 0 < s.size := by
    have : 0 < s.data.toList.length := List.length_pos_iff.2 hne
    simpa using this
  have hh : ((s[0]'hpos).toNat : Int) ≠ 48 := by
    have h1 : s.data.toList = s[0] :: s.data.toList.tail := by
      cases hl : s.data.toList with
      | nil => exact absurd hl hne
      | cons a t =>
        have : s[0] = s.data.toList[0]'(by rw [hl]; simp) := rfl
        rw [this]
        simp [hl]
    have := hhead hr _ _ h1
    omega
  have hh' : (((s[0]'hpos).toNat : Int) == 48) = false := by simpa using hh
  have hsn : ((s.size : Int) == 0) = false := by rw [beq_eq_false_iff_ne]; omega
  have HV := hide hval
  have HD := hide hdig
  have HR := hide hr1
  clear hs hval hdig hne hhead hh hr hr1
  go_enter Tryd.func6, Tryd.ntmps6
  go_wp2
  go_loop [4, 5] (fun v i => ∃ k : Nat, k ≤ s.size ∧ i = .int .i64 k ∧ v = .int .i64 (val (s.data.toList.take k) : Nat)) (fun _ i => s.size - (intOf i).toNat)
  case atStart => exact ⟨0, Nat.zero_le _, rfl, rfl⟩
  case round =>
    obtain ⟨k, hk, rfl, rfl⟩ := hrel
    clear hh' hsn
    by_cases hlt : k < s.size
    · have hk' : k < s.data.toList.length := by simpa using hlt
      have e1 := val_take_succ s.data.toList k hk'
      have hd := HD.out _ (List.getElem_mem hk')
      rw [str_at s k hlt] at e1 hd
      have hle := val_take_le s.data.toList (k + 1)
      rw [HV.out] at hle
      obtain ⟨V, hV⟩ : ∃ V, val (s.data.toList.take k) = V := ⟨_, rfl⟩
      have HE : Hid (((val (s.data.toList.take (k + 1)) : Nat) : Int) = (V : Int) * 10 + ((s[k].toNat : Int) - 48)) := by show _ = _; rw [← hV]; omega
      have hb : (V : Int) * 10 + ((s[k].toNat : Int) - 48) ≤ 9223372036854775807 := by have := HR.out; have := HE.out; omega
      obtain ⟨hd1, hd2⟩ := hd
      rw [hV]
      clear hV e1 hle
      have hd1' : (48 : Int) ≤ s[k].toNat := by omega
      have hd2' : (s[k].toNat : Int) ≤ 57 := by omega
      clear hd1 hd2
      go_wp2
      go_round
      case rel => exact ⟨k + 1, by omega, by go_num, by rw [HE.out]⟩
      case measure => simp [intOf]; omega
    · obtain rfl : k = s.size := by omega
      rw [List.take_of_length_le (by simp), HV.out]
      go_wp2
      go_ret2
      exact ⟨rfl, rfl⟩

/-! ### zzHasSlash, zzLifecycle -/
theorem byte_eq47 {b : UInt8} (h : (b.toNat : Int) = 47) : b = 47 := by
  apply UInt8.toNat_inj.1
  show b.toNat = 47
  omega
set_option maxHeartbeats 400000 in
theorem slash_any (s : ByteArray) (w : World) (hs : s.size ≤ 262144) :
    Calls Tryd.prog 7 #[.string s] w fun e w' => e = .returned (.bool (s.data.toList.any fun b => b == 47)) ∧ w' = w := by
  obtain ⟨R, hR⟩ : ∃ R, (s.data.toList.any fun b => b == 47) = R := ⟨_, rfl⟩
  rw [hR]
  have HR := hide hR
  clear hR
  go_enter Tryd.func7, Tryd.ntmps7
  go_wp2
  go_loop [3] (fun i => ∃ k : Nat, k ≤ s.size ∧ i = .int .i64 k ∧ ((s.data.toList.take k).any fun b => b == 47) = false) (fun i => s.size - (intOf i).toNat)
  case atStart => exact ⟨0, Nat.zero_le _, rfl, rfl⟩
  case round =>
    obtain ⟨k, hk, rfl, hno⟩ := hrel
    have HN := hide hno
    clear hno
    by_cases hlt : k < s.size
    · have hk' : k < s.data.toList.length := by simpa using hlt
      by_cases hc : ((s[k].toNat : Int) == 47) = true
      · have hc' : s[k] = 47 := byte_eq47 (by simpa using hc)
        have hRt : R = true := by
          rw [← HR.out, List.any_eq_true]
          exact ⟨s[k], by rw [← str_at s k hlt]; exact List.getElem_mem hk', by rw [hc']; rfl⟩
        subst hRt
        clear hc'
        go_wp2
        go_ret
        exact ⟨rfl, rfl⟩
      · have hc1 : ((s[k].toNat : Int) == 47) = false := by simpa using hc
        have hc2 : (s[k] == 47) = false := by
          rw [beq_eq_false_iff_ne]
          intro h
          rw [h] at hc
          exact hc rfl
        have HK : Hid (((s.data.toList.take (k + 1)).any fun b => b == 47) = false) := by
          show _ = _
          rw [List.take_succ_eq_append_getElem hk', List.any_append, HN.out, str_at s k hlt]
          simp [hc2]
        clear hc hc2
        go_wp2
        go_round
        case rel => exact ⟨k + 1, by omega, by go_num, HK.out⟩
        case measure => simp [intOf]; omega
    · obtain rfl : k = s.size := by omega
      have hRf : R = false := by
        rw [← HR.out]
        have := HN.out
        rwa [List.take_of_length_le (by simp)] at this
      subst hRf
      go_wp2
      go_ret
      exact ⟨rfl, rfl⟩

theorem life_any (r : Int) (w : World) : Calls Tryd.prog 8 #[.int .i64 r] w fun e w' => e = .returned (.int .i64 (if r < 0 then 0 else r)) ∧ w' = w := by
  by_cases h : r < 0
  · rw [if_pos h]
    go_enter Tryd.func8, Tryd.ntmps8
    go_wp2
    go_ret
    exact ⟨rfl, rfl⟩
  · rw [if_neg h]
    go_enter Tryd.func8, Tryd.ntmps8
    go_wp2
    go_ret
    exact ⟨rfl, rfl⟩
end Go.Proofs.Qxb6627545aDoor
