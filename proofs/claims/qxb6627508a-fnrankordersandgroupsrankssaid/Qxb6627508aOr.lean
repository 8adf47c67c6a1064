import Derived.Test.Qxb6627508aIsMain
namespace Go.Proofs.Qxb6627508a
open Go.RowKit

set_option maxRecDepth 100000 in
set_option maxHeartbeats 400000 in
theorem or_out (a0 a1 a3 a4 : Int) (a2 : Option Addr) (n c : Nat) (w : World) (h : ¬ (n ≤ 131072 ∧ 0 ≤ a0 ∧ a0 ≤ 30)) :
    Calls Try.prog 4 #[.int .i64 a0, .int .u64 a1, .slice a2 n c, .int .u64 a3, .int .u64 a4] w fun e w' => e = .returned (.bool true) ∧ Below w.heap.size w w' := by
  by_cases hn : n ≤ 131072
  · have hn' : (n : Int) ≤ 131072 := by omega
    by_cases h0 : a0 < 0
    · go_enter Try.func4, Try.ntmps4
      go_wp2
      go_ret
      exact ⟨rfl, Below.refl _ _⟩
    · have h1 : 30 < a0 := by omega
      go_enter Try.func4, Try.ntmps4
      go_wp2
      go_ret
      exact ⟨rfl, Below.refl _ _⟩
  · have hn' : (131072 : Int) < n := by omega
    by_cases hn2 : (n : Int) ≤ 1048576
    · go_enter Try.func4, Try.ntmps4
      go_wp2
      go_ret
      exact ⟨rfl, Below.refl _ _⟩
    · go_enter Try.func4, Try.ntmps4
      go_wp2
      go_ret
      exact ⟨rfl, Below.refl _ _⟩

set_option maxRecDepth 100000 in
set_option maxHeartbeats 400000 in
theorem or_lim (f : Nat) (a1 a3 a4 : Int) (a2 : Option Addr) (n c : Nat) (w : World) (hn : n ≤ 131072) (hf : f ≤ 16) (h : (64 - f) * 2 ^ f < n) :
    Calls Try.prog 4 #[.int .i64 f, .int .u64 a1, .slice a2 n c, .int .u64 a3, .int .u64 a4] w fun e w' => e = .returned (.bool true) ∧ Below w.heap.size w w' := by
  have hl := lim_small hf
  obtain ⟨K, hK⟩ : ∃ K, (64 - f) * 2 ^ f = K := ⟨_, rfl⟩
  have e1 : wrap64 ((64 - (f : Int)) * (2 : Int) ^ f) = (K : Int) := by
    refine wrap_i ?_ (by rw [← hK]; exact Nat.lt_of_le_of_lt hl (by decide))
    rw [← hK, Int.natCast_mul, Int.natCast_sub (by omega)]
    simp
  rw [hK] at h hl
  clear hK
  have hn' : (n : Int) ≤ 131072 := by clear e1; omega
  have hf' : (f : Int) ≤ 16 := by clear e1; omega
  have hKn : (K : Int) < n := by clear e1; omega
  go_enter Try.func4, Try.ntmps4
  go_wp2
  go_ret
  exact ⟨rfl, Below.refl _ _⟩

/-- A bucket's two ends, and that the Go text finds the bucket of the lower. -/
theorem around1 (f i : Nat) (hf : f ≤ 30) (h63 : low f i + wid f i ≤ 2 ^ 63) : ∃ lo Y : Nat, low f i = lo ∧ low f i + wid f i - 1 = Y ∧ lo ≤ Y ∧ Y ≤ 9223372036854775807 ∧ Bucket f lo i := by
  obtain ⟨lo, Y, h1, h2, h3, h4, h5, _⟩ := around f i hf h63
  exact ⟨lo, Y, h1, h2, h3, h4, h5⟩

set_option maxRecDepth 100000 in
set_option maxHeartbeats 4000000 in
theorem or_main (f : Nat) (a1 a3 a4 : Int) (a2 : Option Addr) (n c : Nat) (C : Nat → Nat) (w : World) (hn : n ≤ 131072) (hf : f ≤ 30) (hlim : f ≤ 16 → n ≤ (64 - f) * 2 ^ f)
    (hrow : Came w a2 n C) (hC : ∀ k, k < n → C k < 2 ^ 64) :
    Calls Try.prog 4 #[.int .i64 f, .int .u64 a1, .slice a2 n c, .int .u64 a3, .int .u64 a4] w fun e w' => e = .returned (.bool true) ∧ Below w.heap.size w w' := by
  have HL : Hid (f ≤ 16 → n ≤ (64 - f) * 2 ^ f) := hlim
  have HC : Hid (∀ k, k < n → C k < 2 ^ 64) := hC
  have hl := lim_of hlim
  clear hlim hC
  have hn' : (n : Int) ≤ 131072 := by omega
  have hf' : (f : Int) ≤ 30 := by omega
  go_enter Try.func4, Try.ntmps4
  rcases hl with ⟨hf16, K, e1, hKn⟩ | hf16
  all_goals
    go_wp2
    go_loop [11, 12] (fun v i => ∃ k : Nat, k ≤ n ∧ i = .int .i64 k ∧ v = .int .u64 (pre C k : Nat) ∧ Hid (pre C k < 2 ^ 64)) (fun _ i => n - (intOf i).toNat)
    case atStart => exact ⟨0, Nat.zero_le _, rfl, rfl, pre_start C⟩
    case round =>
      obtain ⟨k, hk, rfl, rfl, HP⟩ := hrel
      by_cases hlt : k < n
      · obtain ⟨b, off, rfl, hr⟩ := hrow.head hlt
        have hc := hr k hlt
        have hlt' : (k : Int) < n := by omega
        by_cases hov : pre C (k + 1) < 2 ^ 64
        · have hw := wrap_pre1 C hov
          have HO : Hid (pre C (k + 1) < 2 ^ 64) := hov
          obtain ⟨X, hX⟩ : ∃ X, pre C (k + 1) = X := ⟨_, rfl⟩
          have hXk : ¬ (X : Int) < (pre C k : Nat) := by rw [← hX]; simp only [pre]; omega
          rw [hX] at hw
          have HX : Hid (pre C (k + 1) = X) := hX
          clear hX hr hov hrow
          go_wp2
          go_round
          case rel => exact ⟨k + 1, by omega, by go_num, by rw [HX.out], HO⟩
          case measure => simp [intOf]; omega
        · obtain ⟨X, hw, hX⟩ := wrap_over C HP.out (HC.out k hlt) hov
          have hXk : (X : Int) < (pre C k : Nat) := by clear hw hov; omega
          clear hr hov hrow hX
          go_wp2
          go_ret
          exact ⟨rfl, Below.refl _ _⟩
      · obtain rfl : k = n := by omega
        by_cases ht : a1 = (pre C k : Nat)
        rotate_left
        · have ht' : (a1 != (pre C k : Nat)) = true := by simpa using ht
          go_wp2
          go_ret
          exact ⟨rfl, Below.refl _ _⟩
        have ht' : (a1 != (pre C k : Nat)) = false := by simpa using ht
        have HT : Hid (a1 = (pre C k : Nat)) := ht
        clear ht
        by_cases hr1 : a3 < 1
        · go_wp2
          go_ret
          exact ⟨rfl, Below.refl _ _⟩
        by_cases hr2 : a1 < a3
        · go_wp2
          go_ret
          exact ⟨rfl, Below.refl _ _⟩
        by_cases hr3 : a4 < 1
        · go_wp2
          go_ret
          exact ⟨rfl, Below.refl _ _⟩
        by_cases hr4 : a1 < a4
        · go_wp2
          go_ret
          exact ⟨rfl, Below.refl _ _⟩
        obtain ⟨r, rfl⟩ : ∃ r : Nat, a3 = r := ⟨a3.toNat, by omega⟩
        obtain ⟨r', rfl⟩ : ∃ r : Nat, a4 = r := ⟨a4.toNat, by omega⟩
        by_cases hsw : (r' : Int) < r
        · obtain ⟨i, hi, hi1, hi2⟩ := pre_find C k r' (by omega) (by have := HT.out; omega)
          obtain ⟨b, off, rfl, hr⟩ := hrow.head hi
          have H63 := hide (fits63 hn hf HL.out hi)
          have HI1 := hide hi1
          have HI2 := hide hi2
          clear hi1 hi2
          go_wp2_with fail
          refine (clone_any b off k c C _ hn (by omega) hr).mono ?_
          rintro e w1 ⟨rfl, hrc, hb1⟩
          go_wp2_with fail
          refine (newHist _ _ _ _ _ _).mono ?_
          rintro e w2 ⟨rfl, hw2⟩
          have p0 : w2.cell? ⟨w1.heap.size, 0, none⟩ = some (.int .i64 f) := by rw [hw2]; simp
          have p2 : w2.cell? ⟨w1.heap.size, 2, none⟩ = some (.slice (some ⟨w.heap.size, 0, none⟩) k k) := by rw [hw2]; simp
          have hb2 : Below w1.heap.size w1 w2 := by rw [hw2]; exact (Below.refl _ _).alloc (Nat.le_refl _) _
          replace hrc := hrc.later hb2
          have hb12 : Below w.heap.size w w2 := hb1.trans (hb2.mono hb1.size)
          clear hw2 hb1 hb2 hr hrow
          go_wp2_with fail
          refine (rank_any w1.heap.size f w.heap.size 0 k k i r' C _ hn hf hi HI1.out HI2.out H63.out p0 p2 hrc HP.out).mono ?_
          rintro e w3 ⟨rfl, hb3⟩
          replace hrc := hrc.later hb3
          replace p0 := cell_later hb3 p0
          replace p2 := cell_later hb3 p2
          have hb13 : Below w.heap.size w w3 := hb12.trans (hb3.mono hb12.size)
          clear hb12 hb3
          have HF : Hid (∀ wz, RowU wz w.heap.size 0 k C → Calls Try.prog 10 #[.slice (some ⟨w.heap.size, 0, none⟩) k k, .int .i64 ((i : Int) + 1)] wz fun e w' => e = .returned (.int .u64 (pre C (i + 1) : Nat)) ∧ w' = wz) := fun wz h => prefix_any w.heap.size 0 k k (i + 1) C wz hn hi h HP.out
          have hik : (i : Int) < k := by omega
          by_cases hA : r ≤ pre C (i + 1)
          · have HR := hide (rank_any w1.heap.size f w.heap.size 0 k k i r C w3 hn hf hi (by have := HI1.out; omega) hA H63.out p0 p2 hrc HP.out)
            obtain ⟨lo, Y, hlo, hY, hloY, hYb, HB1⟩ := around1 f i hf H63.out
            rw [hY, hlo] at HR
            rw [hY, hlo]
            obtain ⟨X, hX⟩ : ∃ X, pre C (i + 1) = X := ⟨_, rfl⟩
            rw [hX] at HF hA
            have hA' : (r : Int) ≤ X := by omega
            clear hlo hY H63 p0 p2 HI1 HI2 HP HT hA hX
            go_wp2_with fail
            refine HR.out.mono ?_
            rintro e w4 ⟨rfl, hb4⟩
            replace hrc := hrc.later hb4
            have hb14 : Below w.heap.size w w4 := hb13.trans (hb4.mono hb13.size)
            clear hb13 hb4 HR
            go_wp2_with fail
            refine (HB1 _).mono ?_
            rintro e w5 ⟨rfl, rfl⟩
            clear HB1 hYb hloY
            go_wp2_with fail
            refine (HF.out _ hrc).mono ?_
            rintro e w5 ⟨rfl, rfl⟩
            go_wp2
            go_ret
            exact ⟨rfl, hb14⟩
          · obtain ⟨j, hj, hj1, hj2⟩ := pre_find C k r (by omega) (by have := HT.out; omega)
            have hij : i < j := by
              have h : pre C (i + 1) < pre C (j + 1) := by omega
              have := pre_lt_iff h
              omega
            have h63j := fits63 hn hf HL.out hj
            have HR := hide (rank_any w1.heap.size f w.heap.size 0 k k j r C w3 hn hf hj hj1 hj2 h63j p0 p2 hrc HP.out)
            have hmono := low_mono f hij
            have hwp := wid_pos f i
            obtain ⟨lo, Y, hlo, hY, hloY, hYb, HB1⟩ := around1 f i hf H63.out
            obtain ⟨lo2, Y2, hlo2, hY2, hloY2, hYb2, _⟩ := around1 f j hf h63j
            have hYlo : (Y : Int) < lo2 := by rw [← hY, ← hlo2]; clear h63j; omega
            rw [hY2, hlo2] at HR
            rw [hY, hlo]
            obtain ⟨X, hX⟩ : ∃ X, pre C (i + 1) = X := ⟨_, rfl⟩
            rw [hX] at HF hA
            have hA' : ¬ (r : Int) ≤ X := by clear h63j; omega
            clear hlo hY H63 p0 p2 HI1 HI2 HP HT hA hX hj1 hj2 hij h63j hmono hwp hlo2 hY2
            go_wp2_with fail
            refine HR.out.mono ?_
            rintro e w4 ⟨rfl, hb4⟩
            replace hrc := hrc.later hb4
            have hb14 : Below w.heap.size w w4 := hb13.trans (hb4.mono hb13.size)
            clear hb13 hb4 HR
            go_wp2_with fail
            refine (HB1 _).mono ?_
            rintro e w5 ⟨rfl, rfl⟩
            clear HB1 hYb hloY hYb2 hloY2
            go_wp2_with fail
            refine (HF.out _ hrc).mono ?_
            rintro e w5 ⟨rfl, rfl⟩
            go_wp2
            go_ret
            exact ⟨rfl, hb14⟩
        · obtain ⟨i, hi, hi1, hi2⟩ := pre_find C k r (by omega) (by have := HT.out; omega)
          obtain ⟨b, off, rfl, hr⟩ := hrow.head hi
          have H63 := hide (fits63 hn hf HL.out hi)
          have HI1 := hide hi1
          have HI2 := hide hi2
          clear hi1 hi2
          go_wp2_with fail
          refine (clone_any b off k c C _ hn (by omega) hr).mono ?_
          rintro e w1 ⟨rfl, hrc, hb1⟩
          go_wp2_with fail
          refine (newHist _ _ _ _ _ _).mono ?_
          rintro e w2 ⟨rfl, hw2⟩
          have p0 : w2.cell? ⟨w1.heap.size, 0, none⟩ = some (.int .i64 f) := by rw [hw2]; simp
          have p2 : w2.cell? ⟨w1.heap.size, 2, none⟩ = some (.slice (some ⟨w.heap.size, 0, none⟩) k k) := by rw [hw2]; simp
          have hb2 : Below w1.heap.size w1 w2 := by rw [hw2]; exact (Below.refl _ _).alloc (Nat.le_refl _) _
          replace hrc := hrc.later hb2
          have hb12 : Below w.heap.size w w2 := hb1.trans (hb2.mono hb1.size)
          clear hw2 hb1 hb2 hr hrow
          go_wp2_with fail
          refine (rank_any w1.heap.size f w.heap.size 0 k k i r C _ hn hf hi HI1.out HI2.out H63.out p0 p2 hrc HP.out).mono ?_
          rintro e w3 ⟨rfl, hb3⟩
          replace hrc := hrc.later hb3
          replace p0 := cell_later hb3 p0
          replace p2 := cell_later hb3 p2
          have hb13 : Below w.heap.size w w3 := hb12.trans (hb3.mono hb12.size)
          clear hb12 hb3
          have HF : Hid (∀ wz, RowU wz w.heap.size 0 k C → Calls Try.prog 10 #[.slice (some ⟨w.heap.size, 0, none⟩) k k, .int .i64 ((i : Int) + 1)] wz fun e w' => e = .returned (.int .u64 (pre C (i + 1) : Nat)) ∧ w' = wz) := fun wz h => prefix_any w.heap.size 0 k k (i + 1) C wz hn hi h HP.out
          have hik : (i : Int) < k := by omega
          by_cases hA : r' ≤ pre C (i + 1)
          · have HR := hide (rank_any w1.heap.size f w.heap.size 0 k k i r' C w3 hn hf hi (by have := HI1.out; omega) hA H63.out p0 p2 hrc HP.out)
            obtain ⟨lo, Y, hlo, hY, hloY, hYb, HB1⟩ := around1 f i hf H63.out
            rw [hY, hlo] at HR
            rw [hY, hlo]
            obtain ⟨X, hX⟩ : ∃ X, pre C (i + 1) = X := ⟨_, rfl⟩
            rw [hX] at HF hA
            have hA' : (r' : Int) ≤ X := by omega
            clear hlo hY H63 p0 p2 HI1 HI2 HP HT hA hX
            go_wp2_with fail
            refine HR.out.mono ?_
            rintro e w4 ⟨rfl, hb4⟩
            replace hrc := hrc.later hb4
            have hb14 : Below w.heap.size w w4 := hb13.trans (hb4.mono hb13.size)
            clear hb13 hb4 HR
            go_wp2_with fail
            refine (HB1 _).mono ?_
            rintro e w5 ⟨rfl, rfl⟩
            clear HB1 hYb hloY
            go_wp2_with fail
            refine (HF.out _ hrc).mono ?_
            rintro e w5 ⟨rfl, rfl⟩
            go_wp2
            go_ret
            exact ⟨rfl, hb14⟩
          · obtain ⟨j, hj, hj1, hj2⟩ := pre_find C k r' (by omega) (by have := HT.out; omega)
            have hij : i < j := by
              have h : pre C (i + 1) < pre C (j + 1) := by omega
              have := pre_lt_iff h
              omega
            have h63j := fits63 hn hf HL.out hj
            have HR := hide (rank_any w1.heap.size f w.heap.size 0 k k j r' C w3 hn hf hj hj1 hj2 h63j p0 p2 hrc HP.out)
            have hmono := low_mono f hij
            have hwp := wid_pos f i
            obtain ⟨lo, Y, hlo, hY, hloY, hYb, HB1⟩ := around1 f i hf H63.out
            obtain ⟨lo2, Y2, hlo2, hY2, hloY2, hYb2, _⟩ := around1 f j hf h63j
            have hYlo : (Y : Int) < lo2 := by rw [← hY, ← hlo2]; clear h63j; omega
            rw [hY2, hlo2] at HR
            rw [hY, hlo]
            obtain ⟨X, hX⟩ : ∃ X, pre C (i + 1) = X := ⟨_, rfl⟩
            rw [hX] at HF hA
            have hA' : ¬ (r' : Int) ≤ X := by clear h63j; omega
            clear hlo hY H63 p0 p2 HI1 HI2 HP HT hA hX hj1 hj2 hij h63j hmono hwp hlo2 hY2
            go_wp2_with fail
            refine HR.out.mono ?_
            rintro e w4 ⟨rfl, hb4⟩
            replace hrc := hrc.later hb4
            have hb14 : Below w.heap.size w w4 := hb13.trans (hb4.mono hb13.size)
            clear hb13 hb4 HR
            go_wp2_with fail
            refine (HB1 _).mono ?_
            rintro e w5 ⟨rfl, rfl⟩
            clear HB1 hYb hloY hYb2 hloY2
            go_wp2_with fail
            refine (HF.out _ hrc).mono ?_
            rintro e w5 ⟨rfl, rfl⟩
            go_wp2
            go_ret
            exact ⟨rfl, hb14⟩
end Go.Proofs.Qxb6627508a
