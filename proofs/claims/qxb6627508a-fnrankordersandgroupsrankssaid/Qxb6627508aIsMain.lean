import Derived.Test.Qxb6627508aIs
namespace Go.Proofs.Qxb6627508a
open Go.RowKit

/-- What the walk is told of the bound on the number of buckets, in its own forms. -/
def Lim (f n : Nat) : Prop := (((f : Int) ≤ 16) ∧ ∃ K : Nat, wrap64 ((64 - (f : Int)) * (2 : Int) ^ f) = (K : Int) ∧ ¬ (K : Int) < n) ∨ ¬ ((f : Int) ≤ 16)
theorem lim_of {f n : Nat} (h : f ≤ 16 → n ≤ (64 - f) * 2 ^ f) : Lim f n := by
  by_cases hf : f ≤ 16
  · refine .inl ⟨by omega, (64 - f) * 2 ^ f, ?_, ?_⟩
    · refine wrap_i ?_ (Nat.lt_of_le_of_lt (lim_small hf) (by decide))
      rw [Int.natCast_mul, Int.natCast_sub (by omega)]
      simp
    · have := h hf
      generalize (64 - f) * 2 ^ f = K at *
      omega
  · exact .inr (by omega)

theorem pre_start (C : Nat → Nat) : Hid (pre C 0 < 2 ^ 64) := by
  show 0 < 2 ^ 64
  decide
theorem wrap_pre1 (C : Nat → Nat) {k : Nat} (h : pre C (k + 1) < 2 ^ 64) : IntKind.u64.wrap ((pre C k : Int) + (C k : Int)) = (pre C (k + 1) : Nat) := wrap_u (by simp [pre]) h
theorem fits63 {f n i : Nat} (hn : n ≤ 131072) (hf : f ≤ 30) (hl : f ≤ 16 → n ≤ (64 - f) * 2 ^ f) (hi : i < n) : low f i + wid f i ≤ 2 ^ 63 := by
  refine high_lt ?_ (by omega)
  by_cases h : f ≤ 16
  · exact Nat.lt_of_lt_of_le hi (hl h)
  · have h1 : 131072 ≤ 2 ^ f := Nat.pow_le_pow_right (n := 2) (i := 17) (by decide) (by omega)
    have h2 : 1 * 2 ^ f ≤ (64 - f) * 2 ^ f := Nat.mul_le_mul_right _ (by omega)
    rw [Nat.one_mul] at h2
    exact Nat.lt_of_lt_of_le hi (Nat.le_trans hn (Nat.le_trans h1 h2))

/-- That the Go text's rankBucketOf, at d, answers j. -/
def Bucket (f : Nat) (d j : Int) : Prop := ∀ w : World, Calls Try.prog 9 #[.int .u64 d, .int .i64 f] w fun e w' => e = .returned (.int .i64 j) ∧ w' = w
theorem Bucket.of {f i d : Nat} (hf : f ≤ 30) (hd : InB f i d) (h : d < 2 ^ 63) : Bucket f d i := fun w => bucket_any f i d w hf hd h

/-- All that the law asks of a bucket's two ends. -/
theorem around (f i : Nat) (hf : f ≤ 30) (h63 : low f i + wid f i ≤ 2 ^ 63) : ∃ lo Y : Nat, low f i = lo ∧ low f i + wid f i - 1 = Y ∧ lo ≤ Y ∧ Y ≤ 9223372036854775807 ∧ Bucket f lo i ∧ Bucket f Y i ∧
    (((0 : Int) < lo ∧ ∃ L J : Nat, (lo : Int) - 1 = L ∧ (i : Int) - 1 = J ∧ Bucket f L J) ∨ ¬ (0 : Int) < lo) ∧ (((Y : Int) < 9223372036854775807 ∧ Bucket f ((Y : Int) + 1) ((i : Int) + 1)) ∨ ¬ (Y : Int) < 9223372036854775807) := by
  have hp := wid_pos f i
  refine ⟨low f i, low f i + wid f i - 1, rfl, rfl, by omega, by omega, .of hf (inB_low f i) (by omega), .of hf (inB_high f i) (by omega), ?_, ?_⟩
  · by_cases h0 : low f i = 0
    · exact .inr (by omega)
    · have hi : i ≠ 0 := by
        rintro rfl
        exact h0 (low_zero (Nat.zero_div _))
      obtain ⟨J, rfl⟩ : ∃ J, i = J + 1 := ⟨i - 1, by omega⟩
      have hs := low_succ f J
      refine .inl ⟨by omega, low f (J + 1) - 1, J, by omega, by omega, .of hf ?_ (by omega)⟩
      rw [hs]
      exact inB_high f J
  · by_cases hY : low f i + wid f i - 1 = 9223372036854775807
    · exact .inr (by omega)
    · refine .inl ⟨by omega, ?_⟩
      have hb := inB_low f (i + 1)
      rw [low_succ] at hb
      have := Bucket.of hf hb (by omega)
      rw [show ((low f i + wid f i - 1 : Nat) : Int) + 1 = ((low f i + wid f i : Nat) : Int) by omega]
      exact this

theorem hide {p : Prop} (h : p) : Hid p := h
set_option maxRecDepth 100000 in
set_option maxHeartbeats 1000000 in
theorem is_main (f : Nat) (a1 a3 : Int) (a2 : Option Addr) (n c : Nat) (C : Nat → Nat) (w : World) (hn : n ≤ 131072) (hf : f ≤ 30) (hlim : f ≤ 16 → n ≤ (64 - f) * 2 ^ f)
    (hrow : Came w a2 n C) (hC : ∀ k, k < n → C k < 2 ^ 64) :
    Calls Try.prog 3 #[.int .i64 f, .int .u64 a1, .slice a2 n c, .int .u64 a3] w fun e w' => e = .returned (.bool true) ∧ Below w.heap.size w w' := by
  have HL : Hid (f ≤ 16 → n ≤ (64 - f) * 2 ^ f) := hlim
  have HC : Hid (∀ k, k < n → C k < 2 ^ 64) := hC
  have hl := lim_of hlim
  clear hlim hC
  have hn' : (n : Int) ≤ 131072 := by omega
  have hf' : (f : Int) ≤ 30 := by omega
  go_enter Try.func3, Try.ntmps3
  rcases hl with ⟨hf16, K, e1, hKn⟩ | hf16
  all_goals
    go_wp2
    go_loop [9, 10] (fun v i => ∃ k : Nat, k ≤ n ∧ i = .int .i64 k ∧ v = .int .u64 (pre C k : Nat) ∧ Hid (pre C k < 2 ^ 64)) (fun _ i => n - (intOf i).toNat)
    case atStart => exact ⟨0, Nat.zero_le _, rfl, rfl, pre_start C⟩
    case round =>
      obtain ⟨k, hk, rfl, rfl, HP⟩ := hrel
      by_cases hlt : k < n
      · obtain ⟨b, off, rfl, hr⟩ := hrow.head hlt
        have hc := hr k hlt
        have hlt' : (k : Int) < n := by omega
        by_cases hov : pre C (k + 1) < 2 ^ 64
        · have hw := wrap_pre1 C hov
          have HO : Hid (pre C (k + 1) < 2 ^ 64) := hov
          obtain ⟨X, hX⟩ : ∃ X, pre C (k + 1) = X := ⟨_, rfl⟩
          have hXk : ¬ (X : Int) < (pre C k : Nat) := by rw [← hX]; simp only [pre]; omega
          rw [hX] at hw
          have HX : Hid (pre C (k + 1) = X) := hX
          clear hX hr hov hrow
          go_wp2
          go_round
          case rel => exact ⟨k + 1, by omega, by go_num, by rw [HX.out], HO⟩
          case measure => simp [intOf]; omega
        · obtain ⟨X, hw, hX⟩ := wrap_over C HP.out (HC.out k hlt) hov
          have hXk : (X : Int) < (pre C k : Nat) := by clear hw hov; omega
          clear hr hov hrow hX
          go_wp2
          go_ret
          exact ⟨rfl, Below.refl _ _⟩
      · obtain rfl : k = n := by omega
        by_cases ht : a1 = (pre C k : Nat)
        rotate_left
        · have ht' : (a1 != (pre C k : Nat)) = true := by simpa using ht
          go_wp2
          go_ret
          exact ⟨rfl, Below.refl _ _⟩
        have ht' : (a1 != (pre C k : Nat)) = false := by simpa using ht
        have HT : Hid (a1 = (pre C k : Nat)) := ht
        clear ht
        by_cases hr1 : a3 < 1
        · go_wp2
          go_ret
          exact ⟨rfl, Below.refl _ _⟩
        by_cases hr2 : a1 < a3
        · go_wp2
          go_ret
          exact ⟨rfl, Below.refl _ _⟩
        obtain ⟨r, rfl⟩ : ∃ r : Nat, a3 = r := ⟨a3.toNat, by omega⟩
        obtain ⟨i, hi, hi1, hi2⟩ := pre_find C k r (by omega) (by have := HT.out; omega)
        obtain ⟨b, off, rfl, hr⟩ := hrow.head hi
        have h63 := fits63 hn hf HL.out hi
        have HI1 : Hid (pre C i < r) := hi1
        have HI2 : Hid (r ≤ pre C (i + 1)) := hi2
        have H63 : Hid (low f i + wid f i ≤ 2 ^ 63) := h63
        clear hi1 hi2 h63
        go_wp2_with fail
        refine (clone_any b off k c C _ hn (by omega) hr).mono ?_
        rintro e w1 ⟨rfl, hrc, hb1⟩
        go_wp2_with fail
        refine (newHist _ _ _ _ _ _).mono ?_
        rintro e w2 ⟨rfl, hw2⟩
        have p0 : w2.cell? ⟨w1.heap.size, 0, none⟩ = some (.int .i64 f) := by rw [hw2]; simp
        have p2 : w2.cell? ⟨w1.heap.size, 2, none⟩ = some (.slice (some ⟨w.heap.size, 0, none⟩) k k) := by rw [hw2]; simp
        have hb2 : Below w1.heap.size w1 w2 := by rw [hw2]; exact (Below.refl _ _).alloc (Nat.le_refl _) _
        replace hrc := hrc.later hb2
        have hb12 : Below w.heap.size w w2 := hb1.trans (hb2.mono hb1.size)
        clear hw2 hb1 hb2 hr hrow
        go_wp2_with fail
        refine (rank_any w1.heap.size f w.heap.size 0 k k i r C _ hn hf hi HI1.out HI2.out H63.out p0 p2 hrc HP.out).mono ?_
        rintro e w3 ⟨rfl, hb3⟩
        replace hrc := hrc.later hb3
        have hb13 : Below w.heap.size w w3 := hb12.trans (hb3.mono hb12.size)
        clear p0 p2 hb12 hb3
        obtain ⟨lo, Y, hlo, hY, hloY, hYb, HB1, HB2, hdn, hup⟩ := around f i hf H63.out
        rw [hY, hlo]
        clear hlo hY H63
        have hik : (i : Int) < k := by omega
        have hci := hrc i hi
        simp only [Nat.zero_add] at hci
        have HF : Hid (∀ wz, RowU wz w.heap.size 0 k C → Calls Try.prog 10 #[.slice (some ⟨w.heap.size, 0, none⟩) k k, .int .i64 i] wz fun e w' => e = .returned (.int .u64 (pre C i : Nat)) ∧ w' = wz) := fun wz h => prefix_any w.heap.size 0 k k i C wz hn (Nat.le_of_lt hi) h HP.out
        have hw := wrap_pre C hi HP.out
        obtain ⟨X, hX⟩ : ∃ X, pre C (i + 1) = X := ⟨_, rfl⟩
        obtain ⟨Z, hZ⟩ : ∃ Z, pre C i = Z := ⟨_, rfl⟩
        have hrX : (r : Int) ≤ X := by have := HI2.out; rw [hX] at this; clear hw; omega
        have hrZ : (Z : Int) < r := by have := HI1.out; rw [hZ] at this; clear hw; omega
        rw [hX, hZ] at hw
        rw [hZ] at HF
        clear hX hZ HI1 HI2 HP HT
        go_wp2_with fail
        refine (HB1 _).mono ?_
        rintro e w5 ⟨rfl, rfl⟩
        go_wp2_with fail
        refine (HB2 _).mono ?_
        rintro e w5 ⟨rfl, rfl⟩
        clear HB1 HB2
        have HU : Hid (((Y : Int) < 9223372036854775807 ∧ Bucket f ((Y : Int) + 1) ((i : Int) + 1)) ∨ Y = 9223372036854775807) := by
          rcases hup with h | h
          · exact .inl h
          · exact .inr (by clear hw; omega)
        clear hup
        rcases hdn with ⟨hlo, L, J, eL, eJ, HB3⟩ | hlo
        · go_wp2_with fail
          refine (HB3 _).mono ?_
          rintro e w5 ⟨rfl, rfl⟩
          clear eL HB3 hlo hloY
          rcases HU.out with ⟨hYlt, HB4⟩ | hY
          · clear HU hYb
            go_wp2_with fail
            refine (HB4 _).mono ?_
            rintro e w5 ⟨rfl, rfl⟩
            clear hYlt HB4
            go_wp2_with fail
            refine (HF.out _ hrc).mono ?_
            rintro e w5 ⟨rfl, rfl⟩
            go_wp2
            go_ret
            exact ⟨rfl, hb13⟩
          · clear HU hYb
            subst hY
            go_wp2_with fail
            refine (HF.out _ hrc).mono ?_
            rintro e w5 ⟨rfl, rfl⟩
            go_wp2
            go_ret
            exact ⟨rfl, hb13⟩
        · obtain rfl : lo = 0 := by clear hw; omega
          clear hlo hloY
          rcases HU.out with ⟨hYlt, HB4⟩ | hY
          · clear HU hYb
            go_wp2_with fail
            refine (HB4 _).mono ?_
            rintro e w5 ⟨rfl, rfl⟩
            clear hYlt HB4
            go_wp2_with fail
            refine (HF.out _ hrc).mono ?_
            rintro e w5 ⟨rfl, rfl⟩
            go_wp2
            go_ret
            exact ⟨rfl, hb13⟩
          · clear HU hYb
            subst hY
            go_wp2_with fail
            refine (HF.out _ hrc).mono ?_
            rintro e w5 ⟨rfl, rfl⟩
            go_wp2
            go_ret
            exact ⟨rfl, hb13⟩
end Go.Proofs.Qxb6627508a
