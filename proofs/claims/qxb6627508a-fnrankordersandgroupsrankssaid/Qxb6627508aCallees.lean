import Derived.Test.Qxb6627508aBits
import Derived.Laws.CopyOwn
namespace Go.Proofs.Qxb6627508a
open Go.RowKit

theorem Try.info22 : (Try.prog.info? 22).map (fun i => (i.zero, i.size, i.bytes)) = some (some (.int .u64 0), 1, 8) := by kernel_rfl
theorem Try.size22 : (Try.prog.info? 22).map (fun i => i.size) = some 1 := by kernel_rfl

def RowU (w : World) (b off n : Nat) (C : Nat → Nat) : Prop := ∀ k, k < n → w.cell? ⟨b, off + k, none⟩ = some (.int .u64 (C k : Nat))
theorem RowU.later {w w' : World} {b off n : Nat} {C : Nat → Nat} (h : RowU w b off n C) (hb : Below w.heap.size w w') : RowU w' b off n C := fun k hk => cell_later hb (h k hk)

def lits (C : Nat → Nat) (n : Nat) : List Value := (List.range n).map fun k => .int .u64 (C k : Nat)
theorem lits_length (C : Nat → Nat) (n : Nat) : (lits C n).length = n := by simp [lits]
theorem lits_at (C : Nat → Nat) {n j : Nat} (h : j < n) : (lits C n)[j]? = some (.int .u64 (C j : Nat)) := by simp [lits, h]

theorem row_cells {w : World} {base e g n : Nat} {xs : List Value} (h : w.ownsRow base e 1 (.slice (some ⟨g, 0, none⟩) n n) n xs) : ∃ cur : List Value, w.heap[g]? = some (.cells cur.toArray e (0, 0)) ∧ cur.length = n := by
  rcases h.2 with ⟨h', _⟩ | ⟨g', cap', cur, h', _, hg, _, _, hcs, _⟩
  · simp at h'
  · simp only [Value.slice.injEq, Option.some.injEq, Addr.mk.injEq, and_true, true_and] at h'
    obtain ⟨rfl, rfl⟩ := h'
    exact ⟨cur.toList, by simpa using hg, by simpa using hcs⟩

set_option maxHeartbeats 400000 in
theorem clone_any (b off n c : Nat) (C : Nat → Nat) (w : World) (hn : n ≤ 131072) (hn0 : 0 < n) (hr : RowU w b off n C) :
    Calls Try.prog 6 #[.slice (some ⟨b, off, none⟩) n c] w fun e w' => e = .returned (.slice (some ⟨w.heap.size, 0, none⟩) n n) ∧ RowU w' w.heap.size 0 n C ∧ Below w.heap.size w w' := by
  obtain ⟨i0, hi, hz0, hz1, hz2⟩ := info_parts Try.info22
  have q23 : ∀ (w : World) (a : Option Addr) (n c n' c' : Nat), (binOp .eql 23 (.slice a n c) (.slice none n' c')).run Try.prog w = .ok (.bool a.isNone) w := fun w a n c n' c' => Lib.run_eql_slice_nil w _ _ a n c n' c' Try.underlying23
  go_enter Try.func6, Try.ntmps6
  go_wp2_with (at_make; refine wpList_make_full _ rfl _ _ 23 rfl w.heap.size 22 i0 _ 1 Try.underlying23 hi hz0 hz1 _ _ _ _ n rfl rfl rfl rfl ?b2 ?b3 ?b4 ?_)
  case b2 => rw [hz2]; omega
  case b3 => unfold maxLen; omega
  case b4 => exact Nat.le_refl _
  intro w1 hown1 hgrow1
  have hb1 : Below w.heap.size w w1 := (Below.refl _ _).grown hgrow1 (Nat.le_refl _) (by simp)
  obtain ⟨cur, hcur, hlen⟩ := row_cells hown1
  have hr1 := hr.later hb1
  clear hown1 hgrow1 hz0 hz1 hz2 hi q23
  go_wp2_with (refine wpList_copy_splice rfl (.tmp 9) (.tmp 10) 23 23 rfl 22 Try.underlying23 Try.size22 _ _ n n n c rfl rfl w.heap.size 0 cur 22 hcur (lits C n) ?c1 ?c2 ?c3 ?c4 w.heap.size w hb1 (Nat.le_refl _) ?_)
  case c1 => simp [lits_length]
  case c2 =>
    intro _ j v hj
    have hjn : j < n := by have := (List.getElem?_eq_some_iff.1 hj).1; rwa [lits_length] at this
    rw [lits_at C hjn] at hj
    rw [← hj]
    exact hr1 j hjn
  case c3 => rw [lits_length, hlen]; omega
  case c4 =>
    intro v hv
    obtain ⟨k, _, rfl⟩ := List.mem_map.1 hv
    rfl
  intro w2 hg2 hb2
  have hrow : RowU w2 w.heap.size 0 n C := by
    intro k hk
    have e : splice cur 0 (lits C n) = lits C n := by
      unfold splice
      rw [List.take_zero, List.nil_append, lits_length, List.drop_of_length_le (by omega), List.append_nil]
    have := hg2.out
    rw [e] at this
    rw [cell_of_row w2 w.heap.size (0 + k) _ 22 (0, 0) this, Nat.zero_add]
    simpa using lits_at C hk
  clear hg2 hr1 hcur hb1
  go_wp2
  go_ret
  exact ⟨rfl, hrow, hb2⟩

set_option maxHeartbeats 400000 in
theorem newHist (f t : Int) (v : Option Addr) (n c : Nat) (w : World) :
    Calls Try.prog 7 #[.int .i64 f, .int .u64 t, .slice v n c] w fun e w' => e = .returned (.pointer (some ⟨w.heap.size, 0, none⟩)) ∧ w' = w.alloc (.cells #[.int .i64 f, .int .u64 t, .slice v n c] 36) := by
  go_enter Try.func7, Try.ntmps7
  go_wp2
  go_ret
  exact ⟨rfl, rfl⟩

/-- The one law on sums of uint64 that the walks want. -/
theorem wrap_pre (C : Nat → Nat) {k n : Nat} (hk : k < n) (hn : pre C n < 2 ^ 64) : IntKind.u64.wrap ((pre C k : Int) + (C k : Int)) = (pre C (k + 1) : Nat) := by
  refine wrap_u (by simp [pre]) ?_
  exact Nat.lt_of_le_of_lt (pre_mono C hk) hn

set_option maxHeartbeats 400000 in
theorem prefix_any (b off n c m : Nat) (C : Nat → Nat) (w : World) (hn : n ≤ 131072) (hm : m ≤ n) (hr : RowU w b off n C) (h64 : pre C n < 2 ^ 64) :
    Calls Try.prog 10 #[.slice (some ⟨b, off, none⟩) n c, .int .i64 m] w fun e w' => e = .returned (.int .u64 (pre C m : Nat)) ∧ w' = w := by
  have H64 : Hid (pre C n < 2 ^ 64) := h64
  clear h64
  go_enter Try.func10, Try.ntmps10
  go_wp2
  go_loop [5, 6] (fun v i => ∃ k : Nat, k ≤ m ∧ i = .int .i64 k ∧ v = .int .u64 (pre C k : Nat)) (fun _ i => m - (intOf i).toNat)
  case atStart => exact ⟨0, Nat.zero_le _, rfl, rfl⟩
  case round =>
    obtain ⟨k, hk, rfl, rfl⟩ := hrel
    by_cases hlt : k < m
    · have hc := hr k (by omega)
      have hlt1 : (k : Int) < m := by omega
      have hlt2 : (k : Int) < n := by omega
      have hw := wrap_pre C (show k < n by omega) H64.out
      obtain ⟨X, hX⟩ : ∃ X, pre C (k + 1) = X := ⟨_, rfl⟩
      rw [hX] at hw
      have HX : Hid (pre C (k + 1) = X) := hX
      clear hX hr
      go_wp2
      go_round
      case rel => exact ⟨k + 1, by omega, by go_num, by rw [HX.out]⟩
      case measure => simp [intOf]; omega
    · obtain rfl : k = m := by omega
      go_wp2
      go_ret
      exact ⟨rfl, rfl⟩

theorem ret_two {k l : IntKind} {a b c d : Int} (h1 : a = c) (h2 : b = d) : Ending.returned (.tuple #[.int k a, .int l b]) = .returned (.tuple #[.int k c, .int l d]) := by rw [h1, h2]

set_option maxHeartbeats 400000 in
theorem rank_any (p f b off n c i r : Nat) (C : Nat → Nat) (w : World) (hn : n ≤ 131072) (hf : f ≤ 30) (hi : i < n) (h1 : pre C i < r) (h2 : r ≤ pre C (i + 1)) (h63 : low f i + wid f i ≤ 2 ^ 63)
    (p0 : w.cell? ⟨p, 0, none⟩ = some (.int .i64 f)) (p2 : w.cell? ⟨p, 2, none⟩ = some (.slice (some ⟨b, off, none⟩) n c)) (hr : RowU w b off n C) (h64 : pre C n < 2 ^ 64) :
    Calls Try.prog 8 #[.pointer (some ⟨p, 0, none⟩), .int .u64 r] w fun e w' => e = .returned (.tuple #[.int .i64 (low f i : Nat), .int .i64 ((low f i + wid f i - 1 : Nat))]) ∧ Below w.heap.size w w' := by
  have H64 : Hid (pre C n < 2 ^ 64) := h64
  have H63 : Hid (low f i + wid f i ≤ 2 ^ 63) := h63
  have H1 : Hid (pre C i < r) := h1
  have H2 : Hid (r ≤ pre C (i + 1)) := h2
  clear h64 h63 h1 h2
  have HB : Hid (∀ w : World, Calls Try.prog 12 #[.int .i64 i, .int .i64 f] w fun e w' => e = .returned (.tuple #[.int .u64 (low f i), .int .u64 (wid f i)]) ∧ Below w.heap.size w w') := fun w => bounds_any f i w hf (by omega) H63.out
  have hp := wid_pos f i
  obtain ⟨lo, hlo⟩ : ∃ lo, low f i = lo := ⟨_, rfl⟩
  obtain ⟨wd, hwd⟩ : ∃ wd, wid f i = wd := ⟨_, rfl⟩
  rw [hlo, hwd] at H63 HB
  rw [hlo, hwd]
  rw [hwd] at hp
  obtain ⟨Y, hY⟩ : ∃ Y, lo + wd = Y + 1 := ⟨lo + wd - 1, by omega⟩
  have hYb : Y < 2 ^ 63 := by have h := H63.out; rw [hY] at h; exact h
  have hlb : lo < 2 ^ 63 := by have h := H63.out; omega
  have eY : lo + wd - 1 = Y := by clear H63 hYb hlb HB; omega
  rw [eY]
  have E6 : Hid (wrap64 (lo : Int) = lo) := wrap_i rfl hlb
  have E8 : Hid (IntKind.u64.wrap (Y : Int) = Y) := wrap_u rfl (Nat.lt_trans hYb (by decide))
  have E9 : Hid (wrap64 (Y : Int) = Y) := wrap_i rfl hYb
  have e7 : IntKind.u64.wrap ((lo : Int) + wd) = (Y : Int) + 1 := by
    have := wrap_u (x := (lo : Int) + wd) (n := Y + 1) (by clear H63 hYb hlb HB E6 E8 E9; omega) (Nat.lt_of_le_of_lt hYb (by decide))
    simpa using this
  clear H63 hlb hYb hp hlo hwd hY eY
  go_enter Try.func8, Try.ntmps8
  go_wp2
  go_loop [6, 16] (fun v j => ∃ k : Nat, k ≤ i ∧ j = .int .i64 k ∧ v = .int .u64 (pre C k : Nat)) (fun _ j => n - (intOf j).toNat)
  case atStart => exact ⟨0, Nat.zero_le _, rfl, rfl⟩
  case round =>
    obtain ⟨k, hk, rfl, rfl⟩ := hrel
    have hc := hr k (by omega)
    have hlt2 : (k : Int) < n := by omega
    have hw := wrap_pre C (show k < n by omega) H64.out
    obtain ⟨X, hX⟩ : ∃ X, pre C (k + 1) = X := ⟨_, rfl⟩
    rw [hX] at hw
    have HX : Hid (pre C (k + 1) = X) := hX
    clear hr
    by_cases hlt : k < i
    · have hXr : (X : Int) < r := by
        have h := H1.out
        have h' := pre_mono C (show k + 1 ≤ i by omega)
        omega
      clear hX
      go_wp2
      go_round
      case rel => exact ⟨k + 1, by omega, by go_num, by rw [HX.out]⟩
      case measure => simp [intOf]; omega
    · obtain rfl : k = i := by omega
      have hXr : (r : Int) ≤ X := by have h := H2.out; omega
      clear hX
      go_wp2_with fail
      refine (HB.out _).mono ?_
      rintro e w1 ⟨rfl, hb1⟩
      go_wp2
      go_ret2
      exact ⟨ret_two E6.out (by rw [E8.out, E9.out]), hb1⟩
end Go.Proofs.Qxb6627508a
