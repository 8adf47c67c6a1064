import Derived.Test.Qxb6627456aPlain
import Derived.Test.Qxb6627456aBytes
import Derived.Test.Qxb6627456aTooBig
namespace Go.Proofs.Qxb6627456a
open Go.RowKit

set_option maxRecDepth 100000 in
set_option maxHeartbeats 1000000 in
theorem insert_big (a : Option Addr) (n c : Nat) (S F M : Nat → ByteArray) (i : Int) (f0 f1 f2 t : ByteArray) (w : World) (hn : ¬ n ≤ 4096) (hr : Row3 w a n S F M) :
    Calls Try.prog 3 #[.slice a n c, .int .i64 i, .agg #[.string f0, .string f1, .string f2], .string t] w fun e w' => e = .returned (.bool true) ∧ Below w.heap.size w w' := by
  have hn' : (4096 : Int) < n := by omega
  have hr1 : Row3 (w.alloc (.cells #[.string f0, .string f1, .string f2] 24)) a n S F M := hr.later ((Below.refl _ _).alloc (Nat.le_refl _) _)
  go_enter Try.func3, Try.ntmps3
  go_wp2_with fail
  refine (bytes5 a n c S F M i f0 f1 f2 t _ hr1).mono ?_
  rintro e w1 ⟨⟨bb, rfl⟩, hb⟩
  have hb' : Below w.heap.size w w1 := ((Below.refl _ _).alloc (Nat.le_refl _) _).trans (hb.mono (by simp))
  clear hb hr1 hr
  cases bb
  · go_wp2
    go_ret
    exact ⟨rfl, hb'⟩
  · go_wp2
    go_ret
    exact ⟨rfl, hb'⟩

set_option maxRecDepth 100000 in
set_option maxHeartbeats 1000000 in
theorem insert_main (a : Option Addr) (n c : Nat) (S F M : Nat → ByteArray) (i : Int) (f0 f1 f2 t : ByteArray) (w : World) (hn : n ≤ 4096) (hnc : n ≤ c) (hcm : c ≤ maxLen) (hr : Row3 w a n S F M) :
    Calls Try.prog 3 #[.slice a n c, .int .i64 i, .agg #[.string f0, .string f1, .string f2], .string t] w fun e w' => e = .returned (.bool true) ∧ Below w.heap.size w w' := by
  have hn' : (n : Int) ≤ 4096 := by omega
  unfold maxLen at hcm
  have hr1 : Row3 (w.alloc (.cells #[.string f0, .string f1, .string f2] 24)) a n S F M := hr.later ((Below.refl _ _).alloc (Nat.le_refl _) _)
  obtain ⟨i0, hi, hz0, hz1, hz2⟩ := info_parts Try.info31
  go_enter Try.func3, Try.ntmps3
  go_wp2_with fail
  refine (bytes5 a n c S F M i f0 f1 f2 t _ hr1).mono ?_
  rintro e w1 ⟨⟨bb, rfl⟩, hb⟩
  have hb' : Below w.heap.size w w1 := ((Below.refl _ _).alloc (Nat.le_refl _) _).trans (hb.mono (by simp))
  cases bb
  · clear hb hr1 hr
    go_wp2
    go_ret
    exact ⟨rfl, hb'⟩
  have hr2 := hr1.later hb
  have c0 : w1.cell? ⟨w.heap.size, 0, none⟩ = some (.string f0) := cell_later hb (by simp)
  have c1 : w1.cell? ⟨w.heap.size, 1, none⟩ = some (.string f1) := cell_later hb (by simp)
  have c2 : w1.cell? ⟨w.heap.size, 2, none⟩ = some (.string f2) := cell_later hb (by simp)
  have hs1 : w.heap.size < w1.heap.size := by have := hb.size; simp at this; omega
  clear hb hr1 hr
  go_wp2_with fail
  · go_ret
    exact ⟨rfl, hb'⟩
  rotate_left
  · go_ret
    exact ⟨rfl, hb'⟩
  · go_ret
    exact ⟨rfl, hb'⟩
  · go_ret
    exact ⟨rfl, hb'⟩
  refine (tooBig a n c S F M _ _ hn (by omega) (by omega) hr2).mono ?_
  rintro e w2 ⟨⟨bb, rfl⟩, hb2⟩
  have hb'' : Below w.heap.size w w2 := hb'.trans (hb2.mono (by omega))
  cases bb
  rotate_left
  · go_wp2
    go_ret
    exact ⟨rfl, hb''⟩
  replace hr2 := hr2.later hb2
  replace c0 := cell_later hb2 c0
  replace c1 := cell_later hb2 c1
  replace c2 := cell_later hb2 c2
  have hs2 : w.heap.size < w2.heap.size := by have := hb2.size; omega
  clear hb2 hb' hs1
  by_cases hi0 : i < 0
  · go_wp2_with fail
    go_ret
    exact ⟨rfl, hb''⟩
  by_cases hi1 : (n : Int) < i
  · go_wp2_with fail
    go_ret
    exact ⟨rfl, hb''⟩
  obtain ⟨m, rfl⟩ : ∃ m : Nat, i = m := ⟨i.toNat, by omega⟩
  have hmn : m ≤ n := by omega
  clear hi0 hi1
  go_wp2_with fail
  refine (build_any a n c S F M _ hn hr2).mono ?_
  rintro e w3 ⟨rfl, hB, hb3, hs3⟩
  replace hr2 := hr2.later hb3
  replace c0 := cell_later hb3 c0
  replace c1 := cell_later hb3 c1
  replace c2 := cell_later hb3 c2
  go_wp2_with fail
  refine (build_any a m c S F M _ (by omega) (hr2.take hmn)).mono ?_
  rintro e w4 ⟨rfl, hP, hb4, hs4⟩
  replace hr2 := hr2.later hb4
  replace hB := hB.later hb4
  replace c0 := cell_later hb4 c0
  replace c1 := cell_later hb4 c1
  replace c2 := cell_later hb4 c2
  obtain ⟨ao, hsl, hR⟩ := slice_from a n c m S F M hmn hnc
  go_wp2_with fail
  refine (build_any ao (n - m) _ (fun k => S (m + k)) (fun k => F (m + k)) (fun k => M (m + k)) _ (by omega) (hR _ hr2)).mono ?_
  rintro e w5 ⟨rfl, hS, hb5, hs5⟩
  replace hP := hP.later hb5
  replace hB := hB.later hb5
  replace c0 := cell_later hb5 c0
  replace c1 := cell_later hb5 c1
  replace c2 := cell_later hb5 c2
  have hb0 : Below w.heap.size w w5 := ((hb''.trans (hb3.mono (by omega))).trans (hb4.mono (by omega))).trans (hb5.mono (by omega))
  have hz5 : w.heap.size ≤ w5.heap.size := by omega
  clear hr2 hb3 hb4 hb5 hb'' hsl hR hs2 hs3 hs4 hs5
  go_wp2_with (at_make; refine wpList_make_own _ rfl _ _ 27 rfl w5.heap.size 31 i0 _ 3 Try.underlying27 hi hz0 hz1 _ _ _ (n + 1) rfl rfl (by omega) ?b2 ?b3 ?b4 ?_)
  case b2 => rw [hz2]; omega
  case b3 => unfold maxLen; omega
  case b4 => exact Nat.le_refl _
  intro w6 hown6 hgrow6
  have hb6 : Below w5.heap.size w5 w6 := (Below.refl _ _).grown hgrow6 (Nat.le_refl _) (by simp)
  clear hgrow6
  go_wp2
  go_loopw [12, 13] (fun v i wr => ∃ k : Nat, k ≤ m ∧ i = .int .i64 k ∧ v = .slice (some ⟨w5.heap.size, 0, none⟩) k (n + 1) ∧ wr.ownsRow w5.heap.size 31 3 (.slice (some ⟨w5.heap.size, 0, none⟩) k (n + 1)) k (flat (ins S m f0) (ins F m f1) (ins M m f2) k) ∧ Below w5.heap.size w5 wr) (fun _ i _ => m - (intOf i).toNat)
  case atStart => exact ⟨0, Nat.zero_le _, rfl, rfl, hown6, hb6⟩
  case round =>
    obtain ⟨k, hk, rfl, rfl, hown, hb⟩ := hrel
    clear hown6 hb6
    by_cases hlt : k < m
    · obtain ⟨g0, g1, g2⟩ := hP.at0 hlt
      replace g0 := cell_later hb g0
      replace g1 := cell_later hb g1
      replace g2 := cell_later hb g2
      go_wp2_with (at_builtin; refine wpList_append_fits _ rfl _ _ 27 rfl w5.heap.size 31 i0 3 Try.underlying27 hi hz1 w5.heap.size k (n + 1) _ rfl (hown.alloc _) ⟨wr.heap.size, 0, none⟩ 1 1 [.string (S k), .string (F k), .string (M k)] rfl rfl ?q1 ?q2 ?q3 ?_)
      case q1 => exact cells3_new _ _ _ _ _
      case q2 => exact oneCell3 _ _ _
      case q3 => omega
      intro w7 hown7 hgrow7
      have R := app_step (ins S m f0) (ins F m f1) (ins M m f2) hb (ins_lt S f0 hlt) (ins_lt F f1 hlt) (ins_lt M f2 hlt) hown7 hgrow7
      clear hown7 hgrow7 hown g0 g1 g2 hP hS hB c0 c1 c2
      go_wp2
      go_roundw
      case rel => exact ⟨k + 1, by omega, by go_num, rfl, R.1, R.2⟩
      case measure => simp [intOf]; omega
    · have hkm : k = m := by omega
      subst hkm
      have e0 := cell_later hb c0
      have e1 := cell_later hb c1
      have e2 := cell_later hb c2
      go_wp2_with (at_builtin; refine wpList_append_fits _ rfl _ _ 27 rfl w5.heap.size 31 i0 3 Try.underlying27 hi hz1 w5.heap.size k (n + 1) _ rfl (hown.alloc _) ⟨wr.heap.size, 0, none⟩ 1 1 [.string f0, .string f1, .string f2] rfl rfl ?r1 ?r2 ?r3 ?_)
      case r1 => exact cells3_new _ _ _ _ _
      case r2 => exact oneCell3 _ _ _
      case r3 => omega
      intro w7 hown7 hgrow7
      have R := app_step (ins S k f0) (ins F k f1) (ins M k f2) hb (ins_at S k f0) (ins_at F k f1) (ins_at M k f2) hown7 hgrow7
      obtain ⟨R1, R2⟩ := R
      clear hown7 hgrow7 hown e0 e1 e2 hb
      go_wp2
      go_loopw [12, 14] (fun v i wr => ∃ j : Nat, j ≤ n - k ∧ i = .int .i64 j ∧ v = .slice (some ⟨w5.heap.size, 0, none⟩) (k + 1 + j) (n + 1) ∧ wr.ownsRow w5.heap.size 31 3 (.slice (some ⟨w5.heap.size, 0, none⟩) (k + 1 + j) (n + 1)) (k + 1 + j) (flat (ins S k f0) (ins F k f1) (ins M k f2) (k + 1 + j)) ∧ Below w5.heap.size w5 wr) (fun _ i _ => (n - k) - (intOf i).toNat)
      case atStart => exact ⟨0, Nat.zero_le _, rfl, rfl, R1, R2⟩
      case round =>
        obtain ⟨j, hj, rfl, rfl, hown, hb⟩ := hrel
        clear R1 R2
        by_cases hlt2 : j < n - k
        · obtain ⟨g0, g1, g2⟩ := hS.at0 hlt2
          replace g0 := cell_later hb g0
          replace g1 := cell_later hb g1
          replace g2 := cell_later hb g2
          go_wp2_with (at_builtin; refine wpList_append_fits _ rfl _ _ 27 rfl w5.heap.size 31 i0 3 Try.underlying27 hi hz1 w5.heap.size (k + 1 + j) (n + 1) _ rfl (hown.alloc _) ⟨wr.heap.size, 0, none⟩ 1 1 [.string (S (k + j)), .string (F (k + j)), .string (M (k + j))] rfl rfl ?s1 ?s2 ?s3 ?_)
          case s1 => exact cells3_new _ _ _ _ _
          case s2 => exact oneCell3 _ _ _
          case s3 => omega
          intro w7 hown7 hgrow7
          have R := app_step (ins S k f0) (ins F k f1) (ins M k f2) hb (ins_gt S k j f0) (ins_gt F k j f1) (ins_gt M k j f2) hown7 hgrow7
          clear hown7 hgrow7 hown g0 g1 g2 hP hS hB c0 c1 c2
          go_wp2
          go_roundw
          case rel => exact ⟨j + 1, by omega, by go_num, rfl, R.1, R.2⟩
          case measure => simp [intOf]; omega
        · have hjn : j = n - k := by omega
          subst hjn
          have e0 := cell_later hb c0
          have hzz : w.heap.size < wr.heap.size := World.block_lt_of_cell? _ _ e0
          have hb9 : Below w.heap.size w wr := hb0.trans (hb.mono hz5)
          have eN : k + 1 + (n - k) = n + 1 := by omega
          rw [eN] at hown
          obtain ⟨w0, hw0⟩ : ∃ w0 : World, w0 = ((((wr.alloc (.cells #[.slice (some ⟨w2.heap.size, 0, none⟩) n n] 34)).alloc (.cells #[.slice (some ⟨w5.heap.size, 0, none⟩) (n + 1) (n + 1)] 34)).alloc (.cells #[.slice (some ⟨w3.heap.size, 0, none⟩) k k] 34)).alloc (.cells #[.slice (some ⟨w4.heap.size, 0, none⟩) (n - k) (n - k)] 34)) := ⟨_, rfl⟩
          have hbw : Below wr.heap.size wr w0 := by
            rw [hw0]
            exact ((((Below.refl _ _).alloc (Nat.le_refl _) _).alloc (by simp) _).alloc (by simp; omega) _).alloc (by simp; omega) _
          have p1 : w0.cell? ⟨wr.heap.size, 0, none⟩ = some (.slice (some ⟨w2.heap.size, 0, none⟩) n n) := by rw [hw0]; go_simp
          have p2 : w0.cell? ⟨wr.heap.size + 1, 0, none⟩ = some (.slice (some ⟨w5.heap.size, 0, none⟩) (n + 1) (n + 1)) := by rw [hw0]; go_simp
          have p3 : w0.cell? ⟨wr.heap.size + 2, 0, none⟩ = some (.slice (some ⟨w3.heap.size, 0, none⟩) k k) := by rw [hw0]; go_simp
          have p4 : w0.cell? ⟨wr.heap.size + 3, 0, none⟩ = some (.slice (some ⟨w4.heap.size, 0, none⟩) (n - k) (n - k)) := by rw [hw0]; go_simp
          have r1 := (hB.later hb).later hbw
          have r2 := (row_of_filled hown (filled_flat _ _ _ _)).later hbw
          have r3 := (hP.later hb).later hbw
          have r4 := (hS.later hb).later hbw
          have hb10 : Below w.heap.size w w0 := hb9.trans (hbw.mono (by omega))
          have hz10 : w.heap.size ≤ w0.heap.size := hb10.size
          have y1 : w.heap.size < wr.heap.size + 1 := by omega
          have y2 : w.heap.size < wr.heap.size + 2 := by omega
          have y3 : w.heap.size < wr.heap.size + 3 := by omega
          obtain ⟨P, hP0⟩ : ∃ P, P = cnt S f0 k := ⟨_, rfl⟩
          obtain ⟨Q, hQ0⟩ : ∃ Q, Q = cnt (fun j => S (k + j)) f0 (n - k) := ⟨_, rfl⟩
          obtain ⟨P2, hP2⟩ : ∃ P, P = cnt S t k := ⟨_, rfl⟩
          obtain ⟨Q2, hQ2⟩ : ∃ Q, Q = cnt (fun j => S (k + j)) t (n - k) := ⟨_, rfl⟩
          obtain ⟨D, hD⟩ : ∃ D, D = one f0 t := ⟨_, rfl⟩
          have bP : P ≤ 4096 := by have := cnt_le S f0 k; omega
          have bQ : Q ≤ 4096 := by have := cnt_le (fun j => S (k + j)) f0 (n - k); omega
          have bP2 : P2 ≤ 4096 := by have := cnt_le S t k; omega
          have bQ2 : Q2 ≤ 4096 := by have := cnt_le (fun j => S (k + j)) t (n - k); omega
          have eB : cnt S f0 n = P + Q := by rw [hP0, hQ0, ← cnt_split, Nat.add_sub_cancel' hmn]
          have eB2 : cnt S t n = P2 + Q2 := by rw [hP2, hQ2, ← cnt_split, Nat.add_sub_cancel' hmn]
          have eA : cnt (ins S k f0) f0 (n + 1) = P + Q + 1 := by
            have := cnt_ins S k (n - k) f0 f0
            rw [Nat.add_sub_cancel' hmn, ← hP0, ← hQ0, one_self] at this
            exact this
          have eA2 : cnt (ins S k f0) t (n + 1) = P2 + Q2 + D := by
            have := cnt_ins S k (n - k) f0 t
            rw [Nat.add_sub_cancel' hmn, ← hP2, ← hQ2, ← hD] at this
            exact this
          have H1 : Hid (∀ w', Below w0.heap.size w0 w' → Calls Try.prog 8 #[.pointer (some ⟨wr.heap.size, 0, none⟩), .string f0] w' fun e w'' => e = .returned (.int .i64 ((P : Int) + Q)) ∧ Below w0.heap.size w0 w'') := fun w' h => count_below w0 p1 r1 (by omega) (by rw [eB]; omega) h
          have H2 : Hid (∀ w', Below w0.heap.size w0 w' → Calls Try.prog 8 #[.pointer (some ⟨wr.heap.size + 1, 0, none⟩), .string f0] w' fun e w'' => e = .returned (.int .i64 ((P : Int) + Q + 1)) ∧ Below w0.heap.size w0 w'') := fun w' h => count_below w0 p2 r2 (by omega) (by rw [eA]; omega) h
          have H3 : Hid (∀ w', Below w0.heap.size w0 w' → Calls Try.prog 8 #[.pointer (some ⟨wr.heap.size + 2, 0, none⟩), .string f0] w' fun e w'' => e = .returned (.int .i64 (P : Int)) ∧ Below w0.heap.size w0 w'') := fun w' h => count_below w0 p3 r3 (by omega) (by rw [hP0]) h
          have H4 : Hid (∀ w', Below w0.heap.size w0 w' → Calls Try.prog 8 #[.pointer (some ⟨wr.heap.size + 3, 0, none⟩), .string f0] w' fun e w'' => e = .returned (.int .i64 (Q : Int)) ∧ Below w0.heap.size w0 w'') := fun w' h => count_below w0 p4 r4 (by omega) (by rw [hQ0]) h
          have H5 : Hid (∀ w', Below w0.heap.size w0 w' → Calls Try.prog 8 #[.pointer (some ⟨wr.heap.size, 0, none⟩), .string t] w' fun e w'' => e = .returned (.int .i64 ((P2 : Int) + Q2)) ∧ Below w0.heap.size w0 w'') := fun w' h => count_below w0 p1 r1 (by omega) (by rw [eB2]; omega) h
          have H6 : Hid (∀ w', Below w0.heap.size w0 w' → Calls Try.prog 8 #[.pointer (some ⟨wr.heap.size + 1, 0, none⟩), .string t] w' fun e w'' => e = .returned (.int .i64 ((P2 : Int) + Q2 + D)) ∧ Below w0.heap.size w0 w'') := fun w' h => count_below w0 p2 r2 (by omega) (by rw [eA2]; omega) h
          have H7 : Hid (∀ w', Below w0.heap.size w0 w' → Calls Try.prog 8 #[.pointer (some ⟨wr.heap.size + 2, 0, none⟩), .string t] w' fun e w'' => e = .returned (.int .i64 (P2 : Int)) ∧ Below w0.heap.size w0 w'') := fun w' h => count_below w0 p3 r3 (by omega) (by rw [hP2]) h
          have H8 : Hid (∀ w', Below w0.heap.size w0 w' → Calls Try.prog 8 #[.pointer (some ⟨wr.heap.size + 3, 0, none⟩), .string t] w' fun e w'' => e = .returned (.int .i64 (Q2 : Int)) ∧ Below w0.heap.size w0 w'') := fun w' h => count_below w0 p4 r4 (by omega) (by rw [hQ2]) h
          have hDc : ((t.toList == f0.toList) = true ∧ D = 1) ∨ ((t.toList == f0.toList) = false ∧ D = 0) := by
            rw [hD]; unfold one
            by_cases h : t.toList = f0.toList
            · left; simp [h]
            · right; simp [h, Ne.symm h]
          clear p1 p2 p3 p4 r1 r2 r3 r4 eB eB2 eA eA2 hP0 hQ0 hP2 hQ2 hD hB hP hS hown hb hbw c0 c1 c2 hcm hnc hb0 hb9
          rcases hDc with ⟨ht, rfl⟩ | ⟨ht, rfl⟩
          all_goals
            go_wp2_with fail
            rw [← hw0]
            refine (H1.out _ (Below.refl _ _)).mono ?_
            rintro e v1 ⟨rfl, x1⟩
            clear hw0
            go_wp2_with fail
            refine (H2.out _ x1).mono ?_
            rintro e v2 ⟨rfl, x2⟩
            go_wp2_with fail
            refine (H3.out _ x2).mono ?_
            rintro e v3 ⟨rfl, x3⟩
            go_wp2_with fail
            refine (H4.out _ x3).mono ?_
            rintro e v4 ⟨rfl, x4⟩
            go_wp2_with fail
            refine (H5.out _ x4).mono ?_
            rintro e v5 ⟨rfl, x5⟩
            go_wp2_with fail
            refine (H6.out _ x5).mono ?_
            rintro e v6 ⟨rfl, x6⟩
            go_wp2_with fail
            refine (H7.out _ x6).mono ?_
            rintro e v7 ⟨rfl, x7⟩
            go_wp2_with fail
            refine (H8.out _ x7).mono ?_
            rintro e v8 ⟨rfl, x8⟩
            go_wp2
            go_ret
            exact ⟨rfl, hb10.trans (x8.mono hz10)⟩
end Go.Proofs.Qxb6627456a
