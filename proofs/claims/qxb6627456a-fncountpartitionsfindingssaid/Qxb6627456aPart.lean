import Derived.Test.Qxb6627456aDist
import Derived.Test.Qxb6627456aBytes
import Derived.Test.Qxb6627456aTooBig
namespace Go.Proofs.Qxb6627456a
open Go.RowKit

theorem Try.info9 : (Try.prog.info? 9).map (fun i => (i.zero, i.size, i.bytes)) = some (some (.string ByteArray.empty), 1, 16) := by kernel_rfl

set_option maxRecDepth 100000 in
set_option maxHeartbeats 1000000 in
theorem part_big (a : Option Addr) (n c : Nat) (S F M : Nat → ByteArray) (t : ByteArray) (w : World) (hn : ¬ n ≤ 4096) (hr : Row3 w a n S F M) :
    Calls Try.prog 4 #[.slice a n c, .string t] w fun e w' => e = .returned (.bool true) ∧ Below w.heap.size w w' := by
  have hn' : (4096 : Int) < n := by omega
  go_enter Try.func4, Try.ntmps4
  go_wp2_with fail
  refine (bytes9 a n c S F M t _ hr).mono ?_
  rintro e w ⟨⟨bb, rfl⟩, rfl⟩
  cases bb
  · go_wp2
    go_ret
    exact ⟨rfl, Below.refl _ _⟩
  · go_wp2
    go_ret
    exact ⟨rfl, Below.refl _ _⟩

set_option maxRecDepth 100000 in
set_option maxHeartbeats 1000000 in
theorem part_main (a : Option Addr) (n c : Nat) (S F M : Nat → ByteArray) (t : ByteArray) (w : World) (hn : n ≤ 4096) (hr : Row3 w a n S F M) :
    Calls Try.prog 4 #[.slice a n c, .string t] w fun e w' => e = .returned (.bool true) ∧ Below w.heap.size w w' := by
  have hn' : (n : Int) ≤ 4096 := by omega
  obtain ⟨i0, hi, hz0, hz1, hz2⟩ := info_parts Try.info9
  go_enter Try.func4, Try.ntmps4
  go_wp2_with fail
  refine (bytes9 a n c S F M t _ hr).mono ?_
  rintro e w ⟨⟨bb, rfl⟩, rfl⟩
  cases bb
  · go_wp2
    go_ret
    exact ⟨rfl, Below.refl _ _⟩
  go_wp2_with fail
  · go_ret
    exact ⟨rfl, Below.refl _ _⟩
  refine (tooBig a n c S F M _ _ hn (by omega) (by omega) hr).mono ?_
  rintro e w2 ⟨⟨bb, rfl⟩, hb2⟩
  cases bb
  rotate_left
  · go_wp2
    go_ret
    exact ⟨rfl, hb2⟩
  have hr2 := hr.later hb2
  go_wp2_with fail
  refine (build_any a n c S F M _ hn hr2).mono ?_
  rintro e w3 ⟨rfl, hB, hb3, hs3⟩
  replace hr2 := hr2.later hb3
  go_wp2_with (at_make; refine wpList_make_own _ rfl _ _ 37 rfl (w3.heap.size + 1) 9 i0 _ 1 Try.underlying37 hi hz0 hz1 _ _ _ n rfl rfl rfl ?b2 ?b3 ?b4 ?_)
  case b2 => rw [hz2]; omega
  case b3 => unfold maxLen; omega
  case b4 => simp
  obtain ⟨w4, hw4⟩ : ∃ w4 : World, w4 = w3.alloc (.cells #[.slice (some ⟨w2.heap.size, 0, none⟩) n n] 34) := ⟨_, rfl⟩
  have hz4 : w3.heap.size + 1 = w4.heap.size := by rw [hw4]; simp
  have hb4 : Below w3.heap.size w3 w4 := by rw [hw4]; exact (Below.refl _ _).alloc (Nat.le_refl _) _
  have p1 : w4.cell? ⟨w3.heap.size, 0, none⟩ = some (.slice (some ⟨w2.heap.size, 0, none⟩) n n) := by rw [hw4]; simp
  replace hB := hB.later hb4
  replace hr2 := hr2.later hb4
  have hb0 : Below w.heap.size w w4 := (hb2.trans (hb3.mono hb2.size)).trans (hb4.mono (by have := hb2.size; omega))
  have hzw : w.heap.size ≤ w4.heap.size := hb0.size
  rw [← hw4, hz4]
  clear hw4 hz4 hb4 hb3 hb2 hs3 hr
  intro w5 hown5 hgrow5
  have hb5 : Below w4.heap.size w4 w5 := (Below.refl _ _).grown hgrow5 (Nat.le_refl _) (by simp)
  clear hgrow5
  go_wp2
  go_loopw [6, 7] (fun v i wr => ∃ k : Nat, k ≤ n ∧ i = .int .i64 k ∧ v = .slice (some ⟨w4.heap.size, 0, none⟩) (dist S k).length n ∧ wr.ownsRow w4.heap.size 9 1 (.slice (some ⟨w4.heap.size, 0, none⟩) (dist S k).length n) (dist S k).length ((dist S k).map .string) ∧ Below w4.heap.size w4 wr) (fun _ i _ => n - (intOf i).toNat)
  case atStart => exact ⟨0, Nat.zero_le _, rfl, rfl, hown5, hb5⟩
  case round =>
    obtain ⟨k, hk, rfl, rfl, hown, hb⟩ := hrel
    clear hown5 hb5
    by_cases hlt : k < n
    · obtain ⟨b, off, rfl, g0, _, _⟩ := hr2.head hlt
      have hlen := dist_length S k
      obtain ⟨L, hL⟩ : ∃ L, dist S k = L := ⟨_, rfl⟩
      rw [hL] at hown hlen ⊢
      have HL : Hid (dist S k = L) := hL
      clear hL hr2 hB p1
      have hlt' : (k : Int) < n := by omega
      go_wp2
      go_loopw [8, 9] (fun v i wr => ∃ j : Nat, j ≤ L.length ∧ i = .int .i64 j ∧ v = .bool (seen (L.take j) (S k)) ∧ wr.ownsRow w4.heap.size 9 1 (.slice (some ⟨w4.heap.size, 0, none⟩) L.length n) L.length (L.map .string) ∧ Below w4.heap.size w4 wr) (fun _ i _ => L.length - (intOf i).toNat)
      case atStart => exact ⟨0, Nat.zero_le _, rfl, rfl, hown, hb⟩
      case round =>
        rename_i wr0 _ _
        clear hown hb
        obtain ⟨j, hj, rfl, rfl, hown, hb⟩ := hrel
        by_cases hlt2 : j < L.length
        · have d0 : wr.cell? ⟨w4.heap.size, j, none⟩ = some (.string L[j]) := by rw [hown.cellAt j (by omega)]; simp [hlt2]
          have d1 := cell_later hb g0
          have hlt2' : (j : Int) < L.length := by omega
          go_wp2
          go_quiet (fail)
          go_wp2
          · have hyes : (L[j].toList == (S k).toList) = true := by assumption
            go_roundw
            case rel => exact ⟨j + 1, by omega, by go_num, by rw [take_snoc_at hlt2, seen_snoc, hyes, Bool.or_true], hown, below_drewN hb _⟩
            case measure => simp [intOf]; omega
          · have hno : (L[j].toList == (S k).toList) = false := by assumption
            go_roundw
            case rel => exact ⟨j + 1, by omega, by go_num, by rw [take_snoc_at hlt2, seen_snoc, hno, Bool.or_false], hown, below_drewN hb _⟩
            case measure => simp [intOf]; omega
        · have hjL : j = L.length := by omega
          subst hjL
          rw [List.take_length]
          have d1 := cell_later hb g0
          by_cases hs : seen L (S k) = true
          · have R : dist S (k + 1) = L := by rw [dist, HL.out, if_pos hs]
            rw [hs]
            go_wp2
            go_roundw
            case rel => exact ⟨k + 1, by omega, by go_num, by rw [R], by rw [R]; exact hown, hb⟩
            case measure => simp [intOf]; omega
          · have hs' : seen L (S k) = false := by simpa using hs
            have R : dist S (k + 1) = L ++ [S k] := by rw [dist, HL.out, if_neg hs]
            rw [hs']
            clear hs hs'
            go_wp2_with (at_builtin; refine wpList_append_fits _ rfl _ _ 37 rfl w4.heap.size 9 i0 1 Try.underlying37 hi hz1 w4.heap.size L.length n _ rfl (hown.alloc _) ⟨wr.heap.size, 0, none⟩ 1 1 [.string (S k)] rfl rfl ?q1 ?q2 ?q3 ?_)
            case q1 => exact cell_one_new _ _ _
            case q2 => intro u hu; simp at hu; subst hu; rfl
            case q3 => omega
            intro w7 hown7 hgrow7
            have hb7 : Below w4.heap.size w4 w7 := by
              have := hb.size
              exact (hb.alloc this _).grown hgrow7 (by simp; omega) (by simp)
            have eL : L.length + 1 = (dist S (k + 1)).length := by rw [R]; simp
            have hown8 : w7.ownsRow w4.heap.size 9 1 (.slice (some ⟨w4.heap.size, 0, none⟩) (dist S (k + 1)).length n) (dist S (k + 1)).length ((dist S (k + 1)).map .string) := by
              rw [← eL, R, List.map_append]; exact hown7
            have EL : Hid (L.length + 1 = (dist S (k + 1)).length) := eL
            clear hown7 hgrow7 hown hb R eL
            go_wp2
            go_roundw
            case rel => exact ⟨k + 1, by omega, by go_num, by rw [← EL.out], hown8, hb7⟩
            case measure => simp [intOf]; omega
    · have hkn : k = n := by omega
      subst hkn
      obtain ⟨L, hL⟩ : ∃ L, dist S k = L := ⟨_, rfl⟩
      have hlen := dist_length S k
      rw [hL] at hown hlen ⊢
      have HL : Hid (dist S k = L) := hL
      clear hL hr2
      have q1 := cell_later hb p1
      have rB := hB.later hb
      have cL : ∀ j (h : j < L.length), wr.cell? ⟨w4.heap.size, j, none⟩ = some (.string L[j]) := fun j h => by rw [hown.cellAt j (by omega)]; simp [h]
      have hbw : Below w.heap.size w wr := hb0.trans (hb.mono hzw)
      have hzr : w.heap.size ≤ wr.heap.size := hbw.size
      clear hown hB p1 hb hb0
      obtain ⟨wz, hwz⟩ : ∃ wz, wz = wr := ⟨_, rfl⟩
      rw [← hwz] at q1 rB cL hbw hzr ⊢
      clear hwz
      go_wp2
      go_loopw [10, 11, 12, 13] (fun ok v tp i wr => ∃ j : Nat, j ≤ L.length ∧ i = .int .i64 j ∧ ok = .bool true ∧ v = .int .i64 (tot (L.take j) S k : Nat) ∧ tp = .bool (seen (L.take j) t) ∧ Below wz.heap.size wz wr) (fun _ _ _ i _ => L.length - (intOf i).toNat)
      case atStart => exact ⟨0, Nat.zero_le _, rfl, rfl, rfl, rfl, Below.refl _ _⟩
      case round =>
        obtain ⟨j, hj, rfl, rfl, rfl, rfl, hb⟩ := hrel
        by_cases hlt2 : j < L.length
        · have d0 := cell_later hb (cL j hlt2)
          have hlt2' : (j : Int) < L.length := by omega
          have ht0 : tot (L.take (j + 1)) S k = tot (L.take j) S k + cnt S L[j] k := by rw [take_snoc_at hlt2, tot_snoc]
          have ht1 : tot (L.take (j + 1)) S k ≤ k := by have := tot_le S k (j + 1); rwa [HL.out] at this
          have hc1 : 1 ≤ cnt S L[j] k := cnt_mem S k (by rw [HL.out]; exact List.getElem_mem hlt2)
          obtain ⟨T, hT⟩ : ∃ T, tot (L.take j) S k = T := ⟨_, rfl⟩
          obtain ⟨C, hC⟩ : ∃ C, cnt S L[j] k = C := ⟨_, rfl⟩
          have HTC : Hid (tot (L.take (j + 1)) S k = T + C) := by rw [← hT, ← hC]; exact ht0
          rw [ht0, hT, hC] at ht1
          rw [hC] at hc1
          have HC : Hid (((cnt S L[j] k : Nat) : Int) = (C : Int)) := by rw [hC]; rfl
          rw [hT]
          clear ht0 hT hC
          go_wp2_with fail
          refine (count_below wz q1 rB (by omega) HC.out hb).mono ?_
          rintro e w8 ⟨rfl, hb8⟩
          have d8 := cell_later hb8 (cL j hlt2)
          clear d0 hb
          go_wp2
          · have hyes : (L[j].toList == t.toList) = true := by assumption
            go_roundw
            case rel => exact ⟨j + 1, by omega, by go_num, rfl, by rw [HTC.out]; go_num, by rw [take_snoc_at hlt2, seen_snoc, hyes, Bool.or_true], hb8⟩
            case measure => simp [intOf]; omega
          · have hno : (L[j].toList == t.toList) = false := by assumption
            go_roundw
            case rel => exact ⟨j + 1, by omega, by go_num, rfl, by rw [HTC.out]; go_num, by rw [take_snoc_at hlt2, seen_snoc, hno, Bool.or_false], hb8⟩
            case measure => simp [intOf]; omega
        · have hjL : j = L.length := by omega
          subst hjL
          rw [List.take_length]
          have hT : tot L S k = k := by have := tot_dist S k; rwa [HL.out] at this
          rw [hT]
          by_cases hs : seen L t = true
          · rw [hs]
            clear hT hs
            go_wp2
            go_ret
            exact ⟨rfl, hbw.trans (hb.mono hzr)⟩
          · have hs' : seen L t = false := by simpa using hs
            have hC : ((cnt S t k : Nat) : Int) = 0 := by rw [cnt_unseen S k (by rw [HL.out]; exact hs')]; rfl
            have HC : Hid (((cnt S t k : Nat) : Int) = 0) := hC
            rw [hs']
            clear hT hs hs' hC
            go_wp2_with fail
            refine (count_below wz q1 rB (by omega) HC.out hb).mono ?_
            rintro e w8 ⟨rfl, hb8⟩
            clear hb
            go_wp2
            go_ret
            exact ⟨rfl, hbw.trans (hb8.mono hzr)⟩
end Go.Proofs.Qxb6627456a
