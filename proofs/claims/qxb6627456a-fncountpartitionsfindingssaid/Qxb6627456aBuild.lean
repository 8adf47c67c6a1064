import Derived.Test.Qxb6627456aCount
import Derived.BigQuiet
import Derived.BigRegion
import Derived.Deep.QuietTactic
namespace Go.Proofs.Qxb6627456a
open Go.RowKit

theorem Try.info31 : (Try.prog.info? 31).map (fun i => (i.zero, i.size, i.bytes)) = some (some (.agg #[.string ByteArray.empty, .string ByteArray.empty, .string ByteArray.empty]), 3, 48) := by kernel_rfl

def Filled (xs : List Value) (k : Nat) (S F M : Nat → ByteArray) : Prop :=
  ∀ j, j < k → xs[j * 3]? = some (.string (S j)) ∧ xs[j * 3 + 1]? = some (.string (F j)) ∧ xs[j * 3 + 2]? = some (.string (M j))
theorem filled_zero (xs : List Value) (S F M : Nat → ByteArray) : Filled xs 0 S F M := fun j hj => by omega
theorem own3 {w : World} {base e g n cap : Nat} {xs : List Value} (h : w.ownsRow base e 3 (.slice (some ⟨g, 0, none⟩) n cap) n xs) {j : Nat} (hj : j < n * 3) : ∃ v, w.cell? ⟨g, j, none⟩ = some v := by
  have hl := h.1
  exact ⟨xs[j]'(by omega), by rw [h.cellAt j hj]; exact List.getElem?_eq_getElem (by omega)⟩
theorem fill_step {w : World} {base e g n cap k : Nat} {xs : List Value} {S F M : Nat → ByteArray} (h : w.ownsRow base e 3 (.slice (some ⟨g, 0, none⟩) n cap) n xs) (hf : Filled xs k S F M) (hk : k < n) :
    ∃ xs', (((w.setCell ⟨g, k * 3, none⟩ (.string (S k))).setCell ⟨g, k * 3 + 1, none⟩ (.string (F k))).setCell ⟨g, k * 3 + 2, none⟩ (.string (M k))).drew.ownsRow base e 3 (.slice (some ⟨g, 0, none⟩) n cap) n xs' ∧ Filled xs' (k + 1) S F M := by
  have h1 := (h.stored (k * 3) (.string (S k))).1
  have h2 := (h1.stored (k * 3 + 1) (.string (F k))).1
  have h3 := (h2.stored (k * 3 + 2) (.string (M k))).1
  refine ⟨_, h3.drew, fun j hj => ?_⟩
  have hl := h.1
  by_cases hjk : j = k
  · subst hjk
    refine ⟨?_, ?_, ?_⟩ <;> simp [List.getElem?_set] <;> omega
  · obtain ⟨p0, p1, p2⟩ := hf j (by omega)
    refine ⟨?_, ?_, ?_⟩
    · rw [List.getElem?_set_ne (by omega), List.getElem?_set_ne (by omega), List.getElem?_set_ne (by omega)]; exact p0
    · rw [List.getElem?_set_ne (by omega), List.getElem?_set_ne (by omega), List.getElem?_set_ne (by omega)]; exact p1
    · rw [List.getElem?_set_ne (by omega), List.getElem?_set_ne (by omega), List.getElem?_set_ne (by omega)]; exact p2
theorem row_of_filled {w : World} {base e g n cap : Nat} {xs : List Value} {S F M : Nat → ByteArray} (h : w.ownsRow base e 3 (.slice (some ⟨g, 0, none⟩) n cap) n xs) (hf : Filled xs n S F M) :
    Row3 w (some ⟨g, 0, none⟩) n S F M := by
  refine .inr ⟨g, 0, rfl, fun k hk => ?_⟩
  obtain ⟨a, b, c⟩ := hf k hk
  simp only [Nat.zero_add]
  exact ⟨(h.cellAt _ (by omega)).trans a, (h.cellAt _ (by omega)).trans b, (h.cellAt _ (by omega)).trans c⟩

set_option maxRecDepth 100000 in
set_option maxHeartbeats 1000000 in
theorem build_any (a : Option Addr) (n c : Nat) (S F M : Nat → ByteArray) (w : World) (hn : n ≤ 4096) (hr : Row3 w a n S F M) :
    Calls Try.prog 7 #[.slice a n c] w fun e w' => e = .returned (.slice (some ⟨w.heap.size, 0, none⟩) n n) ∧ Row3 w' (some ⟨w.heap.size, 0, none⟩) n S F M ∧ Below w.heap.size w w' ∧ w.heap.size < w'.heap.size := by
  have hn' : (n : Int) ≤ 4096 := by omega
  obtain ⟨i0, hi, hz0, hz1, hz2⟩ := info_parts Try.info31
  go_enter Try.func7, Try.ntmps7
  go_wp2_with (at_make; refine wpList_make_full _ rfl _ _ 27 rfl w.heap.size 31 i0 _ 3 Try.underlying27 hi hz0 hz1 _ _ _ _ n rfl rfl rfl rfl ?b2 ?b3 ?b4 ?_)
  case b2 => rw [hz2]; omega
  case b3 => unfold maxLen; omega
  case b4 => exact Nat.le_refl _
  intro w1 hown1 hgrow1
  have hb1 : Below w.heap.size w w1 := (Below.refl _ _).grown hgrow1 (Nat.le_refl _) (by simp)
  obtain ⟨xs1, hown2⟩ : ∃ xs, w1.ownsRow w.heap.size 31 3 (.slice (some ⟨w.heap.size, 0, none⟩) n n) n xs := ⟨_, hown1⟩
  clear hown1 hgrow1 hz0 hz1 hz2 hi
  go_wp2
  go_loopw [4] (fun i wr => ∃ k : Nat, k ≤ n ∧ i = .int .i64 k ∧ (∃ xs, wr.ownsRow w.heap.size 31 3 (.slice (some ⟨w.heap.size, 0, none⟩) n n) n xs ∧ Filled xs k S F M) ∧ Below w.heap.size w wr) (fun i _ => n - (intOf i).toNat)
  case atStart => exact ⟨0, Nat.zero_le _, rfl, ⟨_, hown2, filled_zero _ _ _ _⟩, hb1⟩
  case round =>
    obtain ⟨k, hk, rfl, ⟨xs, hown, hfil⟩, hb⟩ := hrel
    clear hown2 hb1
    by_cases hlt : k < n
    · obtain ⟨b, off, rfl, g0, g1, g2⟩ := hr.head hlt
      have c0 := cell_later hb g0
      have c1 := cell_later hb g1
      have c2 := cell_later hb g2
      have hlt' : (k : Int) < n := by omega
      obtain ⟨v0, d0⟩ : ∃ v, wr.cell? ⟨w.heap.size, k * 3, none⟩ = some v := own3 hown (by omega)
      obtain ⟨v1, d1⟩ : ∃ v, wr.cell? ⟨w.heap.size, k * 3 + 1, none⟩ = some v := own3 hown (by omega)
      obtain ⟨v2, d2⟩ : ∃ v, wr.cell? ⟨w.heap.size, k * 3 + 2, none⟩ = some v := own3 hown (by omega)
      have z0 := hown.frozenAt (k * 3)
      have z1 := hown.frozenAt (k * 3 + 1)
      have z2 := hown.frozenAt (k * 3 + 2)
      clear hr g0 g1 g2
      go_wp2
      go_region
      go_wp2
      go_roundw
      case rel => exact ⟨k + 1, by omega, by go_num, fill_step hown hfil hlt, (((hb.setCell (Nat.le_refl _) _).setCell (Nat.le_refl _) _).setCell (Nat.le_refl _) _).drew⟩
      case measure => simp [intOf]; omega
    · go_wp2
      go_ret
      have hkn : k = n := by omega
      subst hkn
      exact ⟨rfl, row_of_filled hown hfil, hb, (hown.lt _ rfl).2⟩
end Go.Proofs.Qxb6627456a
