import Derived.Test.Qxb6627508aIs
import Derived.ProofKit
import Derived.OpenShut
namespace Go.Proofs.Qxb6627508a
open Go.RowKit

/-- WHAT THE WALK IS TOLD OF A SLICE OF INTEGERS THAT CAME IN: it is nil; or it leads to a row of 'cap' cells, the numbers 'zs' (the first 'len' are its elements, the rest its spare room), each fitting its kind. -/
def IsRow (k : IntKind) (w : World) (a : Option Addr) (len cap : Nat) (zs : List Int) : Prop :=
  (a = none ∧ len = 0 ∧ cap = 0 ∧ zs = []) ∨
  ∃ x, a = some x ∧ len ≤ cap ∧ cap ≤ maxLen ∧ zs.length = cap ∧ (∀ i, i < zs.length → w.cell? (x.add i) = some (.int k (zs.getD i 0))) ∧ ∀ n ∈ zs, (Lit.int k n).wf = true

theorem wf_u64 {z : Int} (h : (Lit.int .u64 z).wf = true) : 0 ≤ z ∧ z < 18446744073709551616 := by
  simp [Lit.wf, IntKind.min, IntKind.max, IntKind.signed, IntKind.bits] at h
  omega

theorem came_of {w : World} {a : Option Addr} {len cap : Nat} {zs : List Int} (h : IsRow .u64 w a len cap zs) : ∃ C : Nat → Nat, Came w a len C ∧ ∀ k, k < len → C k < 2 ^ 64 := by
  refine ⟨fun k => (zs.getD k 0).toNat, ?_, ?_⟩
  · rcases h with ⟨_, h, _⟩ | ⟨x, rfl, hl, _, hz, hc, hw⟩
    · exact .inl h
    · by_cases h0 : len = 0
      · exact .inl h0
      · obtain ⟨b, off, spot⟩ := x
        have hspot : spot = none := by simpa [Addr.add] using World.cell?_spot (hc 0 (by omega))
        subst hspot
        refine .inr ⟨b, off, rfl, fun k hk => ?_⟩
        have hk' : k < zs.length := by omega
        have h1 := hc k hk'
        rw [Addr.add_lit] at h1
        have h2 := wf_u64 (hw _ (List.getElem_mem hk'))
        have h3 : zs.getD k 0 = zs[k] := by simp [List.getD, hk']
        show w.cell? ⟨b, off + k, none⟩ = some (.int .u64 ((zs.getD k 0).toNat : Nat))
        rw [h1, h3, Int.toNat_of_nonneg h2.1]
  · intro k hk
    rcases h with ⟨_, h, _⟩ | ⟨x, rfl, hl, _, hz, hc, hw⟩
    · omega
    · have hk' : k < zs.length := by omega
      have h2 := wf_u64 (hw _ (List.getElem_mem hk'))
      have h3 : zs.getD k 0 = zs[k] := by simp [List.getD, hk']
      show (zs.getD k 0).toNat < 2 ^ 64
      rw [h3]
      omega
end Go.Proofs.Qxb6627508a
