/-
  'Rows.FnCountInsertAndSplitSaid' proved: the walk is Qxb6627456aInsert's.
-/
import Derived.Test.Qxb6627456aInsert
import Derived.Test.Qxb6627456aOpen
import Derived.ShutString
import Derived.ChangeOld
namespace Go.Proofs.Qxb6627456a.fnCountInsertAndSplit
open Go.ChangeShapes Go.WideShapes Go.ChangeAt Go.RowKit Go.Deep Go.Joins
open Go.ChangeMaps (open_string shut_string)
set_option linter.unusedVariables false

theorem walk (a : Option Addr) (n c : Nat) (S F M : Nat → ByteArray) (i : Int) (f0 f1 f2 t : ByteArray) (w : World) (hnc : n ≤ c) (hcm : c ≤ maxLen) (hr : Row3 w a n S F M) :
    Calls Try.prog 3 #[.slice a n c, .int .i64 i, .agg #[.string f0, .string f1, .string f2], .string t] w fun e w' => e = .returned (.bool true) ∧ Below w.heap.size w w' := by
  by_cases hn : n ≤ 4096
  · exact insert_main a n c S F M i f0 f1 f2 t w hn hnc hcm hr
  · exact insert_big a n c S F M i f0 f1 f2 t w hn hr

set_option maxRecDepth 100000 in
theorem lifted (os : Os) (started : os.Started) (H : Type) (enc : TypeId × Value → H) :
    ReturnsInHanded {} Try.checked os 3 .any (Rows.fnCountInsertAndSplitSpec.pre6 enc Try.prog Try.f3 Rows.fnCountInsertAndSplitRow.domain false) (Rows.fnCountInsertAndSplitSpec.post enc Try.prog Try.f3 false true false false) := by
  refine returnsInHanded_of_change (C := Try.checked) Try.own started (by kernel_rfl) Try.func3
    (ChangeSpec.witness6 (enc := enc) (C := Try.checked) false ⟨#[], #[.slice none 0 0, .int .i64 0, .agg #[.string ByteArray.empty, .string ByteArray.empty, .string ByteArray.empty], .string ByteArray.empty], []⟩ 8 (by kernel_rfl) (by kernel_rfl) (by kernel_rfl) (by kernel_rfl)) ?_
  intro W base args ds gs before hval0 hW hcnd _
  have hval : ∀ (j : Nat) t v, Try.f3.params[j]? = some t → args[j]? = some v → Value.okWide Try.prog W .any base t v := hval0
  have hW' := hW
  obtain ⟨p, q, hA0, hV, rfl, hfz, hnd⟩ := hW
  have hA : DataW.TrodAll enc Try.prog W 0 (fun _ => true) true Try.f3.params.toList args.toList ds p := hA0
  rw [Try.params3] at hA hval
  obtain ⟨v0, vs0, d0, ds0, p0, q0, hargs, rfl, rfl, h0, r0⟩ := trodAll_cons hA
  obtain ⟨v1, vs1, d1, ds1, p1, q1, rfl, rfl, rfl, h1, r1⟩ := trodAll_cons r0
  obtain ⟨v2, vs2, d2, ds2, p2, q2, rfl, rfl, rfl, h2, r2⟩ := trodAll_cons r1
  obtain ⟨v3, vs3, d3, ds3, p3, q3, rfl, rfl, rfl, h3, r3⟩ := trodAll_cons r2
  obtain ⟨rfl, rfl, rfl⟩ := trodAll_nil r3
  obtain rfl : args = #[v0, v1, v2, v3] := by cases args; simp_all
  obtain ⟨rfl, rfl⟩ := trodVars_none hV
  have k0 := h0
  have k2 := h2
  have lt0 : ∀ x ∈ p0, x.block < W.heap.size := by obtain ⟨m, hm⟩ := k0; exact DataW.trod_lt m _ _ _ hm
  have lt2 : ∀ x ∈ p2, x.block < W.heap.size := by obtain ⟨m, hm⟩ := k2; exact DataW.trod_lt m _ _ _ hm
  obtain ⟨a0, len0, cap0, rfl⟩ := okWide_slice Try.underlying22 (hval 0 22 v0 rfl rfl)
  obtain ⟨S, F, M, hrow, hlc, hcm⟩ := open_fs h0
  obtain ⟨a1, rfl, rfl, rfl, w1⟩ := open_int Try.underlying3 (hval 1 3 v1 rfl rfl) h1
  obtain ⟨f0, f1, f2, rfl⟩ : ∃ f0 f1 f2 : ByteArray, v2 = .agg #[.string f0, .string f1, .string f2] := by
    obtain ⟨cs, rfl, hsz⟩ := okWide_struct Try.underlying24 (hval 2 24 v2 rfl rfl)
    obtain ⟨m, hm⟩ := h2
    obtain ⟨s, f, g, e⟩ := trod_fin hm
    exact ⟨s, f, g, by simp only [Value.cells] at e; rw [show cs = #[.string s, .string f, .string g] from by cases cs; simpa using e]⟩
  obtain ⟨a3, rfl, rfl, rfl, w3⟩ := open_string Try.underlying9 (hval 3 9 v3 rfl rfl) h3
  clear hA0 hval0
  refine (walk a0 len0 cap0 S F M a1 f0 f1 f2 a3 W hlc hcm hrow).mono fun e W' ⟨he, bel⟩ => ?_
  subst he
  exact ⟨_, rfl, _, _, _, [], _, [], hW', trodAll_mk1 (shut_bool Try.underlying4 _), (trodAll_cons_mk (Below.trod Try.laidOut (by kernel_rfl) (of_decide_eq_true (by kernel_rfl)) k0 bel lt0) (trodAll_cons_mk (shut_int Try.underlying3 w1) (trodAll_cons_mk (Below.trod Try.laidOut (by kernel_rfl) (of_decide_eq_true (by kernel_rfl)) k2 bel lt2) (trodAll_cons_mk (shut_string Try.underlying9 w3) trodAll_mk0)))), rfl, bel.frame _, fun h => by cases h⟩

theorem over : Rows.fnCountInsertAndSplitRow.holds Try.pinned (OpenSpec.ofChange Rows.fnCountInsertAndSplitSpec) :=
  OpenClaim.holds_of_wide 3 Try.f3 rfl rfl rfl rfl rfl rfl rfl ⟨rfl, rfl, rfl, rfl, rfl⟩ rfl rfl rfl rfl rfl (by kernel_rfl) Try.func3 (by kernel_rfl)
    (of_decide_eq_true (by kernel_rfl)) (by unfold Func.isWrapper; first | (rw [if_pos (by decide +kernel)]; kernel_rfl) | (rw [if_neg (by decide +kernel)]; exact ⟨rfl, rfl⟩))
    (fun os started H enc _ => lifted os started H enc)

end Go.Proofs.Qxb6627456a.fnCountInsertAndSplit

namespace Go.Proofs.Qxb6627456a
theorem fnCountInsertAndSplit_proved : Rows.FnCountInsertAndSplitSaid := fnCountInsertAndSplit.over
end Go.Proofs.Qxb6627456a
