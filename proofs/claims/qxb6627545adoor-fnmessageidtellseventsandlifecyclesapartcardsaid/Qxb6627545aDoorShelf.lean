/-
  strconv.Itoa's contract at this seat's program: written by the kit's tools lay-shelf.mjs and lay-plain.mjs, cut down to this one contract.
-/
import Derived.Shelf.Strconv.Itoa0
import Derived.Shelf.Strconv.Itoa1
import Derived.Shelf.LaysM
import Derived.Shelf.Strconv.Itoa2
import Derived.Shelf.Strconv.Itoa3
import Derived.Test.Qxb6627545aDoorRows
namespace Go.Proofs
open Go.Shelf
def Tryd.laysM171_ren : Go.Shelf.Ren := ⟨fun | 171 => 9 | 243 => 10 | 246 => 11 | 283 => 12 | 284 => 13 | 285 => 14 | 286 => 15 | 129 => 17 | 317 => 16 | 318 => 18 | 319 => 19 | 320 => 20 | 337 => 21 | 338 => 22 | n => n, fun | 3 => 3 | 9 => 9 | 2 => 2 | 4 => 4 | 171 => 35 | 0 => 0 | 53 => 36 | 37 => 22 | 5 => 5 | 173 => 39 | 212 => 42 | 51 => 43 | 20 => 20 | 213 => 44 | 46 => 46 | 232 => 49 | 233 => 50 | n => n, fun | 17 => 0 | 18 => 1 | 19 => 2 | n => n⟩
theorem Tryd.laysM171 : Go.Proofs.LaysM.n171 Tryd.prog Tryd.laysM171_ren := {
  mixed := by kernel_rfl
  f129 := Tryd.func17.trans (congrArg some (by kernel_rfl))
  f171 := Tryd.func9.trans (congrArg some (by kernel_rfl))
  f243 := Tryd.func10.trans (congrArg some (by kernel_rfl))
  f246 := Tryd.func11.trans (congrArg some (by kernel_rfl))
  f283 := Tryd.func12.trans (congrArg some (by kernel_rfl))
  f284 := Tryd.func13.trans (congrArg some (by kernel_rfl))
  f285 := Tryd.func14.trans (congrArg some (by kernel_rfl))
  f286 := Tryd.func15.trans (congrArg some (by kernel_rfl))
  f317 := Tryd.func16.trans (congrArg some (by kernel_rfl))
  f318 := Tryd.func18.trans (congrArg some (by kernel_rfl))
  f319 := Tryd.func19.trans (congrArg some (by kernel_rfl))
  f320 := Tryd.func20.trans (congrArg some (by kernel_rfl))
  f337 := Tryd.func21.trans (congrArg some (by kernel_rfl))
  f338 := Tryd.func22.trans (congrArg some (by kernel_rfl))
  t0 := Tryd.underlying0
  a0 := Tryd.isAgg0
  z0 := Tryd.sizeOf0
  v0 := Tryd.zeroValue0
  t2 := Tryd.underlying2
  a2 := Tryd.isAgg2
  z2 := Tryd.sizeOf2
  v2 := Tryd.zeroValue2
  t3 := Tryd.underlying3
  a3 := Tryd.isAgg3
  z3 := Tryd.sizeOf3
  v3 := Tryd.zeroValue3
  t4 := Tryd.underlying4
  a4 := Tryd.isAgg4
  z4 := Tryd.sizeOf4
  v4 := Tryd.zeroValue4
  t5 := Tryd.underlying5
  a5 := Tryd.isAgg5
  z5 := Tryd.sizeOf5
  v5 := Tryd.zeroValue5
  t9 := Tryd.underlying9
  a9 := Tryd.isAgg9
  z9 := Tryd.sizeOf9
  v9 := Tryd.zeroValue9
  t20 := Tryd.underlying20
  a20 := Tryd.isAgg20
  z20 := Tryd.sizeOf20
  v20 := Tryd.zeroValue20
  t37 := Tryd.underlying22
  a37 := Tryd.isAgg22
  z37 := Tryd.sizeOf22
  v37 := Tryd.zeroValue22
  t46 := Tryd.underlying46
  a46 := Tryd.isAgg46
  z46 := Tryd.sizeOf46
  v46 := Tryd.zeroValue46
  t51 := Tryd.underlying43
  a51 := Tryd.isAgg43
  z51 := Tryd.sizeOf43
  v51 := Tryd.zeroValue43
  t53 := Tryd.underlying36
  a53 := Tryd.isAgg36
  z53 := Tryd.sizeOf36
  v53 := Tryd.zeroValue36
  t171 := Tryd.underlying35
  a171 := Tryd.isAgg35
  z171 := Tryd.sizeOf35
  v171 := Tryd.zeroValue35
  t173 := Tryd.underlying39
  a173 := Tryd.isAgg39
  z173 := Tryd.sizeOf39
  v173 := Tryd.zeroValue39
  t212 := Tryd.underlying42
  a212 := Tryd.isAgg42
  z212 := Tryd.sizeOf42
  v212 := Tryd.zeroValue42
  t213 := Tryd.underlying44
  a213 := Tryd.isAgg44
  z213 := Tryd.sizeOf44
  t232 := Tryd.underlying49
  a232 := Tryd.isAgg49
  z232 := Tryd.sizeOf49
  v232 := Tryd.zeroValue49
  t233 := Tryd.underlying50
  a233 := Tryd.isAgg50
  z233 := Tryd.sizeOf50
  v233 := Tryd.zeroValue50
  g17 := by kernel_rfl
  g18 := by kernel_rfl
  g19 := by kernel_rfl
  i0 := by kernel_rfl
  i2 := by kernel_rfl
  i3 := by kernel_rfl
  i4 := by kernel_rfl
  i5 := by kernel_rfl
  i9 := by kernel_rfl
  i20 := by kernel_rfl
  i37 := by kernel_rfl
  i46 := by kernel_rfl
  i51 := by kernel_rfl
  i53 := by kernel_rfl
  i171 := by kernel_rfl
  i173 := by kernel_rfl
  i212 := by kernel_rfl
  i232 := by kernel_rfl
  i233 := by kernel_rfl
  m17 := by kernel_rfl
  m18 := by kernel_rfl
  m19 := by kernel_rfl }
/-- The name of the table that strconv reads, off the given row. -/
def Tryd.powName : String := Qxb6627545aDoor.Rows.fnMessageIDReadsBackToIDAndLifecycleRow.named.headD default
open Go.RowKit Go.Sort Go.Lib in
/-- strconv.Itoa: the decimal numeral, for every int. (Laid: no walk: one application.) -/
theorem Tryd.strconv_Itoa (n : Int) (h0 : -9223372036854775808 ≤ n) (h1 : n ≤ 9223372036854775807) (w : World) (htab : Lib.TabIs Tryd.prog w Tryd.powName .u64 Lib.pow10Tab) :
    Calls Tryd.prog 9 #[.int .i64 n] w fun e w' => e = .returned (.string ⟨(Lib.itoa n).toArray⟩) ∧ ∃ k os, w' = grow (w.drewN k) os := Any.strconv_Itoa Tryd.laysM171 n h0 h1 w htab
end Go.Proofs
