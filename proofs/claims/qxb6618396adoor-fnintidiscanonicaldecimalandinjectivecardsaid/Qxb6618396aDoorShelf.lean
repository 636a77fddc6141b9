/-
  strconv.FormatInt at base 10: the shelf's contract, laid at this seat's dump in plain words (the kit's lay-shelf.mjs and lay-plain.mjs wrote the table for this program; what this seat does not use is left out).
-/
import Derived.Shelf.LaysM
import Derived.Shelf.Strconv.Itoa4
import Derived.Test.Qxb6618396aDoorRows
namespace Go.Proofs
open Go.Shelf
def Tryd.laysM173_ren : Go.Shelf.Ren := ⟨fun | 173 => 9 | 246 => 10 | 283 => 11 | 284 => 12 | 285 => 13 | 286 => 14 | 129 => 16 | 317 => 15 | 318 => 17 | 319 => 18 | 320 => 19 | 337 => 20 | 338 => 21 | n => n, fun | 2 => 2 | 3 => 3 | 9 => 9 | 4 => 4 | 171 => 35 | 0 => 0 | 53 => 33 | 37 => 38 | 5 => 5 | 173 => 39 | 212 => 43 | 51 => 44 | 20 => 20 | 213 => 45 | 46 => 47 | 232 => 50 | 233 => 51 | n => n, fun | 17 => 0 | 18 => 1 | 19 => 2 | n => n⟩
theorem Tryd.laysM173 : Go.Proofs.LaysM.n173 Tryd.prog Tryd.laysM173_ren := {
  mixed := by kernel_rfl
  f129 := Tryd.func16.trans (congrArg some (by kernel_rfl))
  f173 := Tryd.func9.trans (congrArg some (by kernel_rfl))
  f246 := Tryd.func10.trans (congrArg some (by kernel_rfl))
  f283 := Tryd.func11.trans (congrArg some (by kernel_rfl))
  f284 := Tryd.func12.trans (congrArg some (by kernel_rfl))
  f285 := Tryd.func13.trans (congrArg some (by kernel_rfl))
  f286 := Tryd.func14.trans (congrArg some (by kernel_rfl))
  f317 := Tryd.func15.trans (congrArg some (by kernel_rfl))
  f318 := Tryd.func17.trans (congrArg some (by kernel_rfl))
  f319 := Tryd.func18.trans (congrArg some (by kernel_rfl))
  f320 := Tryd.func19.trans (congrArg some (by kernel_rfl))
  f337 := Tryd.func20.trans (congrArg some (by kernel_rfl))
  f338 := Tryd.func21.trans (congrArg some (by kernel_rfl))
  t0 := Tryd.underlying0
  a0 := Tryd.isAgg0
  z0 := Tryd.sizeOf0
  v0 := Tryd.zeroValue0
  t2 := Tryd.underlying2
  a2 := Tryd.isAgg2
  z2 := Tryd.sizeOf2
  v2 := Tryd.zeroValue2
  t3 := Tryd.underlying3
  a3 := Tryd.isAgg3
  z3 := Tryd.sizeOf3
  v3 := Tryd.zeroValue3
  t4 := Tryd.underlying4
  a4 := Tryd.isAgg4
  z4 := Tryd.sizeOf4
  v4 := Tryd.zeroValue4
  t5 := Tryd.underlying5
  a5 := Tryd.isAgg5
  z5 := Tryd.sizeOf5
  v5 := Tryd.zeroValue5
  t9 := Tryd.underlying9
  a9 := Tryd.isAgg9
  z9 := Tryd.sizeOf9
  v9 := Tryd.zeroValue9
  t20 := Tryd.underlying20
  a20 := Tryd.isAgg20
  z20 := Tryd.sizeOf20
  v20 := Tryd.zeroValue20
  t37 := Tryd.underlying38
  a37 := Tryd.isAgg38
  z37 := Tryd.sizeOf38
  v37 := Tryd.zeroValue38
  t46 := Tryd.underlying47
  a46 := Tryd.isAgg47
  z46 := Tryd.sizeOf47
  v46 := Tryd.zeroValue47
  t51 := Tryd.underlying44
  a51 := Tryd.isAgg44
  z51 := Tryd.sizeOf44
  v51 := Tryd.zeroValue44
  t53 := Tryd.underlying33
  a53 := Tryd.isAgg33
  z53 := Tryd.sizeOf33
  v53 := Tryd.zeroValue33
  t171 := Tryd.underlying35
  a171 := Tryd.isAgg35
  z171 := Tryd.sizeOf35
  v171 := Tryd.zeroValue35
  t173 := Tryd.underlying39
  a173 := Tryd.isAgg39
  z173 := Tryd.sizeOf39
  v173 := Tryd.zeroValue39
  t212 := Tryd.underlying43
  a212 := Tryd.isAgg43
  z212 := Tryd.sizeOf43
  v212 := Tryd.zeroValue43
  t213 := Tryd.underlying45
  a213 := Tryd.isAgg45
  z213 := Tryd.sizeOf45
  t232 := Tryd.underlying50
  a232 := Tryd.isAgg50
  z232 := Tryd.sizeOf50
  v232 := Tryd.zeroValue50
  t233 := Tryd.underlying51
  a233 := Tryd.isAgg51
  z233 := Tryd.sizeOf51
  v233 := Tryd.zeroValue51
  g17 := by kernel_rfl
  g18 := by kernel_rfl
  g19 := by kernel_rfl
  i0 := by kernel_rfl
  i2 := by kernel_rfl
  i3 := by kernel_rfl
  i4 := by kernel_rfl
  i5 := by kernel_rfl
  i9 := by kernel_rfl
  i20 := by kernel_rfl
  i37 := by kernel_rfl
  i46 := by kernel_rfl
  i51 := by kernel_rfl
  i53 := by kernel_rfl
  i171 := by kernel_rfl
  i173 := by kernel_rfl
  i212 := by kernel_rfl
  i232 := by kernel_rfl
  i233 := by kernel_rfl
  m17 := by kernel_rfl
  m18 := by kernel_rfl
  m19 := by kernel_rfl }

namespace Qxb6618396aDoor
/-- The name of the table of powers of ten, as the row bears it. -/
def tabName : String := (Rows.fnIntIDNegationAddsMinusSignRow.named.headD "")

/-- strconv.FormatInt(n, 10): the decimal text of n; new blocks and draws alone. -/
theorem fmtInt (n : Int) (h0 : -9223372036854775808 ≤ n) (h1 : n ≤ 9223372036854775807) (w : World) (htab : Lib.TabIs Tryd.prog w tabName .u64 Lib.pow10Tab) :
    Calls Tryd.prog 9 #[.int .i64 n, .int .i64 10] w fun e w' => e = .returned (.string ⟨(Lib.itoa n).toArray⟩) ∧ ∃ k os, w' = Sort.grow (w.drewN k) os :=
  Any.strconv_FormatInt_10 Tryd.laysM173 n h0 h1 w htab
end Qxb6618396aDoor
end Go.Proofs
