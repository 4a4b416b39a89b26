/-
  strconv.FormatInt at base 10, by the contract of the library, laid at this dump (lay-shelf.mjs, lay-plain.mjs), the one that is used.
-/
import Derived.Shelf.LaysM
import Derived.Shelf.Strconv.Itoa4
import Derived.Test.Qxb6627960aFmtProg
namespace Go.Proofs
open Go.Shelf
def Tryf.laysM173_ren : Go.Shelf.Ren := ⟨fun | 173 => 13 | 246 => 15 | 283 => 16 | 284 => 17 | 285 => 18 | 286 => 19 | 129 => 21 | 317 => 20 | 318 => 22 | 319 => 23 | 320 => 24 | 337 => 25 | 338 => 26 | n => n, fun | 2 => 2 | 3 => 3 | 9 => 9 | 4 => 4 | 171 => 36 | 0 => 0 | 53 => 26 | 37 => 38 | 5 => 5 | 173 => 39 | 212 => 43 | 51 => 44 | 20 => 20 | 213 => 45 | 46 => 47 | 232 => 50 | 233 => 51 | n => n, fun | 17 => 0 | 18 => 1 | 19 => 2 | n => n⟩
theorem Tryf.laysM173 : Go.Proofs.LaysM.n173 Tryf.prog Tryf.laysM173_ren := {
  mixed := by kernel_rfl
  f129 := Tryf.func21.trans (congrArg some (by kernel_rfl))
  f173 := Tryf.func13.trans (congrArg some (by kernel_rfl))
  f246 := Tryf.func15.trans (congrArg some (by kernel_rfl))
  f283 := Tryf.func16.trans (congrArg some (by kernel_rfl))
  f284 := Tryf.func17.trans (congrArg some (by kernel_rfl))
  f285 := Tryf.func18.trans (congrArg some (by kernel_rfl))
  f286 := Tryf.func19.trans (congrArg some (by kernel_rfl))
  f317 := Tryf.func20.trans (congrArg some (by kernel_rfl))
  f318 := Tryf.func22.trans (congrArg some (by kernel_rfl))
  f319 := Tryf.func23.trans (congrArg some (by kernel_rfl))
  f320 := Tryf.func24.trans (congrArg some (by kernel_rfl))
  f337 := Tryf.func25.trans (congrArg some (by kernel_rfl))
  f338 := Tryf.func26.trans (congrArg some (by kernel_rfl))
  t0 := Tryf.underlying0
  a0 := Tryf.isAgg0
  z0 := Tryf.sizeOf0
  v0 := Tryf.zeroValue0
  t2 := Tryf.underlying2
  a2 := Tryf.isAgg2
  z2 := Tryf.sizeOf2
  v2 := Tryf.zeroValue2
  t3 := Tryf.underlying3
  a3 := Tryf.isAgg3
  z3 := Tryf.sizeOf3
  v3 := Tryf.zeroValue3
  t4 := Tryf.underlying4
  a4 := Tryf.isAgg4
  z4 := Tryf.sizeOf4
  v4 := Tryf.zeroValue4
  t5 := Tryf.underlying5
  a5 := Tryf.isAgg5
  z5 := Tryf.sizeOf5
  v5 := Tryf.zeroValue5
  t9 := Tryf.underlying9
  a9 := Tryf.isAgg9
  z9 := Tryf.sizeOf9
  v9 := Tryf.zeroValue9
  t20 := Tryf.underlying20
  a20 := Tryf.isAgg20
  z20 := Tryf.sizeOf20
  v20 := Tryf.zeroValue20
  t37 := Tryf.underlying38
  a37 := Tryf.isAgg38
  z37 := Tryf.sizeOf38
  v37 := Tryf.zeroValue38
  t46 := Tryf.underlying47
  a46 := Tryf.isAgg47
  z46 := Tryf.sizeOf47
  v46 := Tryf.zeroValue47
  t51 := Tryf.underlying44
  a51 := Tryf.isAgg44
  z51 := Tryf.sizeOf44
  v51 := Tryf.zeroValue44
  t53 := Tryf.underlying26
  a53 := Tryf.isAgg26
  z53 := Tryf.sizeOf26
  v53 := Tryf.zeroValue26
  t171 := Tryf.underlying36
  a171 := Tryf.isAgg36
  z171 := Tryf.sizeOf36
  v171 := Tryf.zeroValue36
  t173 := Tryf.underlying39
  a173 := Tryf.isAgg39
  z173 := Tryf.sizeOf39
  v173 := Tryf.zeroValue39
  t212 := Tryf.underlying43
  a212 := Tryf.isAgg43
  z212 := Tryf.sizeOf43
  v212 := Tryf.zeroValue43
  t213 := Tryf.underlying45
  a213 := Tryf.isAgg45
  z213 := Tryf.sizeOf45
  t232 := Tryf.underlying50
  a232 := Tryf.isAgg50
  z232 := Tryf.sizeOf50
  v232 := Tryf.zeroValue50
  t233 := Tryf.underlying51
  a233 := Tryf.isAgg51
  z233 := Tryf.sizeOf51
  v233 := Tryf.zeroValue51
  g17 := by kernel_rfl
  g18 := by kernel_rfl
  g19 := by kernel_rfl
  i0 := by kernel_rfl
  i2 := by kernel_rfl
  i3 := by kernel_rfl
  i4 := by kernel_rfl
  i5 := by kernel_rfl
  i9 := by kernel_rfl
  i20 := by kernel_rfl
  i37 := by kernel_rfl
  i46 := by kernel_rfl
  i51 := by kernel_rfl
  i53 := by kernel_rfl
  i171 := by kernel_rfl
  i173 := by kernel_rfl
  i212 := by kernel_rfl
  i232 := by kernel_rfl
  i233 := by kernel_rfl
  m17 := by kernel_rfl
  m18 := by kernel_rfl
  m19 := by kernel_rfl }
open Go.RowKit Go.Sort Go.Lib in
/-- strconv.FormatInt: "FormatInt returns the string representation of i in the given base": AT BASE 10: i's decimal numeral, for every int64. (LAID: no walk: one application.) -/
theorem Tryf.strconv_FormatInt_10 (n : Int) (h0 : -9223372036854775808 ≤ n) (h1 : n ≤ 9223372036854775807) (w : World) (htab : Lib.TabIs Tryf.prog w "internal/strconv.uint64pow10" .u64 Lib.pow10Tab) :
    Calls Tryf.prog 13 #[.int .i64 n, .int .i64 10] w fun e w' => e = .returned (.string ⟨(Lib.itoa n).toArray⟩) ∧ ∃ k os, w' = grow (w.drewN k) os := Any.strconv_FormatInt_10 Tryf.laysM173 n h0 h1 w htab
end Go.Proofs
