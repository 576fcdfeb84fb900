/- The shelf's contract of 'strconv.FormatInt' at base ten, laid at this program (printed by the kit's lay-shelf.mjs and lay-plain.mjs, cut to this one). -/
import Derived.Shelf.Strconv.Itoa4
import Derived.Test.YtlhcgkocnckddaaDoorProg
namespace Go.Proofs
open Go.Shelf
def Tryd.laysM173_ren : Go.Shelf.Ren := ⟨fun | 173 => 6 | 246 => 9 | 283 => 11 | 284 => 12 | 285 => 13 | 286 => 14 | 129 => 18 | 317 => 17 | 318 => 19 | 319 => 20 | 320 => 21 | 337 => 22 | 338 => 23 | n => n, fun | 2 => 2 | 3 => 3 | 9 => 9 | 4 => 4 | 171 => 33 | 0 => 0 | 53 => 34 | 37 => 37 | 5 => 5 | 173 => 38 | 212 => 44 | 51 => 45 | 20 => 20 | 213 => 46 | 46 => 48 | 232 => 51 | 233 => 52 | n => n, fun | 17 => 1 | 18 => 2 | 19 => 3 | n => n⟩
theorem Tryd.laysM173 : Go.Proofs.LaysM.n173 Tryd.prog Tryd.laysM173_ren := {
  mixed := by kernel_rfl
  f129 := Tryd.func18.trans (congrArg some (by kernel_rfl))
  f173 := Tryd.func6.trans (congrArg some (by kernel_rfl))
  f246 := Tryd.func9.trans (congrArg some (by kernel_rfl))
  f283 := Tryd.func11.trans (congrArg some (by kernel_rfl))
  f284 := Tryd.func12.trans (congrArg some (by kernel_rfl))
  f285 := Tryd.func13.trans (congrArg some (by kernel_rfl))
  f286 := Tryd.func14.trans (congrArg some (by kernel_rfl))
  f317 := Tryd.func17.trans (congrArg some (by kernel_rfl))
  f318 := Tryd.func19.trans (congrArg some (by kernel_rfl))
  f319 := Tryd.func20.trans (congrArg some (by kernel_rfl))
  f320 := Tryd.func21.trans (congrArg some (by kernel_rfl))
  f337 := Tryd.func22.trans (congrArg some (by kernel_rfl))
  f338 := Tryd.func23.trans (congrArg some (by kernel_rfl))
  t0 := Tryd.underlying0
  a0 := Tryd.isAgg0
  z0 := Tryd.sizeOf0
  v0 := Tryd.zeroValue0
  t2 := Tryd.underlying2
  a2 := Tryd.isAgg2
  z2 := Tryd.sizeOf2
  v2 := Tryd.zeroValue2
  t3 := Tryd.underlying3
  a3 := Tryd.isAgg3
  z3 := Tryd.sizeOf3
  v3 := Tryd.zeroValue3
  t4 := Tryd.underlying4
  a4 := Tryd.isAgg4
  z4 := Tryd.sizeOf4
  v4 := Tryd.zeroValue4
  t5 := Tryd.underlying5
  a5 := Tryd.isAgg5
  z5 := Tryd.sizeOf5
  v5 := Tryd.zeroValue5
  t9 := Tryd.underlying9
  a9 := Tryd.isAgg9
  z9 := Tryd.sizeOf9
  v9 := Tryd.zeroValue9
  t20 := Tryd.underlying20
  a20 := Tryd.isAgg20
  z20 := Tryd.sizeOf20
  v20 := Tryd.zeroValue20
  t37 := Tryd.underlying37
  a37 := Tryd.isAgg37
  z37 := Tryd.sizeOf37
  v37 := Tryd.zeroValue37
  t46 := Tryd.underlying48
  a46 := Tryd.isAgg48
  z46 := Tryd.sizeOf48
  v46 := Tryd.zeroValue48
  t51 := Tryd.underlying45
  a51 := Tryd.isAgg45
  z51 := Tryd.sizeOf45
  v51 := Tryd.zeroValue45
  t53 := Tryd.underlying34
  a53 := Tryd.isAgg34
  z53 := Tryd.sizeOf34
  v53 := Tryd.zeroValue34
  t171 := Tryd.underlying33
  a171 := Tryd.isAgg33
  z171 := Tryd.sizeOf33
  v171 := Tryd.zeroValue33
  t173 := Tryd.underlying38
  a173 := Tryd.isAgg38
  z173 := Tryd.sizeOf38
  v173 := Tryd.zeroValue38
  t212 := Tryd.underlying44
  a212 := Tryd.isAgg44
  z212 := Tryd.sizeOf44
  v212 := Tryd.zeroValue44
  t213 := Tryd.underlying46
  a213 := Tryd.isAgg46
  z213 := Tryd.sizeOf46
  t232 := Tryd.underlying51
  a232 := Tryd.isAgg51
  z232 := Tryd.sizeOf51
  v232 := Tryd.zeroValue51
  t233 := Tryd.underlying52
  a233 := Tryd.isAgg52
  z233 := Tryd.sizeOf52
  v233 := Tryd.zeroValue52
  g17 := by kernel_rfl
  g18 := by kernel_rfl
  g19 := by kernel_rfl
  i0 := by kernel_rfl
  i2 := by kernel_rfl
  i3 := by kernel_rfl
  i4 := by kernel_rfl
  i5 := by kernel_rfl
  i9 := by kernel_rfl
  i20 := by kernel_rfl
  i37 := by kernel_rfl
  i46 := by kernel_rfl
  i51 := by kernel_rfl
  i53 := by kernel_rfl
  i171 := by kernel_rfl
  i173 := by kernel_rfl
  i212 := by kernel_rfl
  i232 := by kernel_rfl
  i233 := by kernel_rfl
  m17 := by kernel_rfl
  m18 := by kernel_rfl
  m19 := by kernel_rfl }
open Go.RowKit Go.Sort Go.Lib in
/-- strconv.FormatInt: "FormatInt returns the string representation of i in the given base": AT BASE 10: i's decimal numeral, for every int64. (LAID: no walk: one application.) -/
theorem Tryd.strconv_FormatInt_10 (n : Int) (h0 : -9223372036854775808 ≤ n) (h1 : n ≤ 9223372036854775807) (w : World) (htab : Lib.TabIs Tryd.prog w "internal/strconv.uint64pow10" .u64 Lib.pow10Tab) :
    Calls Tryd.prog 6 #[.int .i64 n, .int .i64 10] w fun e w' => e = .returned (.string ⟨(Lib.itoa n).toArray⟩) ∧ ∃ k os, w' = grow (w.drewN k) os := Any.strconv_FormatInt_10 Tryd.laysM173 n h0 h1 w htab
end Go.Proofs
