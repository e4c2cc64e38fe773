/-
  The contract of strconv.Itoa at this program (the shelf's, laid in plain words by its own tools; the others struck).
-/
import Derived.Shelf.LaysM
import Derived.Shelf.Strconv.Itoa3
import Derived.Test.YtlbcgknjliihjaaDoorProg
namespace Go.Proofs
open Go.Shelf
def Tryd.laysM171_ren : Go.Shelf.Ren := ⟨fun | 171 => 10 | 243 => 14 | 246 => 18 | 283 => 38 | 284 => 39 | 285 => 40 | 286 => 41 | 129 => 58 | 317 => 57 | 318 => 59 | 319 => 60 | 320 => 61 | 337 => 66 | 338 => 67 | n => n, fun | 3 => 3 | 9 => 9 | 2 => 2 | 4 => 4 | 171 => 80 | 0 => 0 | 53 => 26 | 37 => 83 | 5 => 5 | 173 => 84 | 212 => 113 | 51 => 114 | 20 => 20 | 213 => 115 | 46 => 57 | 232 => 138 | 233 => 139 | n => n, fun | 17 => 1 | 18 => 5 | 19 => 6 | n => n⟩
theorem Tryd.laysM171 : Go.Proofs.LaysM.n171 Tryd.prog Tryd.laysM171_ren := {
  mixed := by kernel_rfl
  f129 := Tryd.func58.trans (congrArg some (by kernel_rfl))
  f171 := Tryd.func10.trans (congrArg some (by kernel_rfl))
  f243 := Tryd.func14.trans (congrArg some (by kernel_rfl))
  f246 := Tryd.func18.trans (congrArg some (by kernel_rfl))
  f283 := Tryd.func38.trans (congrArg some (by kernel_rfl))
  f284 := Tryd.func39.trans (congrArg some (by kernel_rfl))
  f285 := Tryd.func40.trans (congrArg some (by kernel_rfl))
  f286 := Tryd.func41.trans (congrArg some (by kernel_rfl))
  f317 := Tryd.func57.trans (congrArg some (by kernel_rfl))
  f318 := Tryd.func59.trans (congrArg some (by kernel_rfl))
  f319 := Tryd.func60.trans (congrArg some (by kernel_rfl))
  f320 := Tryd.func61.trans (congrArg some (by kernel_rfl))
  f337 := Tryd.func66.trans (congrArg some (by kernel_rfl))
  f338 := Tryd.func67.trans (congrArg some (by kernel_rfl))
  t0 := Tryd.underlying0
  a0 := Tryd.isAgg0
  z0 := Tryd.sizeOf0
  v0 := Tryd.zeroValue0
  t2 := Tryd.underlying2
  a2 := Tryd.isAgg2
  z2 := Tryd.sizeOf2
  v2 := Tryd.zeroValue2
  t3 := Tryd.underlying3
  a3 := Tryd.isAgg3
  z3 := Tryd.sizeOf3
  v3 := Tryd.zeroValue3
  t4 := Tryd.underlying4
  a4 := Tryd.isAgg4
  z4 := Tryd.sizeOf4
  v4 := Tryd.zeroValue4
  t5 := Tryd.underlying5
  a5 := Tryd.isAgg5
  z5 := Tryd.sizeOf5
  v5 := Tryd.zeroValue5
  t9 := Tryd.underlying9
  a9 := Tryd.isAgg9
  z9 := Tryd.sizeOf9
  v9 := Tryd.zeroValue9
  t20 := Tryd.underlying20
  a20 := Tryd.isAgg20
  z20 := Tryd.sizeOf20
  v20 := Tryd.zeroValue20
  t37 := Tryd.underlying83
  a37 := Tryd.isAgg83
  z37 := Tryd.sizeOf83
  v37 := Tryd.zeroValue83
  t46 := Tryd.underlying57
  a46 := Tryd.isAgg57
  z46 := Tryd.sizeOf57
  v46 := Tryd.zeroValue57
  t51 := Tryd.underlying114
  a51 := Tryd.isAgg114
  z51 := Tryd.sizeOf114
  v51 := Tryd.zeroValue114
  t53 := Tryd.underlying26
  a53 := Tryd.isAgg26
  z53 := Tryd.sizeOf26
  v53 := Tryd.zeroValue26
  t171 := Tryd.underlying80
  a171 := Tryd.isAgg80
  z171 := Tryd.sizeOf80
  v171 := Tryd.zeroValue80
  t173 := Tryd.underlying84
  a173 := Tryd.isAgg84
  z173 := Tryd.sizeOf84
  v173 := Tryd.zeroValue84
  t212 := Tryd.underlying113
  a212 := Tryd.isAgg113
  z212 := Tryd.sizeOf113
  v212 := Tryd.zeroValue113
  t213 := Tryd.underlying115
  a213 := Tryd.isAgg115
  z213 := Tryd.sizeOf115
  t232 := Tryd.underlying138
  a232 := Tryd.isAgg138
  z232 := Tryd.sizeOf138
  v232 := Tryd.zeroValue138
  t233 := Tryd.underlying139
  a233 := Tryd.isAgg139
  z233 := Tryd.sizeOf139
  v233 := Tryd.zeroValue139
  g17 := by kernel_rfl
  g18 := by kernel_rfl
  g19 := by kernel_rfl
  i0 := by kernel_rfl
  i2 := by kernel_rfl
  i3 := by kernel_rfl
  i4 := by kernel_rfl
  i5 := by kernel_rfl
  i9 := by kernel_rfl
  i20 := by kernel_rfl
  i37 := by kernel_rfl
  i46 := by kernel_rfl
  i51 := by kernel_rfl
  i53 := by kernel_rfl
  i171 := by kernel_rfl
  i173 := by kernel_rfl
  i212 := by kernel_rfl
  i232 := by kernel_rfl
  i233 := by kernel_rfl
  m17 := by kernel_rfl
  m18 := by kernel_rfl
  m19 := by kernel_rfl }
open Go.RowKit Go.Sort Go.Lib in
open Go.RowKit Go.Sort Go.Lib in
/-- strconv.Itoa: "Itoa is equivalent to FormatInt(int64(i), 10).": i's DECIMAL NUMERAL ('Lib.itoa': a '-' where i is negative, then the digits), FOR EVERY int. The world behind the call: the world before it, new blocks behind the heap (the library's 'var a [24]byte'), draws. (LAID: no walk: one application.) -/
theorem Tryd.strconv_Itoa (n : Int) (h0 : -9223372036854775808 ≤ n) (h1 : n ≤ 9223372036854775807) (w : World) (htab : Lib.TabIs Tryd.prog w "internal/strconv.uint64pow10" .u64 Lib.pow10Tab) :
    Calls Tryd.prog 10 #[.int .i64 n] w fun e w' => e = .returned (.string ⟨(Lib.itoa n).toArray⟩) ∧ ∃ k os, w' = grow (w.drewN k) os := Any.strconv_Itoa Tryd.laysM171 n h0 h1 w htab
end Go.Proofs
