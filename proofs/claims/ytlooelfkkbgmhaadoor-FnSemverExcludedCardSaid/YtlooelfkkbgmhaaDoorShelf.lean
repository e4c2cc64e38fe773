/-
  DERIVED: THE SHELF's CONTRACTS AT THIS DUMP, IN PLAIN WORDS (tools/lay-plain.mjs out of 'TrydShelf.lean', which tools/lay-shelf.mjs wrote): THE SAME DECLARATIONS UNDER THE SAME NAMES: 'import', 'namespace', 'open', 'def', 'theorem' AND NOTHING ELSE: no command of the shelf's: FOR A HAND-IN. Each laying: the table of numbers ('.._ren') and one theorem, a field a fact of the dump's own or the kernel's comparison; each contract: ONE APPLICATION.
-/
import Derived.Ground.MpProg
import Derived.Shelf.Pu.ParseUintPublic10
import Derived.Shelf.Pu.ErrVarParseUint
import Derived.Test.YtlooelfkkbgmhaaDoorProg
namespace Go.Proofs
open Go.Shelf
def Tryd.laysPu14_ren : Go.Shelf.Ren := ⟨fun | 14 => 137 | 16 => 143 | 17 => 144 | 19 => 150 | 20 => 151 | 21 => 152 | 22 => 153 | 23 => 154 | 24 => 155 | 25 => 161 | 27 => 162 | 26 => 139 | 28 => 165 | 29 => 166 | 30 => 146 | 31 => 147 | 32 => 148 | 33 => 149 | 35 => 157 | 34 => 156 | 36 => 158 | 37 => 159 | 38 => 160 | 39 => 163 | 40 => 164 | n => n, fun | 9 => 9 | 3 => 3 | 22 => 22 | 24 => 82 | 25 => 120 | 4 => 4 | 34 => 136 | 5 => 5 | 36 => 43 | 37 => 42 | 0 => 0 | 39 => 138 | 21 => 21 | 44 => 149 | 47 => 151 | 50 => 130 | 48 => 128 | 2 => 2 | 52 => 131 | 55 => 134 | 59 => 142 | 60 => 143 | 20 => 20 | 61 => 144 | 65 => 152 | 66 => 153 | 67 => 105 | n => n, fun | 0 => 1 | 1 => 2 | 2 => 0 | 3 => 3 | 4 => 4 | n => n⟩
theorem Tryd.laysPu14 : Go.Proofs.LaysPu.n14 Tryd.prog Tryd.laysPu14_ren := {
  mixed := by kernel_rfl
  f14 := Tryd.func137.trans (congrArg some (by kernel_rfl))
  f16 := Tryd.func143.trans (congrArg some (by kernel_rfl))
  f17 := Tryd.func144.trans (congrArg some (by kernel_rfl))
  f19 := Tryd.func150.trans (congrArg some (by kernel_rfl))
  f20 := Tryd.func151.trans (congrArg some (by kernel_rfl))
  f21 := Tryd.func152.trans (congrArg some (by kernel_rfl))
  f22 := Tryd.func153.trans (congrArg some (by kernel_rfl))
  f23 := Tryd.func154.trans (congrArg some (by kernel_rfl))
  f24 := Tryd.func155.trans (congrArg some (by kernel_rfl))
  f25 := Tryd.func161.trans (congrArg some (by kernel_rfl))
  f26 := Tryd.func139.trans (congrArg some (by kernel_rfl))
  f27 := Tryd.func162.trans (congrArg some (by kernel_rfl))
  f28 := Tryd.func165.trans (congrArg some (by kernel_rfl))
  f29 := Tryd.func166.trans (congrArg some (by kernel_rfl))
  f30 := Tryd.func146.trans (congrArg some (by kernel_rfl))
  f31 := Tryd.func147.trans (congrArg some (by kernel_rfl))
  f32 := Tryd.func148.trans (congrArg some (by kernel_rfl))
  f33 := Tryd.func149.trans (congrArg some (by kernel_rfl))
  f34 := Tryd.func156.trans (congrArg some (by kernel_rfl))
  f35 := Tryd.func157.trans (congrArg some (by kernel_rfl))
  f36 := Tryd.func158.trans (congrArg some (by kernel_rfl))
  f37 := Tryd.func159.trans (congrArg some (by kernel_rfl))
  f38 := Tryd.func160.trans (congrArg some (by kernel_rfl))
  f39 := Tryd.func163.trans (congrArg some (by kernel_rfl))
  f40 := Tryd.func164.trans (congrArg some (by kernel_rfl))
  t0 := Tryd.underlying0
  a0 := Tryd.isAgg0
  z0 := Tryd.sizeOf0
  v0 := Tryd.zeroValue0
  i0 := by kernel_rfl
  t2 := Tryd.underlying2
  a2 := Tryd.isAgg2
  z2 := Tryd.sizeOf2
  v2 := Tryd.zeroValue2
  i2 := by kernel_rfl
  t3 := Tryd.underlying3
  a3 := Tryd.isAgg3
  z3 := Tryd.sizeOf3
  v3 := Tryd.zeroValue3
  i3 := by kernel_rfl
  t4 := Tryd.underlying4
  a4 := Tryd.isAgg4
  z4 := Tryd.sizeOf4
  v4 := Tryd.zeroValue4
  i4 := by kernel_rfl
  t5 := Tryd.underlying5
  a5 := Tryd.isAgg5
  z5 := Tryd.sizeOf5
  v5 := Tryd.zeroValue5
  i5 := by kernel_rfl
  t9 := Tryd.underlying9
  a9 := Tryd.isAgg9
  z9 := Tryd.sizeOf9
  v9 := Tryd.zeroValue9
  i9 := by kernel_rfl
  t20 := Tryd.underlying20
  a20 := Tryd.isAgg20
  z20 := Tryd.sizeOf20
  v20 := Tryd.zeroValue20
  i20 := by kernel_rfl
  t21 := Tryd.underlying21
  a21 := Tryd.isAgg21
  z21 := Tryd.sizeOf21
  v21 := Tryd.zeroValue21
  i21 := by kernel_rfl
  t22 := Tryd.underlying22
  a22 := Tryd.isAgg22
  z22 := Tryd.sizeOf22
  v22 := Tryd.zeroValue22
  i22 := by kernel_rfl
  t24 := Tryd.underlying82
  a24 := Tryd.isAgg82
  z24 := Tryd.sizeOf82
  v24 := Tryd.zeroValue82
  i24 := by kernel_rfl
  t25 := Tryd.underlying120
  a25 := Tryd.isAgg120
  z25 := Tryd.sizeOf120
  v25 := Tryd.zeroValue120
  i25 := by kernel_rfl
  t34 := Tryd.underlying136
  a34 := Tryd.isAgg136
  z34 := Tryd.sizeOf136
  v34 := Tryd.zeroValue136
  i34 := by kernel_rfl
  c34 := by kernel_rfl
  t36 := Tryd.underlying43
  a36 := Tryd.isAgg43
  z36 := Tryd.sizeOf43
  v36 := Tryd.zeroValue43
  i36 := by kernel_rfl
  t37 := Tryd.underlying42
  a37 := Tryd.isAgg42
  z37 := Tryd.sizeOf42
  v37 := Tryd.zeroValue42
  i37 := by kernel_rfl
  t39 := Tryd.underlying138
  a39 := Tryd.isAgg138
  z39 := Tryd.sizeOf138
  v39 := Tryd.zeroValue138
  i39 := by kernel_rfl
  t44 := Tryd.underlying149
  a44 := Tryd.isAgg149
  z44 := Tryd.sizeOf149
  v44 := Tryd.zeroValue149
  i44 := by kernel_rfl
  t47 := Tryd.underlying151
  a47 := Tryd.isAgg151
  z47 := Tryd.sizeOf151
  v47 := Tryd.zeroValue151
  i47 := by kernel_rfl
  t48 := Tryd.underlying128
  a48 := Tryd.isAgg128
  z48 := Tryd.sizeOf128
  v48 := Tryd.zeroValue128
  i48 := by kernel_rfl
  t50 := Tryd.underlying130
  a50 := Tryd.isAgg130
  z50 := Tryd.sizeOf130
  v50 := Tryd.zeroValue130
  i50 := by kernel_rfl
  t52 := Tryd.underlying131
  a52 := Tryd.isAgg131
  z52 := Tryd.sizeOf131
  v52 := Tryd.zeroValue131
  i52 := by kernel_rfl
  t55 := Tryd.underlying134
  a55 := Tryd.isAgg134
  z55 := Tryd.sizeOf134
  v55 := Tryd.zeroValue134
  i55 := by kernel_rfl
  t59 := Tryd.underlying142
  a59 := Tryd.isAgg142
  z59 := Tryd.sizeOf142
  v59 := Tryd.zeroValue142
  i59 := by kernel_rfl
  t60 := Tryd.underlying143
  a60 := Tryd.isAgg143
  z60 := Tryd.sizeOf143
  v60 := Tryd.zeroValue143
  i60 := by kernel_rfl
  t61 := Tryd.underlying144
  a61 := Tryd.isAgg144
  z61 := Tryd.sizeOf144
  t65 := Tryd.underlying152
  a65 := Tryd.isAgg152
  z65 := Tryd.sizeOf152
  v65 := Tryd.zeroValue152
  i65 := by kernel_rfl
  t66 := Tryd.underlying153
  a66 := Tryd.isAgg153
  z66 := Tryd.sizeOf153
  v66 := Tryd.zeroValue153
  i66 := by kernel_rfl
  t67 := Tryd.underlying105
  a67 := Tryd.isAgg105
  z67 := Tryd.sizeOf105
  v67 := Tryd.zeroValue105
  i67 := by kernel_rfl
  g0 := by kernel_rfl
  m0 := by kernel_rfl
  g1 := by kernel_rfl
  m1 := by kernel_rfl
  g2 := by kernel_rfl
  m2 := by kernel_rfl
  g3 := by kernel_rfl
  m3 := by kernel_rfl
  g4 := by kernel_rfl
  m4 := by kernel_rfl }
open Go.RowKit in
/-- strconv.ParseUint(s, 10, 64), AT EVERY STRING THAT SPELLS A uint64 ('Lib.parseUintB 64 s.data.toList = .ok u'): u, AND NO ERROR. (LAID: no walk: one application.) -/
theorem Tryd.strconv_ParseUint_10_at64_ok (s : ByteArray) (hmax : s.size ≤ 9223372036854775806) (u : Nat) (h : Lib.parseUintB 64 s.data.toList = .ok u) (w : World) :
    Calls Tryd.prog 137 #[.string s, .int .i64 10, .int .i64 64] w fun e w' => e = .returned (.tuple #[.int .u64 u, .nilIface]) ∧ (w' = w ∨ w' = Lib.bytesWorld w 5 s) := Any.strconv_ParseUint_10_at64_ok Tryd.laysPu14 s hmax u h w
open Go.RowKit in
theorem Tryd.strconv_ParseUint_10_at64_nodigits_var (s : ByteArray) (hlim : s.size ≤ 281474976710656) (h : Lib.parseUintB 64 s.data.toList = Lib.parseUintB 64 []) (tp : TypeId) (p : Value) (w : World) (hvar : w.var? Tryd.prog "strconv.ErrSyntax" = some #[.iface tp p]) :
    Calls Tryd.prog 137 #[.string s, .int .i64 10, .int .i64 64] w fun e w' => ∃ N, e = .returned (.tuple #[.int .u64 0, .iface 138 (.pointer (some ⟨N, 0, none⟩))]) ∧ w.heap.size ≤ N ∧ w'.heap[N]? = some (.cells #[.string ⟨#[80, 97, 114, 115, 101, 85, 105, 110, 116]⟩, .string s, .iface tp p] 149 (0, 0)) ∧ Below w.heap.size w w' := Any.strconv_ParseUint_10_at64_syntax_var Tryd.laysPu14 s hlim (h.trans (by unfold Lib.parseUintB; exact if_pos rfl)) tp p w hvar
open Go.RowKit in
theorem Tryd.strconv_ParseUint_10_at64_range_var (s : ByteArray) (hlim : s.size ≤ 281474976710656) (h : Lib.parseUintB 64 s.data.toList = .range) (tp : TypeId) (p : Value) (w : World) (hvar : w.var? Tryd.prog "strconv.ErrRange" = some #[.iface tp p]) :
    Calls Tryd.prog 137 #[.string s, .int .i64 10, .int .i64 64] w fun e w' => ∃ N, e = .returned (.tuple #[.int .u64 18446744073709551615, .iface 138 (.pointer (some ⟨N, 0, none⟩))]) ∧ w.heap.size ≤ N ∧ w'.heap[N]? = some (.cells #[.string ⟨#[80, 97, 114, 115, 101, 85, 105, 110, 116]⟩, .string s, .iface tp p] 149 (0, 0)) ∧ Below w.heap.size w w' := Any.strconv_ParseUint_10_at64_range_var Tryd.laysPu14 s hlim h tp p w hvar
end Go.Proofs
