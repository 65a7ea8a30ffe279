/-
  DERIVED: THE SHELF's CONTRACTS AT THIS DUMP, IN PLAIN WORDS (tools/lay-plain.mjs out of 'TryzShelfB.lean', which tools/lay-shelf.mjs wrote): THE SAME DECLARATIONS UNDER THE SAME NAMES: 'import', 'namespace', 'open', 'def', 'theorem' AND NOTHING ELSE: no command of the shelf's: FOR A HAND-IN. Each laying: the table of numbers ('.._ren') and one theorem, a field a fact of the dump's own or the kernel's comparison; each contract: ONE APPLICATION.
-/
import Derived.Shelf.Strconv.Itoa3
import Derived.Test.YtfahabnjplnbmaaGreatDoorProg
namespace Go.Proofs
open Go.Shelf
def Tryz.lays171_ren : Go.Shelf.Ren := ⟨fun | 171 => 65 | 243 => 80 | 246 => 89 | 283 => 98 | 284 => 99 | 285 => 100 | 286 => 101 | 129 => 108 | 317 => 107 | 318 => 109 | 319 => 110 | 320 => 111 | 337 => 127 | 338 => 128 | n => n, fun | 3 => 3 | 9 => 9 | 2 => 2 | 4 => 4 | 171 => 138 | 0 => 0 | 53 => 139 | 37 => 63 | 5 => 5 | 173 => 142 | 212 => 158 | 51 => 114 | 20 => 20 | 213 => 159 | 46 => 146 | 232 => 207 | 233 => 208 | n => n, fun | 17 => 5 | 18 => 12 | 19 => 13 | n => n⟩
theorem Tryz.lays171 : Go.Proofs.Lays.n171 Tryz.prog Tryz.lays171_ren := {
  mixed := by kernel_rfl
  f129 := Tryz.func108.trans (congrArg some (by kernel_rfl))
  f171 := Tryz.func65.trans (congrArg some (by kernel_rfl))
  f243 := Tryz.func80.trans (congrArg some (by kernel_rfl))
  f246 := Tryz.func89.trans (congrArg some (by kernel_rfl))
  f283 := Tryz.func98.trans (congrArg some (by kernel_rfl))
  f284 := Tryz.func99.trans (congrArg some (by kernel_rfl))
  f285 := Tryz.func100.trans (congrArg some (by kernel_rfl))
  f286 := Tryz.func101.trans (congrArg some (by kernel_rfl))
  f317 := Tryz.func107.trans (congrArg some (by kernel_rfl))
  f318 := Tryz.func109.trans (congrArg some (by kernel_rfl))
  f319 := Tryz.func110.trans (congrArg some (by kernel_rfl))
  f320 := Tryz.func111.trans (congrArg some (by kernel_rfl))
  f337 := Tryz.func127.trans (congrArg some (by kernel_rfl))
  f338 := Tryz.func128.trans (congrArg some (by kernel_rfl))
  t0 := Tryz.underlying0
  a0 := Tryz.isAgg0
  z0 := Tryz.sizeOf0
  v0 := Tryz.zeroValue0
  t2 := Tryz.underlying2
  a2 := Tryz.isAgg2
  z2 := Tryz.sizeOf2
  v2 := Tryz.zeroValue2
  t3 := Tryz.underlying3
  a3 := Tryz.isAgg3
  z3 := Tryz.sizeOf3
  v3 := Tryz.zeroValue3
  t4 := Tryz.underlying4
  a4 := Tryz.isAgg4
  z4 := Tryz.sizeOf4
  v4 := Tryz.zeroValue4
  t5 := Tryz.underlying5
  a5 := Tryz.isAgg5
  z5 := Tryz.sizeOf5
  v5 := Tryz.zeroValue5
  t9 := Tryz.underlying9
  a9 := Tryz.isAgg9
  z9 := Tryz.sizeOf9
  v9 := Tryz.zeroValue9
  t20 := Tryz.underlying20
  a20 := Tryz.isAgg20
  z20 := Tryz.sizeOf20
  v20 := Tryz.zeroValue20
  t37 := Tryz.underlying63
  a37 := Tryz.isAgg63
  z37 := Tryz.sizeOf63
  v37 := Tryz.zeroValue63
  t46 := Tryz.underlying146
  a46 := Tryz.isAgg146
  z46 := Tryz.sizeOf146
  v46 := Tryz.zeroValue146
  t51 := Tryz.underlying114
  a51 := Tryz.isAgg114
  z51 := Tryz.sizeOf114
  v51 := Tryz.zeroValue114
  t53 := Tryz.underlying139
  a53 := Tryz.isAgg139
  z53 := Tryz.sizeOf139
  v53 := Tryz.zeroValue139
  t171 := Tryz.underlying138
  a171 := Tryz.isAgg138
  z171 := Tryz.sizeOf138
  v171 := Tryz.zeroValue138
  t173 := Tryz.underlying142
  a173 := Tryz.isAgg142
  z173 := Tryz.sizeOf142
  v173 := Tryz.zeroValue142
  t212 := Tryz.underlying158
  a212 := Tryz.isAgg158
  z212 := Tryz.sizeOf158
  v212 := Tryz.zeroValue158
  t213 := Tryz.underlying159
  a213 := Tryz.isAgg159
  z213 := Tryz.sizeOf159
  t232 := Tryz.underlying207
  a232 := Tryz.isAgg207
  z232 := Tryz.sizeOf207
  v232 := Tryz.zeroValue207
  t233 := Tryz.underlying208
  a233 := Tryz.isAgg208
  z233 := Tryz.sizeOf208
  v233 := Tryz.zeroValue208
  g17 := by kernel_rfl
  g18 := by kernel_rfl
  g19 := by kernel_rfl }
open Go.RowKit Go.Sort Go.Lib in
/-- THE ROAD WITHOUT THE TABLE: 0 <= i < 100: NO PREMISE ON THE WORLD, AND THE WORLD IS AS IT WAS: a row that keeps its argument in that range need list no table ('laid = []'). (LAID: no walk: one application.) -/
theorem Tryz.strconv_Itoa_small (i : Nat) (hi : i < 100) (w : World) :
    Calls Tryz.prog 65 #[.int .i64 i] w fun e w' => e = .returned (.string ⟨(Lib.decDigits i).toArray⟩) ∧ w' = w := Any.strconv_Itoa_small Tryz.lays171 i hi w
end Go.Proofs
