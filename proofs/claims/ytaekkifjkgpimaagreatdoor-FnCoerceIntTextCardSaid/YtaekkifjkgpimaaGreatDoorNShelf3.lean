/-
  DERIVED: THE SHELF's CONTRACTS AT THIS DUMP, IN PLAIN WORDS (tools/lay-plain.mjs out of 'TryzShelf3.lean', which tools/lay-shelf.mjs wrote): THE SAME DECLARATIONS UNDER THE SAME NAMES: 'import', 'namespace', 'open', 'def', 'theorem' AND NOTHING ELSE: no command of the shelf's: FOR A HAND-IN. Each laying: the table of numbers ('.._ren') and one theorem, a field a fact of the dump's own or the kernel's comparison; each contract: ONE APPLICATION.
-/
import Derived.Shelf.LaysM
import Derived.Shelf.Strconv.Itoa4
import Derived.Test.YtaekkifjkgpimaaGreatDoorProg
namespace Go.Proofs
open Go.Shelf
def Tryz.laysM173_ren : Go.Shelf.Ren := ⟨fun | 173 => 11 | 246 => 16 | 283 => 22 | 284 => 23 | 285 => 24 | 286 => 25 | 129 => 32 | 317 => 31 | 318 => 33 | 319 => 34 | 320 => 35 | 337 => 42 | 338 => 43 | n => n, fun | 2 => 2 | 3 => 3 | 9 => 9 | 4 => 4 | 171 => 76 | 0 => 0 | 53 => 65 | 37 => 79 | 5 => 5 | 173 => 80 | 212 => 88 | 51 => 63 | 20 => 20 | 213 => 89 | 46 => 58 | 232 => 109 | 233 => 110 | n => n, fun | 17 => 0 | 18 => 3 | 19 => 4 | n => n⟩
theorem Tryz.laysM173 : Go.Proofs.LaysM.n173 Tryz.prog Tryz.laysM173_ren := {
  mixed := by kernel_rfl
  f129 := Tryz.func32.trans (congrArg some (by kernel_rfl))
  f173 := Tryz.func11.trans (congrArg some (by kernel_rfl))
  f246 := Tryz.func16.trans (congrArg some (by kernel_rfl))
  f283 := Tryz.func22.trans (congrArg some (by kernel_rfl))
  f284 := Tryz.func23.trans (congrArg some (by kernel_rfl))
  f285 := Tryz.func24.trans (congrArg some (by kernel_rfl))
  f286 := Tryz.func25.trans (congrArg some (by kernel_rfl))
  f317 := Tryz.func31.trans (congrArg some (by kernel_rfl))
  f318 := Tryz.func33.trans (congrArg some (by kernel_rfl))
  f319 := Tryz.func34.trans (congrArg some (by kernel_rfl))
  f320 := Tryz.func35.trans (congrArg some (by kernel_rfl))
  f337 := Tryz.func42.trans (congrArg some (by kernel_rfl))
  f338 := Tryz.func43.trans (congrArg some (by kernel_rfl))
  t0 := Tryz.underlying0
  a0 := Tryz.isAgg0
  z0 := Tryz.sizeOf0
  v0 := Tryz.zeroValue0
  t2 := Tryz.underlying2
  a2 := Tryz.isAgg2
  z2 := Tryz.sizeOf2
  v2 := Tryz.zeroValue2
  t3 := Tryz.underlying3
  a3 := Tryz.isAgg3
  z3 := Tryz.sizeOf3
  v3 := Tryz.zeroValue3
  t4 := Tryz.underlying4
  a4 := Tryz.isAgg4
  z4 := Tryz.sizeOf4
  v4 := Tryz.zeroValue4
  t5 := Tryz.underlying5
  a5 := Tryz.isAgg5
  z5 := Tryz.sizeOf5
  v5 := Tryz.zeroValue5
  t9 := Tryz.underlying9
  a9 := Tryz.isAgg9
  z9 := Tryz.sizeOf9
  v9 := Tryz.zeroValue9
  t20 := Tryz.underlying20
  a20 := Tryz.isAgg20
  z20 := Tryz.sizeOf20
  v20 := Tryz.zeroValue20
  t37 := Tryz.underlying79
  a37 := Tryz.isAgg79
  z37 := Tryz.sizeOf79
  v37 := Tryz.zeroValue79
  t46 := Tryz.underlying58
  a46 := Tryz.isAgg58
  z46 := Tryz.sizeOf58
  v46 := Tryz.zeroValue58
  t51 := Tryz.underlying63
  a51 := Tryz.isAgg63
  z51 := Tryz.sizeOf63
  v51 := Tryz.zeroValue63
  t53 := Tryz.underlying65
  a53 := Tryz.isAgg65
  z53 := Tryz.sizeOf65
  v53 := Tryz.zeroValue65
  t171 := Tryz.underlying76
  a171 := Tryz.isAgg76
  z171 := Tryz.sizeOf76
  v171 := Tryz.zeroValue76
  t173 := Tryz.underlying80
  a173 := Tryz.isAgg80
  z173 := Tryz.sizeOf80
  v173 := Tryz.zeroValue80
  t212 := Tryz.underlying88
  a212 := Tryz.isAgg88
  z212 := Tryz.sizeOf88
  v212 := Tryz.zeroValue88
  t213 := Tryz.underlying89
  a213 := Tryz.isAgg89
  z213 := Tryz.sizeOf89
  t232 := Tryz.underlying109
  a232 := Tryz.isAgg109
  z232 := Tryz.sizeOf109
  v232 := Tryz.zeroValue109
  t233 := Tryz.underlying110
  a233 := Tryz.isAgg110
  z233 := Tryz.sizeOf110
  v233 := Tryz.zeroValue110
  g17 := by kernel_rfl
  g18 := by kernel_rfl
  g19 := by kernel_rfl
  i0 := by kernel_rfl
  i2 := by kernel_rfl
  i3 := by kernel_rfl
  i4 := by kernel_rfl
  i5 := by kernel_rfl
  i9 := by kernel_rfl
  i20 := by kernel_rfl
  i37 := by kernel_rfl
  i46 := by kernel_rfl
  i51 := by kernel_rfl
  i53 := by kernel_rfl
  i171 := by kernel_rfl
  i173 := by kernel_rfl
  i212 := by kernel_rfl
  i232 := by kernel_rfl
  i233 := by kernel_rfl
  m17 := by kernel_rfl
  m18 := by kernel_rfl
  m19 := by kernel_rfl }
open Go.RowKit Go.Sort Go.Lib in
theorem Tryz.strconv_FormatInt_10 (n : Int) (h0 : -9223372036854775808 ≤ n) (h1 : n ≤ 9223372036854775807) (w : World) (htab : Lib.TabIs Tryz.prog w "internal/strconv.uint64pow10" .u64 Lib.pow10Tab) :
    Calls Tryz.prog 11 #[.int .i64 n, .int .i64 10] w fun e w' => e = .returned (.string ⟨(Lib.itoa n).toArray⟩) ∧ ∃ k os, w' = grow (w.drewN k) os := Any.strconv_FormatInt_10 Tryz.laysM173 n h0 h1 w htab
end Go.Proofs
