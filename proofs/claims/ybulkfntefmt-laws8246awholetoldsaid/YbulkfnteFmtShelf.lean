/-
  DERIVED: THE SHELF's CONTRACTS AT THIS DUMP, IN PLAIN WORDS (tools/lay-plain.mjs out of 'YbafShelf.lean', which tools/lay-shelf.mjs wrote): THE SAME DECLARATIONS UNDER THE SAME NAMES: 'import', 'namespace', 'open', 'def', 'theorem' AND NOTHING ELSE: no command of the shelf's: FOR A HAND-IN. Each laying: the table of numbers ('.._ren') and one theorem, a field a fact of the dump's own or the kernel's comparison; each contract: ONE APPLICATION.
-/
import Derived.Shelf.Strconv.Itoa0
import Derived.Shelf.Strconv.Itoa1
import Derived.Shelf.LaysM
import Derived.Shelf.Strconv.Itoa2
import Derived.Shelf.Strconv.Itoa3
import Derived.Test.YbulkfnteFmtProg
namespace Go.Proofs
open Go.Shelf
def Ybaf.laysM171_ren : Go.Shelf.Ren := ⟨fun | 171 => 14 | 243 => 22 | 246 => 32 | 283 => 38 | 284 => 39 | 285 => 40 | 286 => 41 | 129 => 49 | 317 => 48 | 318 => 50 | 319 => 51 | 320 => 52 | 337 => 55 | 338 => 56 | n => n, fun | 3 => 3 | 9 => 9 | 2 => 2 | 4 => 4 | 171 => 78 | 0 => 0 | 53 => 65 | 37 => 23 | 5 => 5 | 173 => 103 | 212 => 108 | 51 => 109 | 20 => 20 | 213 => 110 | 46 => 106 | 232 => 120 | 233 => 121 | n => n, fun | 17 => 1 | 18 => 4 | 19 => 5 | n => n⟩
theorem Ybaf.laysM171 : Go.Proofs.LaysM.n171 Ybaf.prog Ybaf.laysM171_ren := {
  mixed := by kernel_rfl
  f129 := Ybaf.func49.trans (congrArg some (by kernel_rfl))
  f171 := Ybaf.func14.trans (congrArg some (by kernel_rfl))
  f243 := Ybaf.func22.trans (congrArg some (by kernel_rfl))
  f246 := Ybaf.func32.trans (congrArg some (by kernel_rfl))
  f283 := Ybaf.func38.trans (congrArg some (by kernel_rfl))
  f284 := Ybaf.func39.trans (congrArg some (by kernel_rfl))
  f285 := Ybaf.func40.trans (congrArg some (by kernel_rfl))
  f286 := Ybaf.func41.trans (congrArg some (by kernel_rfl))
  f317 := Ybaf.func48.trans (congrArg some (by kernel_rfl))
  f318 := Ybaf.func50.trans (congrArg some (by kernel_rfl))
  f319 := Ybaf.func51.trans (congrArg some (by kernel_rfl))
  f320 := Ybaf.func52.trans (congrArg some (by kernel_rfl))
  f337 := Ybaf.func55.trans (congrArg some (by kernel_rfl))
  f338 := Ybaf.func56.trans (congrArg some (by kernel_rfl))
  t0 := Ybaf.underlying0
  a0 := Ybaf.isAgg0
  z0 := Ybaf.sizeOf0
  v0 := Ybaf.zeroValue0
  t2 := Ybaf.underlying2
  a2 := Ybaf.isAgg2
  z2 := Ybaf.sizeOf2
  v2 := Ybaf.zeroValue2
  t3 := Ybaf.underlying3
  a3 := Ybaf.isAgg3
  z3 := Ybaf.sizeOf3
  v3 := Ybaf.zeroValue3
  t4 := Ybaf.underlying4
  a4 := Ybaf.isAgg4
  z4 := Ybaf.sizeOf4
  v4 := Ybaf.zeroValue4
  t5 := Ybaf.underlying5
  a5 := Ybaf.isAgg5
  z5 := Ybaf.sizeOf5
  v5 := Ybaf.zeroValue5
  t9 := Ybaf.underlying9
  a9 := Ybaf.isAgg9
  z9 := Ybaf.sizeOf9
  v9 := Ybaf.zeroValue9
  t20 := Ybaf.underlying20
  a20 := Ybaf.isAgg20
  z20 := Ybaf.sizeOf20
  v20 := Ybaf.zeroValue20
  t37 := Ybaf.underlying23
  a37 := Ybaf.isAgg23
  z37 := Ybaf.sizeOf23
  v37 := Ybaf.zeroValue23
  t46 := Ybaf.underlying106
  a46 := Ybaf.isAgg106
  z46 := Ybaf.sizeOf106
  v46 := Ybaf.zeroValue106
  t51 := Ybaf.underlying109
  a51 := Ybaf.isAgg109
  z51 := Ybaf.sizeOf109
  v51 := Ybaf.zeroValue109
  t53 := Ybaf.underlying65
  a53 := Ybaf.isAgg65
  z53 := Ybaf.sizeOf65
  v53 := Ybaf.zeroValue65
  t171 := Ybaf.underlying78
  a171 := Ybaf.isAgg78
  z171 := Ybaf.sizeOf78
  v171 := Ybaf.zeroValue78
  t173 := Ybaf.underlying103
  a173 := Ybaf.isAgg103
  z173 := Ybaf.sizeOf103
  v173 := Ybaf.zeroValue103
  t212 := Ybaf.underlying108
  a212 := Ybaf.isAgg108
  z212 := Ybaf.sizeOf108
  v212 := Ybaf.zeroValue108
  t213 := Ybaf.underlying110
  a213 := Ybaf.isAgg110
  z213 := Ybaf.sizeOf110
  t232 := Ybaf.underlying120
  a232 := Ybaf.isAgg120
  z232 := Ybaf.sizeOf120
  v232 := Ybaf.zeroValue120
  t233 := Ybaf.underlying121
  a233 := Ybaf.isAgg121
  z233 := Ybaf.sizeOf121
  v233 := Ybaf.zeroValue121
  g17 := by kernel_rfl
  g18 := by kernel_rfl
  g19 := by kernel_rfl
  i0 := by kernel_rfl
  i2 := by kernel_rfl
  i3 := by kernel_rfl
  i4 := by kernel_rfl
  i5 := by kernel_rfl
  i9 := by kernel_rfl
  i20 := by kernel_rfl
  i37 := by kernel_rfl
  i46 := by kernel_rfl
  i51 := by kernel_rfl
  i53 := by kernel_rfl
  i171 := by kernel_rfl
  i173 := by kernel_rfl
  i212 := by kernel_rfl
  i232 := by kernel_rfl
  i233 := by kernel_rfl
  m17 := by kernel_rfl
  m18 := by kernel_rfl
  m19 := by kernel_rfl }
open Go.RowKit Go.Sort Go.Lib in
/-- strconv.Itoa: "Itoa is equivalent to FormatInt(int64(i), 10).": i's DECIMAL NUMERAL ('Lib.itoa': a '-' where i is negative, then the digits), FOR EVERY int. The world behind the call: the world before it, new blocks behind the heap (the library's 'var a [24]byte'), draws. (LAID: no walk: one application.) -/
theorem Ybaf.strconv_Itoa (n : Int) (h0 : -9223372036854775808 ≤ n) (h1 : n ≤ 9223372036854775807) (w : World) (htab : Lib.TabIs Ybaf.prog w "internal/strconv.uint64pow10" .u64 Lib.pow10Tab) :
    Calls Ybaf.prog 14 #[.int .i64 n] w fun e w' => e = .returned (.string ⟨(Lib.itoa n).toArray⟩) ∧ ∃ k os, w' = grow (w.drewN k) os := Any.strconv_Itoa Ybaf.laysM171 n h0 h1 w htab
end Go.Proofs
