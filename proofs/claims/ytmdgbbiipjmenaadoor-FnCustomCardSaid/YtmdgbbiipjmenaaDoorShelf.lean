/-
  DERIVED: THE SHELF's CONTRACTS AT THIS DUMP, IN PLAIN WORDS (tools/lay-plain.mjs out of 'TrydShelf.lean', which tools/lay-shelf.mjs wrote): THE SAME DECLARATIONS UNDER THE SAME NAMES: 'import', 'namespace', 'open', 'def', 'theorem' AND NOTHING ELSE: no command of the shelf's: FOR A HAND-IN. Each laying: the table of numbers ('.._ren') and one theorem, a field a fact of the dump's own or the kernel's comparison; each contract: ONE APPLICATION.
-/
import Derived.Shelf.Strconv.Itoa0
import Derived.Shelf.Strconv.Itoa1
import Derived.Shelf.LaysM
import Derived.Shelf.Strconv.Itoa2
import Derived.Shelf.Strconv.Itoa3
import Derived.Shelf.Strconv.Itoa4
import Derived.Shelf.Strconv.ParseIntEmpty
import Derived.Shelf.Strconv.Clone
import Derived.Shelf.Strconv.SyntaxError
import Derived.Shelf.LaysC
import Derived.Shelf.Strconv.ToError
import Derived.Shelf.Strconv.Lower
import Derived.Shelf.Strconv.ParseUint10
import Derived.Shelf.Strconv.ParseUint10Empty
import Derived.Shelf.Strconv.ParseUint10Any
import Derived.Shelf.Strconv.ParseInt10
import Derived.Shelf.Strconv.RangeError
import Derived.Shelf.Strconv.ToErrorRange
import Derived.Shelf.Strconv.ParseUintEmpty
import Derived.Shelf.Strconv.ParseUint10b64
import Derived.Shelf.Strconv.ParseUint10b32
import Derived.Shelf.Strconv.ParseUint10b16
import Derived.Shelf.Strconv.ParseUint10b8
import Derived.Shelf.Strconv.ParseUint10At
import Derived.Shelf.Strconv.ParseInt10At64
import Derived.Shelf.Strconv.ParseInt10At32
import Derived.Shelf.Strconv.ParseInt10At16
import Derived.Shelf.Strconv.ParseInt10At8
import Derived.Shelf.Strconv.ParseInt10All
import Derived.Shelf.Strconv.ParseIntPublic10
import Derived.Shelf.Strconv.ErrVarParseInt
import Derived.Test.YtmdgbbiipjmenaaDoorProg
namespace Go.Proofs
open Go.Shelf
def Tryd.laysM171_ren : Go.Shelf.Ren := ⟨fun | 171 => 27 | 243 => 37 | 246 => 41 | 283 => 47 | 284 => 48 | 285 => 49 | 286 => 50 | 129 => 56 | 317 => 55 | 318 => 57 | 319 => 58 | 320 => 59 | 337 => 60 | 338 => 61 | n => n, fun | 3 => 3 | 9 => 9 | 2 => 2 | 4 => 4 | 171 => 73 | 0 => 0 | 53 => 67 | 37 => 61 | 5 => 5 | 173 => 76 | 212 => 84 | 51 => 26 | 20 => 20 | 213 => 85 | 46 => 28 | 232 => 92 | 233 => 93 | n => n, fun | 17 => 2 | 18 => 3 | 19 => 4 | n => n⟩
theorem Tryd.laysM171 : Go.Proofs.LaysM.n171 Tryd.prog Tryd.laysM171_ren := {
  mixed := by kernel_rfl
  f129 := Tryd.func56.trans (congrArg some (by kernel_rfl))
  f171 := Tryd.func27.trans (congrArg some (by kernel_rfl))
  f243 := Tryd.func37.trans (congrArg some (by kernel_rfl))
  f246 := Tryd.func41.trans (congrArg some (by kernel_rfl))
  f283 := Tryd.func47.trans (congrArg some (by kernel_rfl))
  f284 := Tryd.func48.trans (congrArg some (by kernel_rfl))
  f285 := Tryd.func49.trans (congrArg some (by kernel_rfl))
  f286 := Tryd.func50.trans (congrArg some (by kernel_rfl))
  f317 := Tryd.func55.trans (congrArg some (by kernel_rfl))
  f318 := Tryd.func57.trans (congrArg some (by kernel_rfl))
  f319 := Tryd.func58.trans (congrArg some (by kernel_rfl))
  f320 := Tryd.func59.trans (congrArg some (by kernel_rfl))
  f337 := Tryd.func60.trans (congrArg some (by kernel_rfl))
  f338 := Tryd.func61.trans (congrArg some (by kernel_rfl))
  t0 := Tryd.underlying0
  a0 := Tryd.isAgg0
  z0 := Tryd.sizeOf0
  v0 := Tryd.zeroValue0
  t2 := Tryd.underlying2
  a2 := Tryd.isAgg2
  z2 := Tryd.sizeOf2
  v2 := Tryd.zeroValue2
  t3 := Tryd.underlying3
  a3 := Tryd.isAgg3
  z3 := Tryd.sizeOf3
  v3 := Tryd.zeroValue3
  t4 := Tryd.underlying4
  a4 := Tryd.isAgg4
  z4 := Tryd.sizeOf4
  v4 := Tryd.zeroValue4
  t5 := Tryd.underlying5
  a5 := Tryd.isAgg5
  z5 := Tryd.sizeOf5
  v5 := Tryd.zeroValue5
  t9 := Tryd.underlying9
  a9 := Tryd.isAgg9
  z9 := Tryd.sizeOf9
  v9 := Tryd.zeroValue9
  t20 := Tryd.underlying20
  a20 := Tryd.isAgg20
  z20 := Tryd.sizeOf20
  v20 := Tryd.zeroValue20
  t37 := Tryd.underlying61
  a37 := Tryd.isAgg61
  z37 := Tryd.sizeOf61
  v37 := Tryd.zeroValue61
  t46 := Tryd.underlying28
  a46 := Tryd.isAgg28
  z46 := Tryd.sizeOf28
  v46 := Tryd.zeroValue28
  t51 := Tryd.underlying26
  a51 := Tryd.isAgg26
  z51 := Tryd.sizeOf26
  v51 := Tryd.zeroValue26
  t53 := Tryd.underlying67
  a53 := Tryd.isAgg67
  z53 := Tryd.sizeOf67
  v53 := Tryd.zeroValue67
  t171 := Tryd.underlying73
  a171 := Tryd.isAgg73
  z171 := Tryd.sizeOf73
  v171 := Tryd.zeroValue73
  t173 := Tryd.underlying76
  a173 := Tryd.isAgg76
  z173 := Tryd.sizeOf76
  v173 := Tryd.zeroValue76
  t212 := Tryd.underlying84
  a212 := Tryd.isAgg84
  z212 := Tryd.sizeOf84
  v212 := Tryd.zeroValue84
  t213 := Tryd.underlying85
  a213 := Tryd.isAgg85
  z213 := Tryd.sizeOf85
  t232 := Tryd.underlying92
  a232 := Tryd.isAgg92
  z232 := Tryd.sizeOf92
  v232 := Tryd.zeroValue92
  t233 := Tryd.underlying93
  a233 := Tryd.isAgg93
  z233 := Tryd.sizeOf93
  v233 := Tryd.zeroValue93
  g17 := by kernel_rfl
  g18 := by kernel_rfl
  g19 := by kernel_rfl
  i0 := by kernel_rfl
  i2 := by kernel_rfl
  i3 := by kernel_rfl
  i4 := by kernel_rfl
  i5 := by kernel_rfl
  i9 := by kernel_rfl
  i20 := by kernel_rfl
  i37 := by kernel_rfl
  i46 := by kernel_rfl
  i51 := by kernel_rfl
  i53 := by kernel_rfl
  i171 := by kernel_rfl
  i173 := by kernel_rfl
  i212 := by kernel_rfl
  i232 := by kernel_rfl
  i233 := by kernel_rfl
  m17 := by kernel_rfl
  m18 := by kernel_rfl
  m19 := by kernel_rfl }
open Go.RowKit Go.Sort Go.Lib in
/-- strconv.Itoa: "Itoa is equivalent to FormatInt(int64(i), 10).": i's DECIMAL NUMERAL ('Lib.itoa': a '-' where i is negative, then the digits), FOR EVERY int. The world behind the call: the world before it, new blocks behind the heap (the library's 'var a [24]byte'), draws. (LAID: no walk: one application.) -/
theorem Tryd.strconv_Itoa (n : Int) (h0 : -9223372036854775808 ≤ n) (h1 : n ≤ 9223372036854775807) (w : World) (htab : Lib.TabIs Tryd.prog w "internal/strconv.uint64pow10" .u64 Lib.pow10Tab) :
    Calls Tryd.prog 27 #[.int .i64 n] w fun e w' => e = .returned (.string ⟨(Lib.itoa n).toArray⟩) ∧ ∃ k os, w' = grow (w.drewN k) os := Any.strconv_Itoa Tryd.laysM171 n h0 h1 w htab
def Tryd.laysM173_ren : Go.Shelf.Ren := ⟨fun | 173 => 38 | 246 => 41 | 283 => 47 | 284 => 48 | 285 => 49 | 286 => 50 | 129 => 56 | 317 => 55 | 318 => 57 | 319 => 58 | 320 => 59 | 337 => 60 | 338 => 61 | n => n, fun | 2 => 2 | 3 => 3 | 9 => 9 | 4 => 4 | 171 => 73 | 0 => 0 | 53 => 67 | 37 => 61 | 5 => 5 | 173 => 76 | 212 => 84 | 51 => 26 | 20 => 20 | 213 => 85 | 46 => 28 | 232 => 92 | 233 => 93 | n => n, fun | 17 => 2 | 18 => 3 | 19 => 4 | n => n⟩
theorem Tryd.laysM173 : Go.Proofs.LaysM.n173 Tryd.prog Tryd.laysM173_ren := {
  mixed := by kernel_rfl
  f129 := Tryd.func56.trans (congrArg some (by kernel_rfl))
  f173 := Tryd.func38.trans (congrArg some (by kernel_rfl))
  f246 := Tryd.func41.trans (congrArg some (by kernel_rfl))
  f283 := Tryd.func47.trans (congrArg some (by kernel_rfl))
  f284 := Tryd.func48.trans (congrArg some (by kernel_rfl))
  f285 := Tryd.func49.trans (congrArg some (by kernel_rfl))
  f286 := Tryd.func50.trans (congrArg some (by kernel_rfl))
  f317 := Tryd.func55.trans (congrArg some (by kernel_rfl))
  f318 := Tryd.func57.trans (congrArg some (by kernel_rfl))
  f319 := Tryd.func58.trans (congrArg some (by kernel_rfl))
  f320 := Tryd.func59.trans (congrArg some (by kernel_rfl))
  f337 := Tryd.func60.trans (congrArg some (by kernel_rfl))
  f338 := Tryd.func61.trans (congrArg some (by kernel_rfl))
  t0 := Tryd.underlying0
  a0 := Tryd.isAgg0
  z0 := Tryd.sizeOf0
  v0 := Tryd.zeroValue0
  t2 := Tryd.underlying2
  a2 := Tryd.isAgg2
  z2 := Tryd.sizeOf2
  v2 := Tryd.zeroValue2
  t3 := Tryd.underlying3
  a3 := Tryd.isAgg3
  z3 := Tryd.sizeOf3
  v3 := Tryd.zeroValue3
  t4 := Tryd.underlying4
  a4 := Tryd.isAgg4
  z4 := Tryd.sizeOf4
  v4 := Tryd.zeroValue4
  t5 := Tryd.underlying5
  a5 := Tryd.isAgg5
  z5 := Tryd.sizeOf5
  v5 := Tryd.zeroValue5
  t9 := Tryd.underlying9
  a9 := Tryd.isAgg9
  z9 := Tryd.sizeOf9
  v9 := Tryd.zeroValue9
  t20 := Tryd.underlying20
  a20 := Tryd.isAgg20
  z20 := Tryd.sizeOf20
  v20 := Tryd.zeroValue20
  t37 := Tryd.underlying61
  a37 := Tryd.isAgg61
  z37 := Tryd.sizeOf61
  v37 := Tryd.zeroValue61
  t46 := Tryd.underlying28
  a46 := Tryd.isAgg28
  z46 := Tryd.sizeOf28
  v46 := Tryd.zeroValue28
  t51 := Tryd.underlying26
  a51 := Tryd.isAgg26
  z51 := Tryd.sizeOf26
  v51 := Tryd.zeroValue26
  t53 := Tryd.underlying67
  a53 := Tryd.isAgg67
  z53 := Tryd.sizeOf67
  v53 := Tryd.zeroValue67
  t171 := Tryd.underlying73
  a171 := Tryd.isAgg73
  z171 := Tryd.sizeOf73
  v171 := Tryd.zeroValue73
  t173 := Tryd.underlying76
  a173 := Tryd.isAgg76
  z173 := Tryd.sizeOf76
  v173 := Tryd.zeroValue76
  t212 := Tryd.underlying84
  a212 := Tryd.isAgg84
  z212 := Tryd.sizeOf84
  v212 := Tryd.zeroValue84
  t213 := Tryd.underlying85
  a213 := Tryd.isAgg85
  z213 := Tryd.sizeOf85
  t232 := Tryd.underlying92
  a232 := Tryd.isAgg92
  z232 := Tryd.sizeOf92
  v232 := Tryd.zeroValue92
  t233 := Tryd.underlying93
  a233 := Tryd.isAgg93
  z233 := Tryd.sizeOf93
  v233 := Tryd.zeroValue93
  g17 := by kernel_rfl
  g18 := by kernel_rfl
  g19 := by kernel_rfl
  i0 := by kernel_rfl
  i2 := by kernel_rfl
  i3 := by kernel_rfl
  i4 := by kernel_rfl
  i5 := by kernel_rfl
  i9 := by kernel_rfl
  i20 := by kernel_rfl
  i37 := by kernel_rfl
  i46 := by kernel_rfl
  i51 := by kernel_rfl
  i53 := by kernel_rfl
  i171 := by kernel_rfl
  i173 := by kernel_rfl
  i212 := by kernel_rfl
  i232 := by kernel_rfl
  i233 := by kernel_rfl
  m17 := by kernel_rfl
  m18 := by kernel_rfl
  m19 := by kernel_rfl }
open Go.RowKit Go.Sort Go.Lib in
/-- strconv.FormatInt: "FormatInt returns the string representation of i in the given base": AT BASE 10: i's decimal numeral, for every int64. (LAID: no walk: one application.) -/
theorem Tryd.strconv_FormatInt_10 (n : Int) (h0 : -9223372036854775808 ≤ n) (h1 : n ≤ 9223372036854775807) (w : World) (htab : Lib.TabIs Tryd.prog w "internal/strconv.uint64pow10" .u64 Lib.pow10Tab) :
    Calls Tryd.prog 38 #[.int .i64 n, .int .i64 10] w fun e w' => e = .returned (.string ⟨(Lib.itoa n).toArray⟩) ∧ ∃ k os, w' = grow (w.drewN k) os := Any.strconv_FormatInt_10 Tryd.laysM173 n h0 h1 w htab
def Tryd.laysC174_ren : Go.Shelf.Ren := ⟨fun | 174 => 36 | 247 => 39 | 245 => 40 | 287 => 42 | 279 => 43 | 280 => 44 | 281 => 45 | 282 => 46 | 321 => 51 | 322 => 52 | 316 => 53 | 171 => 27 | 205 => 54 | 243 => 37 | 246 => 41 | 283 => 47 | 284 => 48 | 285 => 49 | 286 => 50 | 129 => 56 | 317 => 55 | 318 => 57 | 319 => 58 | 320 => 59 | 337 => 60 | 338 => 61 | n => n, fun | 9 => 9 | 3 => 3 | 2 => 2 | 75 => 52 | 85 => 53 | 4 => 4 | 167 => 66 | 5 => 5 | 53 => 67 | 175 => 68 | 46 => 28 | 168 => 70 | 37 => 61 | 0 => 0 | 210 => 80 | 21 => 21 | 127 => 87 | 145 => 90 | 143 => 88 | 171 => 73 | 173 => 76 | 212 => 84 | 51 => 26 | 20 => 20 | 213 => 85 | 232 => 92 | 233 => 93 | 80 => 94 | n => n, fun | 15 => 0 | 16 => 1 | 17 => 2 | 18 => 3 | 19 => 4 | n => n⟩
theorem Tryd.laysC174 : Go.Proofs.LaysC.n174 Tryd.prog Tryd.laysC174_ren := {
  mixed := by kernel_rfl
  f129 := Tryd.func56.trans (congrArg some (by kernel_rfl))
  f171 := Tryd.func27.trans (congrArg some (by kernel_rfl))
  f174 := Tryd.func36.trans (congrArg some (by kernel_rfl))
  f205 := Tryd.func54.trans (congrArg some (by kernel_rfl))
  f243 := Tryd.func37.trans (congrArg some (by kernel_rfl))
  f245 := Tryd.func40.trans (congrArg some (by kernel_rfl))
  f246 := Tryd.func41.trans (congrArg some (by kernel_rfl))
  f247 := Tryd.func39.trans (congrArg some (by kernel_rfl))
  f279 := Tryd.func43.trans (congrArg some (by kernel_rfl))
  f280 := Tryd.func44.trans (congrArg some (by kernel_rfl))
  f281 := Tryd.func45.trans (congrArg some (by kernel_rfl))
  f282 := Tryd.func46.trans (congrArg some (by kernel_rfl))
  f283 := Tryd.func47.trans (congrArg some (by kernel_rfl))
  f284 := Tryd.func48.trans (congrArg some (by kernel_rfl))
  f285 := Tryd.func49.trans (congrArg some (by kernel_rfl))
  f286 := Tryd.func50.trans (congrArg some (by kernel_rfl))
  f287 := Tryd.func42.trans (congrArg some (by kernel_rfl))
  f316 := Tryd.func53.trans (congrArg some (by kernel_rfl))
  f317 := Tryd.func55.trans (congrArg some (by kernel_rfl))
  f318 := Tryd.func57.trans (congrArg some (by kernel_rfl))
  f319 := Tryd.func58.trans (congrArg some (by kernel_rfl))
  f320 := Tryd.func59.trans (congrArg some (by kernel_rfl))
  f321 := Tryd.func51.trans (congrArg some (by kernel_rfl))
  f322 := Tryd.func52.trans (congrArg some (by kernel_rfl))
  f337 := Tryd.func60.trans (congrArg some (by kernel_rfl))
  f338 := Tryd.func61.trans (congrArg some (by kernel_rfl))
  t0 := Tryd.underlying0
  a0 := Tryd.isAgg0
  z0 := Tryd.sizeOf0
  v0 := Tryd.zeroValue0
  t2 := Tryd.underlying2
  a2 := Tryd.isAgg2
  z2 := Tryd.sizeOf2
  v2 := Tryd.zeroValue2
  t3 := Tryd.underlying3
  a3 := Tryd.isAgg3
  z3 := Tryd.sizeOf3
  v3 := Tryd.zeroValue3
  t4 := Tryd.underlying4
  a4 := Tryd.isAgg4
  z4 := Tryd.sizeOf4
  v4 := Tryd.zeroValue4
  t5 := Tryd.underlying5
  a5 := Tryd.isAgg5
  z5 := Tryd.sizeOf5
  v5 := Tryd.zeroValue5
  t9 := Tryd.underlying9
  a9 := Tryd.isAgg9
  z9 := Tryd.sizeOf9
  v9 := Tryd.zeroValue9
  t20 := Tryd.underlying20
  a20 := Tryd.isAgg20
  z20 := Tryd.sizeOf20
  v20 := Tryd.zeroValue20
  t21 := Tryd.underlying21
  a21 := Tryd.isAgg21
  z21 := Tryd.sizeOf21
  v21 := Tryd.zeroValue21
  t37 := Tryd.underlying61
  a37 := Tryd.isAgg61
  z37 := Tryd.sizeOf61
  v37 := Tryd.zeroValue61
  t46 := Tryd.underlying28
  a46 := Tryd.isAgg28
  z46 := Tryd.sizeOf28
  v46 := Tryd.zeroValue28
  t51 := Tryd.underlying26
  a51 := Tryd.isAgg26
  z51 := Tryd.sizeOf26
  v51 := Tryd.zeroValue26
  t53 := Tryd.underlying67
  a53 := Tryd.isAgg67
  z53 := Tryd.sizeOf67
  v53 := Tryd.zeroValue67
  t75 := Tryd.underlying52
  a75 := Tryd.isAgg52
  z75 := Tryd.sizeOf52
  v75 := Tryd.zeroValue52
  t85 := Tryd.underlying53
  a85 := Tryd.isAgg53
  z85 := Tryd.sizeOf53
  v85 := Tryd.zeroValue53
  t127 := Tryd.underlying87
  a127 := Tryd.isAgg87
  z127 := Tryd.sizeOf87
  v127 := Tryd.zeroValue87
  t143 := Tryd.underlying88
  a143 := Tryd.isAgg88
  z143 := Tryd.sizeOf88
  v143 := Tryd.zeroValue88
  t145 := Tryd.underlying90
  a145 := Tryd.isAgg90
  z145 := Tryd.sizeOf90
  v145 := Tryd.zeroValue90
  t167 := Tryd.underlying66
  a167 := Tryd.isAgg66
  z167 := Tryd.sizeOf66
  v167 := Tryd.zeroValue66
  t168 := Tryd.underlying70
  a168 := Tryd.isAgg70
  z168 := Tryd.sizeOf70
  v168 := Tryd.zeroValue70
  t171 := Tryd.underlying73
  a171 := Tryd.isAgg73
  z171 := Tryd.sizeOf73
  v171 := Tryd.zeroValue73
  t173 := Tryd.underlying76
  a173 := Tryd.isAgg76
  z173 := Tryd.sizeOf76
  v173 := Tryd.zeroValue76
  t175 := Tryd.underlying68
  a175 := Tryd.isAgg68
  z175 := Tryd.sizeOf68
  v175 := Tryd.zeroValue68
  t210 := Tryd.underlying80
  a210 := Tryd.isAgg80
  z210 := Tryd.sizeOf80
  v210 := Tryd.zeroValue80
  t212 := Tryd.underlying84
  a212 := Tryd.isAgg84
  z212 := Tryd.sizeOf84
  v212 := Tryd.zeroValue84
  t213 := Tryd.underlying85
  a213 := Tryd.isAgg85
  z213 := Tryd.sizeOf85
  t232 := Tryd.underlying92
  a232 := Tryd.isAgg92
  z232 := Tryd.sizeOf92
  v232 := Tryd.zeroValue92
  t233 := Tryd.underlying93
  a233 := Tryd.isAgg93
  z233 := Tryd.sizeOf93
  v233 := Tryd.zeroValue93
  g15 := by kernel_rfl
  g16 := by kernel_rfl
  g17 := by kernel_rfl
  g18 := by kernel_rfl
  g19 := by kernel_rfl
  t80 := Tryd.underlying94
  a80 := Tryd.isAgg94
  z80 := Tryd.sizeOf94
  v80 := Tryd.zeroValue94
  i0 := by kernel_rfl
  i2 := by kernel_rfl
  i3 := by kernel_rfl
  i4 := by kernel_rfl
  i5 := by kernel_rfl
  i9 := by kernel_rfl
  i20 := by kernel_rfl
  i21 := by kernel_rfl
  i37 := by kernel_rfl
  i46 := by kernel_rfl
  i51 := by kernel_rfl
  i53 := by kernel_rfl
  i75 := by kernel_rfl
  i80 := by kernel_rfl
  i85 := by kernel_rfl
  i127 := by kernel_rfl
  i143 := by kernel_rfl
  i145 := by kernel_rfl
  i167 := by kernel_rfl
  i168 := by kernel_rfl
  i171 := by kernel_rfl
  i173 := by kernel_rfl
  i175 := by kernel_rfl
  i210 := by kernel_rfl
  i212 := by kernel_rfl
  i232 := by kernel_rfl
  i233 := by kernel_rfl
  m15 := by kernel_rfl
  m16 := by kernel_rfl
  m17 := by kernel_rfl
  m18 := by kernel_rfl
  m19 := by kernel_rfl
  c0 := by kernel_rfl
  c2 := by kernel_rfl
  c3 := by kernel_rfl
  c4 := by kernel_rfl
  c5 := by kernel_rfl
  c9 := by kernel_rfl
  c20 := by kernel_rfl
  c21 := by kernel_rfl
  c37 := by kernel_rfl
  c46 := by kernel_rfl
  c51 := by kernel_rfl
  c53 := by kernel_rfl
  c75 := by kernel_rfl
  c80 := by kernel_rfl
  c85 := by kernel_rfl
  c127 := by kernel_rfl
  c143 := by kernel_rfl
  c145 := by kernel_rfl
  c167 := by kernel_rfl
  c168 := by kernel_rfl
  c171 := by kernel_rfl
  c173 := by kernel_rfl
  c175 := by kernel_rfl
  c210 := by kernel_rfl
  c212 := by kernel_rfl
  c213 := by kernel_rfl
  c232 := by kernel_rfl
  c233 := by kernel_rfl }
open Go.RowKit in
/-- strconv.ParseInt(s, 10, 64), AT EVERY STRING THAT SPELLS AN int64 ('Lib.parseIntB 64 s.data.toList = .ok v'): v, AND NO ERROR. (LAID: no walk: one application.) -/
theorem Tryd.strconv_ParseInt_10_at64_ok (s : ByteArray) (hmax : s.size ≤ 9223372036854775806) (v : Int) (h : Lib.parseIntB 64 s.data.toList = .ok v) (w : World) :
    Calls Tryd.prog 36 #[.string s, .int .i64 10, .int .i64 64] w fun e w' => e = .returned (.tuple #[.int .i64 v, .nilIface]) ∧ (w' = w ∨ ∃ t, w' = Lib.bytesWorld w 5 t) := Any.strconv_ParseInt_10_at64_ok Tryd.laysC174 s hmax v h w
end Go.Proofs
