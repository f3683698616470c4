/-
  DERIVED: THE SHELF's CONTRACTS AT THIS DUMP, IN PLAIN WORDS (tools/lay-plain.mjs out of 'TryfShelf.lean', which tools/lay-shelf.mjs wrote): THE SAME DECLARATIONS UNDER THE SAME NAMES: 'import', 'namespace', 'open', 'def', 'theorem' AND NOTHING ELSE: no command of the shelf's: FOR A HAND-IN. Each laying: the table of numbers ('.._ren') and one theorem, a field a fact of the dump's own or the kernel's comparison; each contract: ONE APPLICATION.
-/
import Derived.Shelf.Strconv.Itoa0
import Derived.Shelf.Strconv.Itoa1
import Derived.Shelf.LaysM
import Derived.Shelf.Strconv.Itoa2
import Derived.Shelf.Strconv.Itoa3
import Derived.Test.YtkcijcpffjoomaaFmtProg
namespace Go.Proofs
open Go.Shelf
def Tryf.laysM171_ren : Go.Shelf.Ren := ⟨fun | 171 => 9 | 243 => 11 | 246 => 12 | 283 => 13 | 284 => 14 | 285 => 15 | 286 => 16 | 129 => 18 | 317 => 17 | 318 => 19 | 319 => 20 | 320 => 21 | 337 => 22 | 338 => 23 | n => n, fun | 3 => 3 | 9 => 9 | 2 => 2 | 4 => 4 | 171 => 34 | 0 => 0 | 53 => 35 | 37 => 31 | 5 => 5 | 173 => 38 | 212 => 42 | 51 => 43 | 20 => 20 | 213 => 44 | 46 => 46 | 232 => 49 | 233 => 50 | n => n, fun | 17 => 0 | 18 => 1 | 19 => 2 | n => n⟩
theorem Tryf.laysM171 : Go.Proofs.LaysM.n171 Tryf.prog Tryf.laysM171_ren := {
  mixed := by kernel_rfl
  f129 := Tryf.func18.trans (congrArg some (by kernel_rfl))
  f171 := Tryf.func9.trans (congrArg some (by kernel_rfl))
  f243 := Tryf.func11.trans (congrArg some (by kernel_rfl))
  f246 := Tryf.func12.trans (congrArg some (by kernel_rfl))
  f283 := Tryf.func13.trans (congrArg some (by kernel_rfl))
  f284 := Tryf.func14.trans (congrArg some (by kernel_rfl))
  f285 := Tryf.func15.trans (congrArg some (by kernel_rfl))
  f286 := Tryf.func16.trans (congrArg some (by kernel_rfl))
  f317 := Tryf.func17.trans (congrArg some (by kernel_rfl))
  f318 := Tryf.func19.trans (congrArg some (by kernel_rfl))
  f319 := Tryf.func20.trans (congrArg some (by kernel_rfl))
  f320 := Tryf.func21.trans (congrArg some (by kernel_rfl))
  f337 := Tryf.func22.trans (congrArg some (by kernel_rfl))
  f338 := Tryf.func23.trans (congrArg some (by kernel_rfl))
  t0 := Tryf.underlying0
  a0 := Tryf.isAgg0
  z0 := Tryf.sizeOf0
  v0 := Tryf.zeroValue0
  t2 := Tryf.underlying2
  a2 := Tryf.isAgg2
  z2 := Tryf.sizeOf2
  v2 := Tryf.zeroValue2
  t3 := Tryf.underlying3
  a3 := Tryf.isAgg3
  z3 := Tryf.sizeOf3
  v3 := Tryf.zeroValue3
  t4 := Tryf.underlying4
  a4 := Tryf.isAgg4
  z4 := Tryf.sizeOf4
  v4 := Tryf.zeroValue4
  t5 := Tryf.underlying5
  a5 := Tryf.isAgg5
  z5 := Tryf.sizeOf5
  v5 := Tryf.zeroValue5
  t9 := Tryf.underlying9
  a9 := Tryf.isAgg9
  z9 := Tryf.sizeOf9
  v9 := Tryf.zeroValue9
  t20 := Tryf.underlying20
  a20 := Tryf.isAgg20
  z20 := Tryf.sizeOf20
  v20 := Tryf.zeroValue20
  t37 := Tryf.underlying31
  a37 := Tryf.isAgg31
  z37 := Tryf.sizeOf31
  v37 := Tryf.zeroValue31
  t46 := Tryf.underlying46
  a46 := Tryf.isAgg46
  z46 := Tryf.sizeOf46
  v46 := Tryf.zeroValue46
  t51 := Tryf.underlying43
  a51 := Tryf.isAgg43
  z51 := Tryf.sizeOf43
  v51 := Tryf.zeroValue43
  t53 := Tryf.underlying35
  a53 := Tryf.isAgg35
  z53 := Tryf.sizeOf35
  v53 := Tryf.zeroValue35
  t171 := Tryf.underlying34
  a171 := Tryf.isAgg34
  z171 := Tryf.sizeOf34
  v171 := Tryf.zeroValue34
  t173 := Tryf.underlying38
  a173 := Tryf.isAgg38
  z173 := Tryf.sizeOf38
  v173 := Tryf.zeroValue38
  t212 := Tryf.underlying42
  a212 := Tryf.isAgg42
  z212 := Tryf.sizeOf42
  v212 := Tryf.zeroValue42
  t213 := Tryf.underlying44
  a213 := Tryf.isAgg44
  z213 := Tryf.sizeOf44
  t232 := Tryf.underlying49
  a232 := Tryf.isAgg49
  z232 := Tryf.sizeOf49
  v232 := Tryf.zeroValue49
  t233 := Tryf.underlying50
  a233 := Tryf.isAgg50
  z233 := Tryf.sizeOf50
  v233 := Tryf.zeroValue50
  g17 := by kernel_rfl
  g18 := by kernel_rfl
  g19 := by kernel_rfl
  i0 := by kernel_rfl
  i2 := by kernel_rfl
  i3 := by kernel_rfl
  i4 := by kernel_rfl
  i5 := by kernel_rfl
  i9 := by kernel_rfl
  i20 := by kernel_rfl
  i37 := by kernel_rfl
  i46 := by kernel_rfl
  i51 := by kernel_rfl
  i53 := by kernel_rfl
  i171 := by kernel_rfl
  i173 := by kernel_rfl
  i212 := by kernel_rfl
  i232 := by kernel_rfl
  i233 := by kernel_rfl
  m17 := by kernel_rfl
  m18 := by kernel_rfl
  m19 := by kernel_rfl }
open Go.RowKit Go.Sort Go.Lib in
/-- strconv.Itoa: "Itoa is equivalent to FormatInt(int64(i), 10).": i's DECIMAL NUMERAL ('Lib.itoa': a '-' where i is negative, then the digits), FOR EVERY int. The world behind the call: the world before it, new blocks behind the heap (the library's 'var a [24]byte'), draws. (LAID: no walk: one application.) -/
theorem Tryf.strconv_Itoa (n : Int) (h0 : -9223372036854775808 ≤ n) (h1 : n ≤ 9223372036854775807) (w : World) (htab : Lib.TabIs Tryf.prog w "internal/strconv.uint64pow10" .u64 Lib.pow10Tab) :
    Calls Tryf.prog 9 #[.int .i64 n] w fun e w' => e = .returned (.string ⟨(Lib.itoa n).toArray⟩) ∧ ∃ k os, w' = grow (w.drewN k) os := Any.strconv_Itoa Tryf.laysM171 n h0 h1 w htab
end Go.Proofs
