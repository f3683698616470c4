/-
  DERIVED: THE SHELF's CONTRACTS AT THIS DUMP, IN PLAIN WORDS (tools/lay-plain.mjs out of 'TrydShelf.lean', which tools/lay-shelf.mjs wrote): THE SAME DECLARATIONS UNDER THE SAME NAMES: 'import', 'namespace', 'open', 'def', 'theorem' AND NOTHING ELSE: no command of the shelf's: FOR A HAND-IN. Each laying: the table of numbers ('.._ren') and one theorem, a field a fact of the dump's own or the kernel's comparison; each contract: ONE APPLICATION.
-/
import Derived.Shelf.Unicode.Props
import Derived.Shelf.Unicode.DecodeSlow
import Derived.Shelf.Unicode.DecodeAny
import Derived.Shelf.Unicode.ValidAny
import Derived.Shelf.Unicode.PredsAny
import Derived.Shelf.Unicode.PredsPay
import Derived.Test.YtkcijcpffjoomaaDoorProg
namespace Go.Proofs
open Go.Shelf
def Tryd.lays201_ren : Go.Shelf.Ren := ⟨fun | 201 => 11 | 261 => 14 | 311 => 15 | 312 => 16 | n => n, fun | 21 => 21 | 4 => 4 | 51 => 32 | 5 => 5 | 119 => 27 | 0 => 0 | 141 => 34 | 196 => 39 | 193 => 36 | 3 => 3 | 198 => 42 | 49 => 40 | 194 => 37 | 201 => 45 | 226 => 47 | 46 => 31 | 227 => 48 | n => n, fun | 7 => 2 | 9 => 3 | n => n⟩
theorem Tryd.lays201 : Go.Proofs.Lays.n201 Tryd.prog Tryd.lays201_ren := {
  mixed := by kernel_rfl
  f201 := Tryd.func11.trans (congrArg some (by kernel_rfl))
  f261 := Tryd.func14.trans (congrArg some (by kernel_rfl))
  f311 := Tryd.func15.trans (congrArg some (by kernel_rfl))
  f312 := Tryd.func16.trans (congrArg some (by kernel_rfl))
  t0 := Tryd.underlying0
  a0 := Tryd.isAgg0
  z0 := Tryd.sizeOf0
  v0 := Tryd.zeroValue0
  t3 := Tryd.underlying3
  a3 := Tryd.isAgg3
  z3 := Tryd.sizeOf3
  v3 := Tryd.zeroValue3
  t4 := Tryd.underlying4
  a4 := Tryd.isAgg4
  z4 := Tryd.sizeOf4
  v4 := Tryd.zeroValue4
  t5 := Tryd.underlying5
  a5 := Tryd.isAgg5
  z5 := Tryd.sizeOf5
  v5 := Tryd.zeroValue5
  t21 := Tryd.underlying21
  a21 := Tryd.isAgg21
  z21 := Tryd.sizeOf21
  v21 := Tryd.zeroValue21
  t46 := Tryd.underlying31
  a46 := Tryd.isAgg31
  z46 := Tryd.sizeOf31
  v46 := Tryd.zeroValue31
  t49 := Tryd.underlying40
  a49 := Tryd.isAgg40
  z49 := Tryd.sizeOf40
  v49 := Tryd.zeroValue40
  t51 := Tryd.underlying32
  a51 := Tryd.isAgg32
  z51 := Tryd.sizeOf32
  v51 := Tryd.zeroValue32
  t119 := Tryd.underlying27
  a119 := Tryd.isAgg27
  z119 := Tryd.sizeOf27
  t141 := Tryd.underlying34
  a141 := Tryd.isAgg34
  z141 := Tryd.sizeOf34
  v141 := Tryd.zeroValue34
  t193 := Tryd.underlying36
  a193 := Tryd.isAgg36
  z193 := Tryd.sizeOf36
  v193 := Tryd.zeroValue36
  t194 := Tryd.underlying37
  a194 := Tryd.isAgg37
  z194 := Tryd.sizeOf37
  v194 := Tryd.zeroValue37
  t196 := Tryd.underlying39
  a196 := Tryd.isAgg39
  z196 := Tryd.sizeOf39
  v196 := Tryd.zeroValue39
  t198 := Tryd.underlying42
  a198 := Tryd.isAgg42
  z198 := Tryd.sizeOf42
  v198 := Tryd.zeroValue42
  t201 := Tryd.underlying45
  a201 := Tryd.isAgg45
  z201 := Tryd.sizeOf45
  v201 := Tryd.zeroValue45
  t226 := Tryd.underlying47
  a226 := Tryd.isAgg47
  z226 := Tryd.sizeOf47
  v226 := Tryd.zeroValue47
  t227 := Tryd.underlying48
  a227 := Tryd.isAgg48
  z227 := Tryd.sizeOf48
  v227 := Tryd.zeroValue48
  g7 := by kernel_rfl
  g9 := by kernel_rfl }
def Tryd.lays197_ren : Go.Shelf.Ren := ⟨fun | 197 => 10 | 260 => 13 | n => n, fun | 9 => 9 | 21 => 21 | 3 => 3 | 4 => 4 | 5 => 5 | 105 => 23 | 119 => 27 | 0 => 0 | 46 => 31 | 139 => 30 | 138 => 29 | n => n, fun | 3 => 0 | 4 => 1 | n => n⟩
theorem Tryd.lays197 : Go.Proofs.Lays.n197 Tryd.prog Tryd.lays197_ren := {
  mixed := by kernel_rfl
  f197 := Tryd.func10.trans (congrArg some (by kernel_rfl))
  f260 := Tryd.func13.trans (congrArg some (by kernel_rfl))
  t0 := Tryd.underlying0
  a0 := Tryd.isAgg0
  z0 := Tryd.sizeOf0
  v0 := Tryd.zeroValue0
  t3 := Tryd.underlying3
  a3 := Tryd.isAgg3
  z3 := Tryd.sizeOf3
  v3 := Tryd.zeroValue3
  t4 := Tryd.underlying4
  a4 := Tryd.isAgg4
  z4 := Tryd.sizeOf4
  v4 := Tryd.zeroValue4
  t5 := Tryd.underlying5
  a5 := Tryd.isAgg5
  z5 := Tryd.sizeOf5
  v5 := Tryd.zeroValue5
  t9 := Tryd.underlying9
  a9 := Tryd.isAgg9
  z9 := Tryd.sizeOf9
  v9 := Tryd.zeroValue9
  t21 := Tryd.underlying21
  a21 := Tryd.isAgg21
  z21 := Tryd.sizeOf21
  v21 := Tryd.zeroValue21
  t46 := Tryd.underlying31
  a46 := Tryd.isAgg31
  z46 := Tryd.sizeOf31
  v46 := Tryd.zeroValue31
  t105 := Tryd.underlying23
  a105 := Tryd.isAgg23
  z105 := Tryd.sizeOf23
  v105 := Tryd.zeroValue23
  t119 := Tryd.underlying27
  a119 := Tryd.isAgg27
  z119 := Tryd.sizeOf27
  t138 := Tryd.underlying29
  a138 := Tryd.isAgg29
  z138 := Tryd.sizeOf29
  v138 := Tryd.zeroValue29
  t139 := Tryd.underlying30
  a139 := Tryd.isAgg30
  z139 := Tryd.sizeOf30
  v139 := Tryd.zeroValue30
  g3 := by kernel_rfl
  g4 := by kernel_rfl }
open Go.RowKit Go.Lib in
/-- **unicode/utf8.DecodeRuneInString AT EVERY STRING.** (LAID: no walk: one application.) -/
theorem Tryd.utf8_DecodeRuneInString (s : ByteArray) (w : World) (hT : Lib.Utf8Tabs 0 1 w) :
    Calls Tryd.prog 10 #[.string s] w fun e w' => e = .returned (.tuple #[.int .i32 (Lib.decodeGo s).1, .int .i64 (Lib.decodeGo s).2]) ∧ Below w.heap.size w w' := Any.utf8_DecodeRuneInString Tryd.lays197 s w hT
open Go.RowKit Go.Lib in
/-- unicode.IsUpper(r) AT EVERY int32, the tables as their initialisers lay them: 'Lib.isUpperU r'. (LAID: no walk: one application.) -/
theorem Tryd.unicode_IsUpper_all (r : Int) (w : World) (hlo : -2147483648 ≤ r) (hhi : r ≤ 2147483647) (htab : Lib.TabIs Tryd.prog w "unicode.properties" .u8 Lib.propertiesTab) (hV : RVar 3 upperT w) :
    Calls Tryd.prog 11 #[.int .i32 r] w fun e w' => e = .returned (.bool (isUpperU r)) ∧ Below w.heap.size w w' := Any.unicode_IsUpper_all Tryd.lays201 (by kernel_rfl) r w hlo hhi htab hV
def Tryd.lays196_ren : Go.Shelf.Ren := ⟨fun | 196 => 7 | 259 => 12 | n => n, fun | 9 => 9 | 4 => 4 | 3 => 3 | 5 => 5 | 12 => 12 | 119 => 27 | 0 => 0 | 46 => 31 | 139 => 30 | 138 => 29 | 53 => 35 | n => n, fun | 3 => 0 | 4 => 1 | n => n⟩
theorem Tryd.lays196 : Go.Proofs.Lays.n196 Tryd.prog Tryd.lays196_ren := {
  mixed := by kernel_rfl
  f196 := Tryd.func7.trans (congrArg some (by kernel_rfl))
  f259 := Tryd.func12.trans (congrArg some (by kernel_rfl))
  t0 := Tryd.underlying0
  a0 := Tryd.isAgg0
  z0 := Tryd.sizeOf0
  v0 := Tryd.zeroValue0
  t3 := Tryd.underlying3
  a3 := Tryd.isAgg3
  z3 := Tryd.sizeOf3
  v3 := Tryd.zeroValue3
  t4 := Tryd.underlying4
  a4 := Tryd.isAgg4
  z4 := Tryd.sizeOf4
  v4 := Tryd.zeroValue4
  t5 := Tryd.underlying5
  a5 := Tryd.isAgg5
  z5 := Tryd.sizeOf5
  v5 := Tryd.zeroValue5
  t9 := Tryd.underlying9
  a9 := Tryd.isAgg9
  z9 := Tryd.sizeOf9
  v9 := Tryd.zeroValue9
  t12 := Tryd.underlying12
  a12 := Tryd.isAgg12
  z12 := Tryd.sizeOf12
  v12 := Tryd.zeroValue12
  t46 := Tryd.underlying31
  a46 := Tryd.isAgg31
  z46 := Tryd.sizeOf31
  v46 := Tryd.zeroValue31
  t53 := Tryd.underlying35
  a53 := Tryd.isAgg35
  z53 := Tryd.sizeOf35
  v53 := Tryd.zeroValue35
  t119 := Tryd.underlying27
  a119 := Tryd.isAgg27
  z119 := Tryd.sizeOf27
  t138 := Tryd.underlying29
  a138 := Tryd.isAgg29
  z138 := Tryd.sizeOf29
  v138 := Tryd.zeroValue29
  t139 := Tryd.underlying30
  a139 := Tryd.isAgg30
  z139 := Tryd.sizeOf30
  v139 := Tryd.zeroValue30
  g3 := by kernel_rfl
  g4 := by kernel_rfl }
open Go.RowKit Go.Lib in
/-- unicode/utf8.ValidString AT EVERY STRING. -/
theorem Tryd.utf8_ValidString (s : ByteArray) (w : World) (hs : s.size ≤ 9223372036854775807) (hT : Lib.Utf8Tabs 0 1 w) :
    Calls Tryd.prog 7 #[.string s] w fun e w' => e = .returned (.bool (Lib.validD s.data.toList)) ∧ Below w.heap.size w w' := Any.utf8_ValidString Tryd.lays196 s w hs hT
end Go.Proofs
