/-
  DERIVED: THE SHELF's CONTRACTS AT THIS DUMP, IN PLAIN WORDS (tools/lay-plain.mjs out of 'TrydShelf.lean', which tools/lay-shelf.mjs wrote): THE SAME DECLARATIONS UNDER THE SAME NAMES: 'import', 'namespace', 'open', 'def', 'theorem' AND NOTHING ELSE: no command of the shelf's: FOR A HAND-IN. Each laying: the table of numbers ('.._ren') and one theorem, a field a fact of the dump's own or the kernel's comparison; each contract: ONE APPLICATION.
-/
import Derived.Shelf.Strconv.Itoa0
import Derived.Shelf.Strconv.Itoa1
import Derived.Shelf.LaysM
import Derived.Shelf.Strconv.Itoa2
import Derived.Shelf.Strconv.Itoa3
import Derived.Shelf.Unicode.Latin
import Derived.Shelf.Unicode.Props
import Derived.Shelf.Unicode.Is16White
import Derived.Shelf.Unicode.IsSpaceAny
import Derived.Shelf.Unicode.Is16Any
import Derived.Shelf.Unicode.Is32Any
import Derived.Shelf.Unicode.ExclAny
import Derived.Shelf.Unicode.PredsAny
import Derived.Shelf.Unicode.PredsPay
import Derived.Test.YtebahaclnbjnoaaDoorProg
namespace Go.Proofs
open Go.Shelf
def Tryd.laysM171_ren : Go.Shelf.Ren := ⟨fun | 171 => 13 | 243 => 16 | 246 => 19 | 283 => 21 | 284 => 22 | 285 => 23 | 286 => 24 | 129 => 28 | 317 => 27 | 318 => 29 | 319 => 30 | 320 => 31 | 337 => 32 | 338 => 33 | n => n, fun | 3 => 3 | 9 => 9 | 2 => 2 | 4 => 4 | 171 => 36 | 0 => 0 | 53 => 37 | 37 => 40 | 5 => 5 | 173 => 41 | 212 => 56 | 51 => 32 | 20 => 20 | 213 => 57 | 46 => 58 | 232 => 63 | 233 => 64 | n => n, fun | 17 => 4 | 18 => 5 | 19 => 6 | n => n⟩
theorem Tryd.laysM171 : Go.Proofs.LaysM.n171 Tryd.prog Tryd.laysM171_ren := {
  mixed := by kernel_rfl
  f129 := Tryd.func28.trans (congrArg some (by kernel_rfl))
  f171 := Tryd.func13.trans (congrArg some (by kernel_rfl))
  f243 := Tryd.func16.trans (congrArg some (by kernel_rfl))
  f246 := Tryd.func19.trans (congrArg some (by kernel_rfl))
  f283 := Tryd.func21.trans (congrArg some (by kernel_rfl))
  f284 := Tryd.func22.trans (congrArg some (by kernel_rfl))
  f285 := Tryd.func23.trans (congrArg some (by kernel_rfl))
  f286 := Tryd.func24.trans (congrArg some (by kernel_rfl))
  f317 := Tryd.func27.trans (congrArg some (by kernel_rfl))
  f318 := Tryd.func29.trans (congrArg some (by kernel_rfl))
  f319 := Tryd.func30.trans (congrArg some (by kernel_rfl))
  f320 := Tryd.func31.trans (congrArg some (by kernel_rfl))
  f337 := Tryd.func32.trans (congrArg some (by kernel_rfl))
  f338 := Tryd.func33.trans (congrArg some (by kernel_rfl))
  t0 := Tryd.underlying0
  a0 := Tryd.isAgg0
  z0 := Tryd.sizeOf0
  v0 := Tryd.zeroValue0
  t2 := Tryd.underlying2
  a2 := Tryd.isAgg2
  z2 := Tryd.sizeOf2
  v2 := Tryd.zeroValue2
  t3 := Tryd.underlying3
  a3 := Tryd.isAgg3
  z3 := Tryd.sizeOf3
  v3 := Tryd.zeroValue3
  t4 := Tryd.underlying4
  a4 := Tryd.isAgg4
  z4 := Tryd.sizeOf4
  v4 := Tryd.zeroValue4
  t5 := Tryd.underlying5
  a5 := Tryd.isAgg5
  z5 := Tryd.sizeOf5
  v5 := Tryd.zeroValue5
  t9 := Tryd.underlying9
  a9 := Tryd.isAgg9
  z9 := Tryd.sizeOf9
  v9 := Tryd.zeroValue9
  t20 := Tryd.underlying20
  a20 := Tryd.isAgg20
  z20 := Tryd.sizeOf20
  v20 := Tryd.zeroValue20
  t37 := Tryd.underlying40
  a37 := Tryd.isAgg40
  z37 := Tryd.sizeOf40
  v37 := Tryd.zeroValue40
  t46 := Tryd.underlying58
  a46 := Tryd.isAgg58
  z46 := Tryd.sizeOf58
  v46 := Tryd.zeroValue58
  t51 := Tryd.underlying32
  a51 := Tryd.isAgg32
  z51 := Tryd.sizeOf32
  v51 := Tryd.zeroValue32
  t53 := Tryd.underlying37
  a53 := Tryd.isAgg37
  z53 := Tryd.sizeOf37
  v53 := Tryd.zeroValue37
  t171 := Tryd.underlying36
  a171 := Tryd.isAgg36
  z171 := Tryd.sizeOf36
  v171 := Tryd.zeroValue36
  t173 := Tryd.underlying41
  a173 := Tryd.isAgg41
  z173 := Tryd.sizeOf41
  v173 := Tryd.zeroValue41
  t212 := Tryd.underlying56
  a212 := Tryd.isAgg56
  z212 := Tryd.sizeOf56
  v212 := Tryd.zeroValue56
  t213 := Tryd.underlying57
  a213 := Tryd.isAgg57
  z213 := Tryd.sizeOf57
  t232 := Tryd.underlying63
  a232 := Tryd.isAgg63
  z232 := Tryd.sizeOf63
  v232 := Tryd.zeroValue63
  t233 := Tryd.underlying64
  a233 := Tryd.isAgg64
  z233 := Tryd.sizeOf64
  v233 := Tryd.zeroValue64
  g17 := by kernel_rfl
  g18 := by kernel_rfl
  g19 := by kernel_rfl
  i0 := by kernel_rfl
  i2 := by kernel_rfl
  i3 := by kernel_rfl
  i4 := by kernel_rfl
  i5 := by kernel_rfl
  i9 := by kernel_rfl
  i20 := by kernel_rfl
  i37 := by kernel_rfl
  i46 := by kernel_rfl
  i51 := by kernel_rfl
  i53 := by kernel_rfl
  i171 := by kernel_rfl
  i173 := by kernel_rfl
  i212 := by kernel_rfl
  i232 := by kernel_rfl
  i233 := by kernel_rfl
  m17 := by kernel_rfl
  m18 := by kernel_rfl
  m19 := by kernel_rfl }
open Go.RowKit Go.Sort Go.Lib in
/-- strconv.Itoa: "Itoa is equivalent to FormatInt(int64(i), 10).": i's DECIMAL NUMERAL ('Lib.itoa': a '-' where i is negative, then the digits), FOR EVERY int. The world behind the call: the world before it, new blocks behind the heap (the library's 'var a [24]byte'), draws. (LAID: no walk: one application.) -/
theorem Tryd.strconv_Itoa (n : Int) (h0 : -9223372036854775808 ≤ n) (h1 : n ≤ 9223372036854775807) (w : World) (htab : Lib.TabIs Tryd.prog w "internal/strconv.uint64pow10" .u64 Lib.pow10Tab) :
    Calls Tryd.prog 13 #[.int .i64 n] w fun e w' => e = .returned (.string ⟨(Lib.itoa n).toArray⟩) ∧ ∃ k os, w' = grow (w.drewN k) os := Any.strconv_Itoa Tryd.laysM171 n h0 h1 w htab
def Tryd.lays198_ren : Go.Shelf.Ren := ⟨fun | 198 => 18 | 261 => 20 | 311 => 25 | 312 => 26 | n => n, fun | 21 => 21 | 4 => 4 | 141 => 35 | 0 => 0 | 196 => 46 | 193 => 43 | 3 => 3 | 51 => 32 | 198 => 49 | 49 => 47 | 194 => 44 | 201 => 52 | 226 => 60 | 46 => 58 | 227 => 61 | n => n, fun | 5 => 3 | n => n⟩
theorem Tryd.lays198 : Go.Proofs.Lays.n198 Tryd.prog Tryd.lays198_ren := {
  mixed := by kernel_rfl
  f198 := Tryd.func18.trans (congrArg some (by kernel_rfl))
  f261 := Tryd.func20.trans (congrArg some (by kernel_rfl))
  f311 := Tryd.func25.trans (congrArg some (by kernel_rfl))
  f312 := Tryd.func26.trans (congrArg some (by kernel_rfl))
  t0 := Tryd.underlying0
  a0 := Tryd.isAgg0
  z0 := Tryd.sizeOf0
  v0 := Tryd.zeroValue0
  t3 := Tryd.underlying3
  a3 := Tryd.isAgg3
  z3 := Tryd.sizeOf3
  v3 := Tryd.zeroValue3
  t4 := Tryd.underlying4
  a4 := Tryd.isAgg4
  z4 := Tryd.sizeOf4
  v4 := Tryd.zeroValue4
  t21 := Tryd.underlying21
  a21 := Tryd.isAgg21
  z21 := Tryd.sizeOf21
  v21 := Tryd.zeroValue21
  t46 := Tryd.underlying58
  a46 := Tryd.isAgg58
  z46 := Tryd.sizeOf58
  v46 := Tryd.zeroValue58
  t49 := Tryd.underlying47
  a49 := Tryd.isAgg47
  z49 := Tryd.sizeOf47
  v49 := Tryd.zeroValue47
  t51 := Tryd.underlying32
  a51 := Tryd.isAgg32
  z51 := Tryd.sizeOf32
  v51 := Tryd.zeroValue32
  t141 := Tryd.underlying35
  a141 := Tryd.isAgg35
  z141 := Tryd.sizeOf35
  v141 := Tryd.zeroValue35
  t193 := Tryd.underlying43
  a193 := Tryd.isAgg43
  z193 := Tryd.sizeOf43
  v193 := Tryd.zeroValue43
  t194 := Tryd.underlying44
  a194 := Tryd.isAgg44
  z194 := Tryd.sizeOf44
  v194 := Tryd.zeroValue44
  t196 := Tryd.underlying46
  a196 := Tryd.isAgg46
  z196 := Tryd.sizeOf46
  v196 := Tryd.zeroValue46
  t198 := Tryd.underlying49
  a198 := Tryd.isAgg49
  z198 := Tryd.sizeOf49
  v198 := Tryd.zeroValue49
  t201 := Tryd.underlying52
  a201 := Tryd.isAgg52
  z201 := Tryd.sizeOf52
  v201 := Tryd.zeroValue52
  t226 := Tryd.underlying60
  a226 := Tryd.isAgg60
  z226 := Tryd.sizeOf60
  v226 := Tryd.zeroValue60
  t227 := Tryd.underlying61
  a227 := Tryd.isAgg61
  z227 := Tryd.sizeOf61
  v227 := Tryd.zeroValue61
  g5 := by kernel_rfl }
def Tryd.lays200_ren : Go.Shelf.Ren := ⟨fun | 200 => 17 | 261 => 20 | 311 => 25 | 312 => 26 | n => n, fun | 21 => 21 | 4 => 4 | 51 => 32 | 5 => 5 | 119 => 33 | 0 => 0 | 141 => 35 | 196 => 46 | 193 => 43 | 3 => 3 | 198 => 49 | 49 => 47 | 194 => 44 | 201 => 52 | 226 => 60 | 46 => 58 | 227 => 61 | n => n, fun | 7 => 1 | 8 => 2 | n => n⟩
theorem Tryd.lays200 : Go.Proofs.Lays.n200 Tryd.prog Tryd.lays200_ren := {
  mixed := by kernel_rfl
  f200 := Tryd.func17.trans (congrArg some (by kernel_rfl))
  f261 := Tryd.func20.trans (congrArg some (by kernel_rfl))
  f311 := Tryd.func25.trans (congrArg some (by kernel_rfl))
  f312 := Tryd.func26.trans (congrArg some (by kernel_rfl))
  t0 := Tryd.underlying0
  a0 := Tryd.isAgg0
  z0 := Tryd.sizeOf0
  v0 := Tryd.zeroValue0
  t3 := Tryd.underlying3
  a3 := Tryd.isAgg3
  z3 := Tryd.sizeOf3
  v3 := Tryd.zeroValue3
  t4 := Tryd.underlying4
  a4 := Tryd.isAgg4
  z4 := Tryd.sizeOf4
  v4 := Tryd.zeroValue4
  t5 := Tryd.underlying5
  a5 := Tryd.isAgg5
  z5 := Tryd.sizeOf5
  v5 := Tryd.zeroValue5
  t21 := Tryd.underlying21
  a21 := Tryd.isAgg21
  z21 := Tryd.sizeOf21
  v21 := Tryd.zeroValue21
  t46 := Tryd.underlying58
  a46 := Tryd.isAgg58
  z46 := Tryd.sizeOf58
  v46 := Tryd.zeroValue58
  t49 := Tryd.underlying47
  a49 := Tryd.isAgg47
  z49 := Tryd.sizeOf47
  v49 := Tryd.zeroValue47
  t51 := Tryd.underlying32
  a51 := Tryd.isAgg32
  z51 := Tryd.sizeOf32
  v51 := Tryd.zeroValue32
  t119 := Tryd.underlying33
  a119 := Tryd.isAgg33
  z119 := Tryd.sizeOf33
  t141 := Tryd.underlying35
  a141 := Tryd.isAgg35
  z141 := Tryd.sizeOf35
  v141 := Tryd.zeroValue35
  t193 := Tryd.underlying43
  a193 := Tryd.isAgg43
  z193 := Tryd.sizeOf43
  v193 := Tryd.zeroValue43
  t194 := Tryd.underlying44
  a194 := Tryd.isAgg44
  z194 := Tryd.sizeOf44
  v194 := Tryd.zeroValue44
  t196 := Tryd.underlying46
  a196 := Tryd.isAgg46
  z196 := Tryd.sizeOf46
  v196 := Tryd.zeroValue46
  t198 := Tryd.underlying49
  a198 := Tryd.isAgg49
  z198 := Tryd.sizeOf49
  v198 := Tryd.zeroValue49
  t201 := Tryd.underlying52
  a201 := Tryd.isAgg52
  z201 := Tryd.sizeOf52
  v201 := Tryd.zeroValue52
  t226 := Tryd.underlying60
  a226 := Tryd.isAgg60
  z226 := Tryd.sizeOf60
  v226 := Tryd.zeroValue60
  t227 := Tryd.underlying61
  a227 := Tryd.isAgg61
  z227 := Tryd.sizeOf61
  v227 := Tryd.zeroValue61
  g7 := by kernel_rfl
  g8 := by kernel_rfl }
open Go.RowKit Go.Lib in
/-- unicode.IsLetter(r) AT EVERY int32, the tables as their initialisers lay them: 'Lib.isLetterU r'. (LAID: no walk: one application.) -/
theorem Tryd.unicode_IsLetter_all (r : Int) (w : World) (hlo : -2147483648 ≤ r) (hhi : r ≤ 2147483647) (htab : Lib.TabIs Tryd.prog w "unicode.properties" .u8 Lib.propertiesTab) (hV : RVar 2 letterT w) :
    Calls Tryd.prog 17 #[.int .i32 r] w fun e w' => e = .returned (.bool (isLetterU r)) ∧ Below w.heap.size w w' := Any.unicode_IsLetter_all Tryd.lays200 (by kernel_rfl) r w hlo hhi htab hV
open Go.RowKit Go.Lib in
/-- unicode.IsDigit(r) AT EVERY int32: 'Lib.isDigitU r'. (LAID: no walk: one application.) -/
theorem Tryd.unicode_IsDigit_all (r : Int) (w : World) (hlo : -2147483648 ≤ r) (hhi : r ≤ 2147483647) (hV : RVar 3 digitT w) :
    Calls Tryd.prog 18 #[.int .i32 r] w fun e w' => e = .returned (.bool (isDigitU r)) ∧ Below w.heap.size w w' := Any.unicode_IsDigit_all Tryd.lays198 r w hlo hhi hV
end Go.Proofs
