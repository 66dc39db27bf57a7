/-
  DERIVED: THE SHELF's CONTRACTS AT THIS DUMP, IN PLAIN WORDS (tools/lay-plain.mjs out of 'TrydShelf.lean', which tools/lay-shelf.mjs wrote): THE SAME DECLARATIONS UNDER THE SAME NAMES: 'import', 'namespace', 'open', 'def', 'theorem' AND NOTHING ELSE: no command of the shelf's: FOR A HAND-IN. Each laying: the table of numbers ('.._ren') and one theorem, a field a fact of the dump's own or the kernel's comparison; each contract: ONE APPLICATION.
-/
import Derived.Shelf.Small.Utf8
import Derived.Shelf.Utf8.AppendRune
import Derived.Shelf.Strconv.Bsearch
import Derived.Shelf.Strconv.IsPrint
import Derived.Shelf.Strconv.IsPrint16
import Derived.Shelf.Strconv.IsPrint32
import Derived.Shelf.Strconv.Escaped
import Derived.Shelf.Strconv.Quoted
import Derived.Shelf.Strconv.Quote
import Derived.Shelf.Strconv.Itoa0
import Derived.Shelf.Strconv.Itoa1
import Derived.Shelf.LaysM
import Derived.Shelf.Strconv.Itoa2
import Derived.Shelf.Strconv.Itoa3
import Derived.Shelf.Strconv.Itoa4
import Derived.Shelf.Unicode.Latin
import Derived.Shelf.Unicode.Decode
import Derived.Shelf.Unicode.DecodeSlow
import Derived.Shelf.Unicode.DecodeAny
import Derived.Shelf.Unicode.Is16White
import Derived.Shelf.Unicode.IsSpaceAny
import Derived.Shelf.Unicode.Is16Any
import Derived.Shelf.Unicode.Is32Any
import Derived.Shelf.Unicode.ExclAny
import Derived.Shelf.Unicode.PredsAny
import Derived.Shelf.Unicode.PredsPay
import Derived.Test.YtpniflbleihdoaaDoorProg
namespace Go.Proofs
open Go.Shelf
def Tryd.lays177_ren : Go.Shelf.Ren := ⟨fun | 177 => 38 | 250 => 49 | 289 => 55 | 197 => 63 | 323 => 64 | 260 => 72 | 339 => 73 | 340 => 74 | 242 => 75 | 119 => 76 | 345 => 79 | 346 => 80 | 278 => 81 | n => n, fun | 9 => 9 | 5 => 5 | 4 => 4 | 3 => 3 | 37 => 31 | 21 => 21 | 105 => 94 | 46 => 73 | 119 => 125 | 0 => 0 | 139 => 128 | 138 => 127 | 49 => 118 | 234 => 133 | 131 => 134 | 51 => 110 | 236 => 136 | n => n, fun | 3 => 3 | 4 => 4 | 20 => 5 | 21 => 6 | 22 => 7 | 23 => 8 | 24 => 9 | n => n⟩
theorem Tryd.lays177 : Go.Proofs.Lays.n177 Tryd.prog Tryd.lays177_ren := {
  mixed := by kernel_rfl
  f119 := Tryd.func76.trans (congrArg some (by kernel_rfl))
  f177 := Tryd.func38.trans (congrArg some (by kernel_rfl))
  f197 := Tryd.func63.trans (congrArg some (by kernel_rfl))
  f242 := Tryd.func75.trans (congrArg some (by kernel_rfl))
  f250 := Tryd.func49.trans (congrArg some (by kernel_rfl))
  f260 := Tryd.func72.trans (congrArg some (by kernel_rfl))
  f278 := Tryd.func81.trans (congrArg some (by kernel_rfl))
  f289 := Tryd.func55.trans (congrArg some (by kernel_rfl))
  f323 := Tryd.func64.trans (congrArg some (by kernel_rfl))
  f339 := Tryd.func73.trans (congrArg some (by kernel_rfl))
  f340 := Tryd.func74.trans (congrArg some (by kernel_rfl))
  f345 := Tryd.func79.trans (congrArg some (by kernel_rfl))
  f346 := Tryd.func80.trans (congrArg some (by kernel_rfl))
  t0 := Tryd.underlying0
  a0 := Tryd.isAgg0
  z0 := Tryd.sizeOf0
  v0 := Tryd.zeroValue0
  t3 := Tryd.underlying3
  a3 := Tryd.isAgg3
  z3 := Tryd.sizeOf3
  v3 := Tryd.zeroValue3
  t4 := Tryd.underlying4
  a4 := Tryd.isAgg4
  z4 := Tryd.sizeOf4
  v4 := Tryd.zeroValue4
  t5 := Tryd.underlying5
  a5 := Tryd.isAgg5
  z5 := Tryd.sizeOf5
  v5 := Tryd.zeroValue5
  t9 := Tryd.underlying9
  a9 := Tryd.isAgg9
  z9 := Tryd.sizeOf9
  v9 := Tryd.zeroValue9
  t21 := Tryd.underlying21
  a21 := Tryd.isAgg21
  z21 := Tryd.sizeOf21
  v21 := Tryd.zeroValue21
  t37 := Tryd.underlying31
  a37 := Tryd.isAgg31
  z37 := Tryd.sizeOf31
  v37 := Tryd.zeroValue31
  t46 := Tryd.underlying73
  a46 := Tryd.isAgg73
  z46 := Tryd.sizeOf73
  v46 := Tryd.zeroValue73
  t49 := Tryd.underlying118
  a49 := Tryd.isAgg118
  z49 := Tryd.sizeOf118
  v49 := Tryd.zeroValue118
  t51 := Tryd.underlying110
  a51 := Tryd.isAgg110
  z51 := Tryd.sizeOf110
  v51 := Tryd.zeroValue110
  t105 := Tryd.underlying94
  a105 := Tryd.isAgg94
  z105 := Tryd.sizeOf94
  v105 := Tryd.zeroValue94
  t119 := Tryd.underlying125
  a119 := Tryd.isAgg125
  z119 := Tryd.sizeOf125
  t131 := Tryd.underlying134
  a131 := Tryd.isAgg134
  z131 := Tryd.sizeOf134
  v131 := Tryd.zeroValue134
  t138 := Tryd.underlying127
  a138 := Tryd.isAgg127
  z138 := Tryd.sizeOf127
  v138 := Tryd.zeroValue127
  t139 := Tryd.underlying128
  a139 := Tryd.isAgg128
  z139 := Tryd.sizeOf128
  v139 := Tryd.zeroValue128
  t234 := Tryd.underlying133
  a234 := Tryd.isAgg133
  z234 := Tryd.sizeOf133
  v234 := Tryd.zeroValue133
  t236 := Tryd.underlying136
  a236 := Tryd.isAgg136
  z236 := Tryd.sizeOf136
  v236 := Tryd.zeroValue136
  g3 := by kernel_rfl
  g4 := by kernel_rfl
  g20 := by kernel_rfl
  g21 := by kernel_rfl
  g22 := by kernel_rfl
  g23 := by kernel_rfl
  g24 := by kernel_rfl }
open Go.RowKit in
/-- **strconv.Quote AT EVERY STRING, VALID UTF-8 OR NOT** (of at most some 2^43 bytes: ten bytes may come of one): 'strOfNums (Lib.quoteZ T s)': Derived/Lib/QuoteLoop.lean: a row of Lean a statement of Go. Of what was there nothing has turned. (LAID: no walk: one application.) -/
theorem Tryd.strconv_Quote (T : Lib.PrintTabs) (s : ByteArray) (w : World) (hlen : 10 * s.size + 12 ≤ 140737488355328) (hT : Lib.PrintTabsAt 5 6 7 8 T w) (hU : Lib.Utf8Tabs 3 4 w) :
    Calls Tryd.prog 38 #[.string s] w fun e w' => e = .returned (.string (strOfNums (Lib.quoteZ T s))) ∧ Below w.heap.size w w' := Any.strconv_Quote Tryd.lays177 (by kernel_rfl) T s w hlen hT hU
def Tryd.laysM171_ren : Go.Shelf.Ren := ⟨fun | 171 => 50 | 243 => 56 | 246 => 51 | 283 => 57 | 284 => 58 | 285 => 59 | 286 => 60 | 129 => 66 | 317 => 65 | 318 => 67 | 319 => 68 | 320 => 69 | 337 => 77 | 338 => 78 | n => n, fun | 3 => 3 | 9 => 9 | 2 => 2 | 4 => 4 | 171 => 97 | 0 => 0 | 53 => 98 | 37 => 31 | 5 => 5 | 173 => 101 | 212 => 109 | 51 => 110 | 20 => 20 | 213 => 111 | 46 => 73 | 232 => 138 | 233 => 139 | n => n, fun | 17 => 2 | 18 => 10 | 19 => 11 | n => n⟩
theorem Tryd.laysM171 : Go.Proofs.LaysM.n171 Tryd.prog Tryd.laysM171_ren := {
  mixed := by kernel_rfl
  f129 := Tryd.func66.trans (congrArg some (by kernel_rfl))
  f171 := Tryd.func50.trans (congrArg some (by kernel_rfl))
  f243 := Tryd.func56.trans (congrArg some (by kernel_rfl))
  f246 := Tryd.func51.trans (congrArg some (by kernel_rfl))
  f283 := Tryd.func57.trans (congrArg some (by kernel_rfl))
  f284 := Tryd.func58.trans (congrArg some (by kernel_rfl))
  f285 := Tryd.func59.trans (congrArg some (by kernel_rfl))
  f286 := Tryd.func60.trans (congrArg some (by kernel_rfl))
  f317 := Tryd.func65.trans (congrArg some (by kernel_rfl))
  f318 := Tryd.func67.trans (congrArg some (by kernel_rfl))
  f319 := Tryd.func68.trans (congrArg some (by kernel_rfl))
  f320 := Tryd.func69.trans (congrArg some (by kernel_rfl))
  f337 := Tryd.func77.trans (congrArg some (by kernel_rfl))
  f338 := Tryd.func78.trans (congrArg some (by kernel_rfl))
  t0 := Tryd.underlying0
  a0 := Tryd.isAgg0
  z0 := Tryd.sizeOf0
  v0 := Tryd.zeroValue0
  t2 := Tryd.underlying2
  a2 := Tryd.isAgg2
  z2 := Tryd.sizeOf2
  v2 := Tryd.zeroValue2
  t3 := Tryd.underlying3
  a3 := Tryd.isAgg3
  z3 := Tryd.sizeOf3
  v3 := Tryd.zeroValue3
  t4 := Tryd.underlying4
  a4 := Tryd.isAgg4
  z4 := Tryd.sizeOf4
  v4 := Tryd.zeroValue4
  t5 := Tryd.underlying5
  a5 := Tryd.isAgg5
  z5 := Tryd.sizeOf5
  v5 := Tryd.zeroValue5
  t9 := Tryd.underlying9
  a9 := Tryd.isAgg9
  z9 := Tryd.sizeOf9
  v9 := Tryd.zeroValue9
  t20 := Tryd.underlying20
  a20 := Tryd.isAgg20
  z20 := Tryd.sizeOf20
  v20 := Tryd.zeroValue20
  t37 := Tryd.underlying31
  a37 := Tryd.isAgg31
  z37 := Tryd.sizeOf31
  v37 := Tryd.zeroValue31
  t46 := Tryd.underlying73
  a46 := Tryd.isAgg73
  z46 := Tryd.sizeOf73
  v46 := Tryd.zeroValue73
  t51 := Tryd.underlying110
  a51 := Tryd.isAgg110
  z51 := Tryd.sizeOf110
  v51 := Tryd.zeroValue110
  t53 := Tryd.underlying98
  a53 := Tryd.isAgg98
  z53 := Tryd.sizeOf98
  v53 := Tryd.zeroValue98
  t171 := Tryd.underlying97
  a171 := Tryd.isAgg97
  z171 := Tryd.sizeOf97
  v171 := Tryd.zeroValue97
  t173 := Tryd.underlying101
  a173 := Tryd.isAgg101
  z173 := Tryd.sizeOf101
  v173 := Tryd.zeroValue101
  t212 := Tryd.underlying109
  a212 := Tryd.isAgg109
  z212 := Tryd.sizeOf109
  v212 := Tryd.zeroValue109
  t213 := Tryd.underlying111
  a213 := Tryd.isAgg111
  z213 := Tryd.sizeOf111
  t232 := Tryd.underlying138
  a232 := Tryd.isAgg138
  z232 := Tryd.sizeOf138
  v232 := Tryd.zeroValue138
  t233 := Tryd.underlying139
  a233 := Tryd.isAgg139
  z233 := Tryd.sizeOf139
  v233 := Tryd.zeroValue139
  g17 := by kernel_rfl
  g18 := by kernel_rfl
  g19 := by kernel_rfl
  i0 := by kernel_rfl
  i2 := by kernel_rfl
  i3 := by kernel_rfl
  i4 := by kernel_rfl
  i5 := by kernel_rfl
  i9 := by kernel_rfl
  i20 := by kernel_rfl
  i37 := by kernel_rfl
  i46 := by kernel_rfl
  i51 := by kernel_rfl
  i53 := by kernel_rfl
  i171 := by kernel_rfl
  i173 := by kernel_rfl
  i212 := by kernel_rfl
  i232 := by kernel_rfl
  i233 := by kernel_rfl
  m17 := by kernel_rfl
  m18 := by kernel_rfl
  m19 := by kernel_rfl }
open Go.RowKit Go.Sort Go.Lib in
/-- strconv.Itoa: "Itoa is equivalent to FormatInt(int64(i), 10).": i's DECIMAL NUMERAL ('Lib.itoa': a '-' where i is negative, then the digits), FOR EVERY int. The world behind the call: the world before it, new blocks behind the heap (the library's 'var a [24]byte'), draws. (LAID: no walk: one application.) -/
theorem Tryd.strconv_Itoa (n : Int) (h0 : -9223372036854775808 ≤ n) (h1 : n ≤ 9223372036854775807) (w : World) (htab : Lib.TabIs Tryd.prog w "internal/strconv.uint64pow10" .u64 Lib.pow10Tab) :
    Calls Tryd.prog 50 #[.int .i64 n] w fun e w' => e = .returned (.string ⟨(Lib.itoa n).toArray⟩) ∧ ∃ k os, w' = grow (w.drewN k) os := Any.strconv_Itoa Tryd.laysM171 n h0 h1 w htab
def Tryd.laysM173_ren : Go.Shelf.Ren := ⟨fun | 173 => 43 | 246 => 51 | 283 => 57 | 284 => 58 | 285 => 59 | 286 => 60 | 129 => 66 | 317 => 65 | 318 => 67 | 319 => 68 | 320 => 69 | 337 => 77 | 338 => 78 | n => n, fun | 2 => 2 | 3 => 3 | 9 => 9 | 4 => 4 | 171 => 97 | 0 => 0 | 53 => 98 | 37 => 31 | 5 => 5 | 173 => 101 | 212 => 109 | 51 => 110 | 20 => 20 | 213 => 111 | 46 => 73 | 232 => 138 | 233 => 139 | n => n, fun | 17 => 2 | 18 => 10 | 19 => 11 | n => n⟩
theorem Tryd.laysM173 : Go.Proofs.LaysM.n173 Tryd.prog Tryd.laysM173_ren := {
  mixed := by kernel_rfl
  f129 := Tryd.func66.trans (congrArg some (by kernel_rfl))
  f173 := Tryd.func43.trans (congrArg some (by kernel_rfl))
  f246 := Tryd.func51.trans (congrArg some (by kernel_rfl))
  f283 := Tryd.func57.trans (congrArg some (by kernel_rfl))
  f284 := Tryd.func58.trans (congrArg some (by kernel_rfl))
  f285 := Tryd.func59.trans (congrArg some (by kernel_rfl))
  f286 := Tryd.func60.trans (congrArg some (by kernel_rfl))
  f317 := Tryd.func65.trans (congrArg some (by kernel_rfl))
  f318 := Tryd.func67.trans (congrArg some (by kernel_rfl))
  f319 := Tryd.func68.trans (congrArg some (by kernel_rfl))
  f320 := Tryd.func69.trans (congrArg some (by kernel_rfl))
  f337 := Tryd.func77.trans (congrArg some (by kernel_rfl))
  f338 := Tryd.func78.trans (congrArg some (by kernel_rfl))
  t0 := Tryd.underlying0
  a0 := Tryd.isAgg0
  z0 := Tryd.sizeOf0
  v0 := Tryd.zeroValue0
  t2 := Tryd.underlying2
  a2 := Tryd.isAgg2
  z2 := Tryd.sizeOf2
  v2 := Tryd.zeroValue2
  t3 := Tryd.underlying3
  a3 := Tryd.isAgg3
  z3 := Tryd.sizeOf3
  v3 := Tryd.zeroValue3
  t4 := Tryd.underlying4
  a4 := Tryd.isAgg4
  z4 := Tryd.sizeOf4
  v4 := Tryd.zeroValue4
  t5 := Tryd.underlying5
  a5 := Tryd.isAgg5
  z5 := Tryd.sizeOf5
  v5 := Tryd.zeroValue5
  t9 := Tryd.underlying9
  a9 := Tryd.isAgg9
  z9 := Tryd.sizeOf9
  v9 := Tryd.zeroValue9
  t20 := Tryd.underlying20
  a20 := Tryd.isAgg20
  z20 := Tryd.sizeOf20
  v20 := Tryd.zeroValue20
  t37 := Tryd.underlying31
  a37 := Tryd.isAgg31
  z37 := Tryd.sizeOf31
  v37 := Tryd.zeroValue31
  t46 := Tryd.underlying73
  a46 := Tryd.isAgg73
  z46 := Tryd.sizeOf73
  v46 := Tryd.zeroValue73
  t51 := Tryd.underlying110
  a51 := Tryd.isAgg110
  z51 := Tryd.sizeOf110
  v51 := Tryd.zeroValue110
  t53 := Tryd.underlying98
  a53 := Tryd.isAgg98
  z53 := Tryd.sizeOf98
  v53 := Tryd.zeroValue98
  t171 := Tryd.underlying97
  a171 := Tryd.isAgg97
  z171 := Tryd.sizeOf97
  v171 := Tryd.zeroValue97
  t173 := Tryd.underlying101
  a173 := Tryd.isAgg101
  z173 := Tryd.sizeOf101
  v173 := Tryd.zeroValue101
  t212 := Tryd.underlying109
  a212 := Tryd.isAgg109
  z212 := Tryd.sizeOf109
  v212 := Tryd.zeroValue109
  t213 := Tryd.underlying111
  a213 := Tryd.isAgg111
  z213 := Tryd.sizeOf111
  t232 := Tryd.underlying138
  a232 := Tryd.isAgg138
  z232 := Tryd.sizeOf138
  v232 := Tryd.zeroValue138
  t233 := Tryd.underlying139
  a233 := Tryd.isAgg139
  z233 := Tryd.sizeOf139
  v233 := Tryd.zeroValue139
  g17 := by kernel_rfl
  g18 := by kernel_rfl
  g19 := by kernel_rfl
  i0 := by kernel_rfl
  i2 := by kernel_rfl
  i3 := by kernel_rfl
  i4 := by kernel_rfl
  i5 := by kernel_rfl
  i9 := by kernel_rfl
  i20 := by kernel_rfl
  i37 := by kernel_rfl
  i46 := by kernel_rfl
  i51 := by kernel_rfl
  i53 := by kernel_rfl
  i171 := by kernel_rfl
  i173 := by kernel_rfl
  i212 := by kernel_rfl
  i232 := by kernel_rfl
  i233 := by kernel_rfl
  m17 := by kernel_rfl
  m18 := by kernel_rfl
  m19 := by kernel_rfl }
open Go.RowKit Go.Sort Go.Lib in
/-- strconv.FormatInt: "FormatInt returns the string representation of i in the given base": AT BASE 10: i's decimal numeral, for every int64. (LAID: no walk: one application.) -/
theorem Tryd.strconv_FormatInt_10 (n : Int) (h0 : -9223372036854775808 ≤ n) (h1 : n ≤ 9223372036854775807) (w : World) (htab : Lib.TabIs Tryd.prog w "internal/strconv.uint64pow10" .u64 Lib.pow10Tab) :
    Calls Tryd.prog 43 #[.int .i64 n, .int .i64 10] w fun e w' => e = .returned (.string ⟨(Lib.itoa n).toArray⟩) ∧ ∃ k os, w' = grow (w.drewN k) os := Any.strconv_FormatInt_10 Tryd.laysM173 n h0 h1 w htab
def Tryd.lays198_ren : Go.Shelf.Ren := ⟨fun | 198 => 52 | 261 => 61 | 311 => 70 | 312 => 71 | n => n, fun | 21 => 21 | 4 => 4 | 141 => 104 | 0 => 0 | 196 => 117 | 193 => 114 | 3 => 3 | 51 => 110 | 198 => 120 | 49 => 118 | 194 => 115 | 201 => 123 | 226 => 131 | 46 => 73 | 227 => 132 | n => n, fun | 5 => 1 | n => n⟩
theorem Tryd.lays198 : Go.Proofs.Lays.n198 Tryd.prog Tryd.lays198_ren := {
  mixed := by kernel_rfl
  f198 := Tryd.func52.trans (congrArg some (by kernel_rfl))
  f261 := Tryd.func61.trans (congrArg some (by kernel_rfl))
  f311 := Tryd.func70.trans (congrArg some (by kernel_rfl))
  f312 := Tryd.func71.trans (congrArg some (by kernel_rfl))
  t0 := Tryd.underlying0
  a0 := Tryd.isAgg0
  z0 := Tryd.sizeOf0
  v0 := Tryd.zeroValue0
  t3 := Tryd.underlying3
  a3 := Tryd.isAgg3
  z3 := Tryd.sizeOf3
  v3 := Tryd.zeroValue3
  t4 := Tryd.underlying4
  a4 := Tryd.isAgg4
  z4 := Tryd.sizeOf4
  v4 := Tryd.zeroValue4
  t21 := Tryd.underlying21
  a21 := Tryd.isAgg21
  z21 := Tryd.sizeOf21
  v21 := Tryd.zeroValue21
  t46 := Tryd.underlying73
  a46 := Tryd.isAgg73
  z46 := Tryd.sizeOf73
  v46 := Tryd.zeroValue73
  t49 := Tryd.underlying118
  a49 := Tryd.isAgg118
  z49 := Tryd.sizeOf118
  v49 := Tryd.zeroValue118
  t51 := Tryd.underlying110
  a51 := Tryd.isAgg110
  z51 := Tryd.sizeOf110
  v51 := Tryd.zeroValue110
  t141 := Tryd.underlying104
  a141 := Tryd.isAgg104
  z141 := Tryd.sizeOf104
  v141 := Tryd.zeroValue104
  t193 := Tryd.underlying114
  a193 := Tryd.isAgg114
  z193 := Tryd.sizeOf114
  v193 := Tryd.zeroValue114
  t194 := Tryd.underlying115
  a194 := Tryd.isAgg115
  z194 := Tryd.sizeOf115
  v194 := Tryd.zeroValue115
  t196 := Tryd.underlying117
  a196 := Tryd.isAgg117
  z196 := Tryd.sizeOf117
  v196 := Tryd.zeroValue117
  t198 := Tryd.underlying120
  a198 := Tryd.isAgg120
  z198 := Tryd.sizeOf120
  v198 := Tryd.zeroValue120
  t201 := Tryd.underlying123
  a201 := Tryd.isAgg123
  z201 := Tryd.sizeOf123
  v201 := Tryd.zeroValue123
  t226 := Tryd.underlying131
  a226 := Tryd.isAgg131
  z226 := Tryd.sizeOf131
  v226 := Tryd.zeroValue131
  t227 := Tryd.underlying132
  a227 := Tryd.isAgg132
  z227 := Tryd.sizeOf132
  v227 := Tryd.zeroValue132
  g5 := by kernel_rfl }
open Go.RowKit Go.Lib in
/-- unicode.IsDigit(r) AT EVERY int32: 'Lib.isDigitU r'. (LAID: no walk: one application.) -/
theorem Tryd.unicode_IsDigit_all (r : Int) (w : World) (hlo : -2147483648 ≤ r) (hhi : r ≤ 2147483647) (hV : RVar 1 digitT w) :
    Calls Tryd.prog 52 #[.int .i32 r] w fun e w' => e = .returned (.bool (isDigitU r)) ∧ Below w.heap.size w w' := Any.unicode_IsDigit_all Tryd.lays198 r w hlo hhi hV
end Go.Proofs
