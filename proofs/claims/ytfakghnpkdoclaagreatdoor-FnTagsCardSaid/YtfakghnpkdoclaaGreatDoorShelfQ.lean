/-
  DERIVED: THE SHELF's CONTRACTS AT THIS DUMP, IN PLAIN WORDS (tools/lay-plain.mjs out of 'TryzShelf.lean', which tools/lay-shelf.mjs wrote): THE SAME DECLARATIONS UNDER THE SAME NAMES: 'import', 'namespace', 'open', 'def', 'theorem' AND NOTHING ELSE: no command of the shelf's: FOR A HAND-IN. Each laying: the table of numbers ('.._ren') and one theorem, a field a fact of the dump's own or the kernel's comparison; each contract: ONE APPLICATION.
-/
import Derived.Shelf.Strconv.Quote
import Derived.Test.YtfakghnpkdoclaaGreatDoorProg
namespace Go.Proofs
open Go.Shelf
def Tryz.lays177_ren : Go.Shelf.Ren := ⟨fun | 177 => 111 | 250 => 122 | 289 => 126 | 197 => 109 | 323 => 131 | 260 => 121 | 339 => 137 | 340 => 138 | 242 => 139 | 119 => 140 | 345 => 143 | 346 => 144 | 278 => 145 | n => n, fun | 9 => 9 | 5 => 5 | 4 => 4 | 3 => 3 | 37 => 121 | 21 => 21 | 105 => 199 | 46 => 132 | 119 => 182 | 0 => 0 | 139 => 227 | 138 => 226 | 49 => 212 | 234 => 245 | 131 => 246 | 51 => 195 | 236 => 248 | n => n, fun | 3 => 3 | 4 => 4 | 20 => 6 | 21 => 7 | 22 => 8 | 23 => 9 | 24 => 10 | n => n⟩
theorem Tryz.lays177 : Go.Proofs.Lays.n177 Tryz.prog Tryz.lays177_ren := {
  mixed := by kernel_rfl
  f119 := Tryz.func140.trans (congrArg some (by kernel_rfl))
  f177 := Tryz.func111.trans (congrArg some (by kernel_rfl))
  f197 := Tryz.func109.trans (congrArg some (by kernel_rfl))
  f242 := Tryz.func139.trans (congrArg some (by kernel_rfl))
  f250 := Tryz.func122.trans (congrArg some (by kernel_rfl))
  f260 := Tryz.func121.trans (congrArg some (by kernel_rfl))
  f278 := Tryz.func145.trans (congrArg some (by kernel_rfl))
  f289 := Tryz.func126.trans (congrArg some (by kernel_rfl))
  f323 := Tryz.func131.trans (congrArg some (by kernel_rfl))
  f339 := Tryz.func137.trans (congrArg some (by kernel_rfl))
  f340 := Tryz.func138.trans (congrArg some (by kernel_rfl))
  f345 := Tryz.func143.trans (congrArg some (by kernel_rfl))
  f346 := Tryz.func144.trans (congrArg some (by kernel_rfl))
  t0 := Tryz.underlying0
  a0 := Tryz.isAgg0
  z0 := Tryz.sizeOf0
  v0 := Tryz.zeroValue0
  t3 := Tryz.underlying3
  a3 := Tryz.isAgg3
  z3 := Tryz.sizeOf3
  v3 := Tryz.zeroValue3
  t4 := Tryz.underlying4
  a4 := Tryz.isAgg4
  z4 := Tryz.sizeOf4
  v4 := Tryz.zeroValue4
  t5 := Tryz.underlying5
  a5 := Tryz.isAgg5
  z5 := Tryz.sizeOf5
  v5 := Tryz.zeroValue5
  t9 := Tryz.underlying9
  a9 := Tryz.isAgg9
  z9 := Tryz.sizeOf9
  v9 := Tryz.zeroValue9
  t21 := Tryz.underlying21
  a21 := Tryz.isAgg21
  z21 := Tryz.sizeOf21
  v21 := Tryz.zeroValue21
  t37 := Tryz.underlying121
  a37 := Tryz.isAgg121
  z37 := Tryz.sizeOf121
  v37 := Tryz.zeroValue121
  t46 := Tryz.underlying132
  a46 := Tryz.isAgg132
  z46 := Tryz.sizeOf132
  v46 := Tryz.zeroValue132
  t49 := Tryz.underlying212
  a49 := Tryz.isAgg212
  z49 := Tryz.sizeOf212
  v49 := Tryz.zeroValue212
  t51 := Tryz.underlying195
  a51 := Tryz.isAgg195
  z51 := Tryz.sizeOf195
  v51 := Tryz.zeroValue195
  t105 := Tryz.underlying199
  a105 := Tryz.isAgg199
  z105 := Tryz.sizeOf199
  v105 := Tryz.zeroValue199
  t119 := Tryz.underlying182
  a119 := Tryz.isAgg182
  z119 := Tryz.sizeOf182
  t131 := Tryz.underlying246
  a131 := Tryz.isAgg246
  z131 := Tryz.sizeOf246
  v131 := Tryz.zeroValue246
  t138 := Tryz.underlying226
  a138 := Tryz.isAgg226
  z138 := Tryz.sizeOf226
  v138 := Tryz.zeroValue226
  t139 := Tryz.underlying227
  a139 := Tryz.isAgg227
  z139 := Tryz.sizeOf227
  v139 := Tryz.zeroValue227
  t234 := Tryz.underlying245
  a234 := Tryz.isAgg245
  z234 := Tryz.sizeOf245
  v234 := Tryz.zeroValue245
  t236 := Tryz.underlying248
  a236 := Tryz.isAgg248
  z236 := Tryz.sizeOf248
  v236 := Tryz.zeroValue248
  g3 := by kernel_rfl
  g4 := by kernel_rfl
  g20 := by kernel_rfl
  g21 := by kernel_rfl
  g22 := by kernel_rfl
  g23 := by kernel_rfl
  g24 := by kernel_rfl }
open Go.RowKit in
/-- **strconv.Quote AT EVERY STRING, VALID UTF-8 OR NOT** (of at most some 2^43 bytes: ten bytes may come of one): 'strOfNums (Lib.quoteZ T s)': Derived/Lib/QuoteLoop.lean: a row of Lean a statement of Go. Of what was there nothing has turned. (LAID: no walk: one application.) -/
theorem Tryz.strconv_Quote (T : Lib.PrintTabs) (s : ByteArray) (w : World) (hlen : 10 * s.size + 12 ≤ 140737488355328) (hT : Lib.PrintTabsAt 6 7 8 9 T w) (hU : Lib.Utf8Tabs 3 4 w) :
    Calls Tryz.prog 111 #[.string s] w fun e w' => e = .returned (.string (strOfNums (Lib.quoteZ T s))) ∧ Below w.heap.size w w' := Any.strconv_Quote Tryz.lays177 (by kernel_rfl) T s w hlen hT hU
end Go.Proofs
