/-
  DERIVED: THE SHELF's CONTRACTS AT THIS DUMP, IN PLAIN WORDS (tools/lay-plain.mjs out of 'TryzShelf.lean', which tools/lay-shelf.mjs wrote): THE SAME DECLARATIONS UNDER THE SAME NAMES: 'import', 'namespace', 'open', 'def', 'theorem' AND NOTHING ELSE: no command of the shelf's: FOR A HAND-IN. Each laying: the table of numbers ('.._ren') and one theorem, a field a fact of the dump's own or the kernel's comparison; each contract: ONE APPLICATION.
-/
import Derived.Shelf.Strings.TrimSpace
import Derived.Shelf.Small.Wraps
import Derived.Shelf.Strconv.Itoa0
import Derived.Shelf.Strconv.Itoa1
import Derived.Shelf.LaysM
import Derived.Shelf.Strconv.Itoa2
import Derived.Shelf.Strconv.Itoa3
import Derived.Shelf.Strconv.Itoa4
import Derived.Shelf.Bytes.Len
import Derived.Shelf.Bytes.TryGrow
import Derived.Shelf.Bytes.GrowSliceCatch
import Derived.Shelf.Bytes.GrowSlice
import Derived.Shelf.Bytes.String
import Derived.Test.YtfakghnpkdoclaaGreatDoorProg
namespace Go.Proofs
open Go.Shelf
def Tryz.lays163_ren : Go.Shelf.Ren := ⟨fun | 163 => 88 | 237 => 97 | 199 => 98 | 238 => 99 | 272 => 106 | 261 => 107 | 273 => 108 | 197 => 109 | 315 => 117 | 311 => 118 | 312 => 119 | 271 => 120 | 260 => 121 | 120 => 125 | n => n, fun | 9 => 9 | 37 => 121 | 3 => 3 | 0 => 0 | 5 => 5 | 4 => 4 | 40 => 181 | 119 => 182 | 21 => 21 | 51 => 195 | 141 => 197 | 105 => 199 | 196 => 211 | 193 => 208 | 198 => 214 | 49 => 212 | 194 => 209 | 201 => 217 | 226 => 223 | 46 => 132 | 227 => 224 | 139 => 227 | 138 => 226 | n => n, fun | 0 => 1 | 6 => 2 | 3 => 3 | 4 => 4 | n => n⟩
theorem Tryz.lays163 : Go.Proofs.Lays.n163 Tryz.prog Tryz.lays163_ren := {
  mixed := by kernel_rfl
  f120 := Tryz.func125.trans (congrArg some (by kernel_rfl))
  f163 := Tryz.func88.trans (congrArg some (by kernel_rfl))
  f197 := Tryz.func109.trans (congrArg some (by kernel_rfl))
  f199 := Tryz.func98.trans (congrArg some (by kernel_rfl))
  f237 := Tryz.func97.trans (congrArg some (by kernel_rfl))
  f238 := Tryz.func99.trans (congrArg some (by kernel_rfl))
  f260 := Tryz.func121.trans (congrArg some (by kernel_rfl))
  f261 := Tryz.func107.trans (congrArg some (by kernel_rfl))
  f271 := Tryz.func120.trans (congrArg some (by kernel_rfl))
  f272 := Tryz.func106.trans (congrArg some (by kernel_rfl))
  f273 := Tryz.func108.trans (congrArg some (by kernel_rfl))
  f311 := Tryz.func118.trans (congrArg some (by kernel_rfl))
  f312 := Tryz.func119.trans (congrArg some (by kernel_rfl))
  f315 := Tryz.func117.trans (congrArg some (by kernel_rfl))
  t0 := Tryz.underlying0
  a0 := Tryz.isAgg0
  z0 := Tryz.sizeOf0
  v0 := Tryz.zeroValue0
  t3 := Tryz.underlying3
  a3 := Tryz.isAgg3
  z3 := Tryz.sizeOf3
  v3 := Tryz.zeroValue3
  t4 := Tryz.underlying4
  a4 := Tryz.isAgg4
  z4 := Tryz.sizeOf4
  v4 := Tryz.zeroValue4
  t5 := Tryz.underlying5
  a5 := Tryz.isAgg5
  z5 := Tryz.sizeOf5
  v5 := Tryz.zeroValue5
  t9 := Tryz.underlying9
  a9 := Tryz.isAgg9
  z9 := Tryz.sizeOf9
  v9 := Tryz.zeroValue9
  t21 := Tryz.underlying21
  a21 := Tryz.isAgg21
  z21 := Tryz.sizeOf21
  v21 := Tryz.zeroValue21
  t37 := Tryz.underlying121
  a37 := Tryz.isAgg121
  z37 := Tryz.sizeOf121
  v37 := Tryz.zeroValue121
  t40 := Tryz.underlying181
  a40 := Tryz.isAgg181
  z40 := Tryz.sizeOf181
  v40 := Tryz.zeroValue181
  t46 := Tryz.underlying132
  a46 := Tryz.isAgg132
  z46 := Tryz.sizeOf132
  v46 := Tryz.zeroValue132
  t49 := Tryz.underlying212
  a49 := Tryz.isAgg212
  z49 := Tryz.sizeOf212
  v49 := Tryz.zeroValue212
  t51 := Tryz.underlying195
  a51 := Tryz.isAgg195
  z51 := Tryz.sizeOf195
  v51 := Tryz.zeroValue195
  t105 := Tryz.underlying199
  a105 := Tryz.isAgg199
  z105 := Tryz.sizeOf199
  v105 := Tryz.zeroValue199
  t119 := Tryz.underlying182
  a119 := Tryz.isAgg182
  z119 := Tryz.sizeOf182
  t138 := Tryz.underlying226
  a138 := Tryz.isAgg226
  z138 := Tryz.sizeOf226
  v138 := Tryz.zeroValue226
  t139 := Tryz.underlying227
  a139 := Tryz.isAgg227
  z139 := Tryz.sizeOf227
  v139 := Tryz.zeroValue227
  t141 := Tryz.underlying197
  a141 := Tryz.isAgg197
  z141 := Tryz.sizeOf197
  v141 := Tryz.zeroValue197
  t193 := Tryz.underlying208
  a193 := Tryz.isAgg208
  z193 := Tryz.sizeOf208
  v193 := Tryz.zeroValue208
  t194 := Tryz.underlying209
  a194 := Tryz.isAgg209
  z194 := Tryz.sizeOf209
  v194 := Tryz.zeroValue209
  t196 := Tryz.underlying211
  a196 := Tryz.isAgg211
  z196 := Tryz.sizeOf211
  v196 := Tryz.zeroValue211
  t198 := Tryz.underlying214
  a198 := Tryz.isAgg214
  z198 := Tryz.sizeOf214
  v198 := Tryz.zeroValue214
  t201 := Tryz.underlying217
  a201 := Tryz.isAgg217
  z201 := Tryz.sizeOf217
  v201 := Tryz.zeroValue217
  t226 := Tryz.underlying223
  a226 := Tryz.isAgg223
  z226 := Tryz.sizeOf223
  v226 := Tryz.zeroValue223
  t227 := Tryz.underlying224
  a227 := Tryz.isAgg224
  z227 := Tryz.sizeOf224
  v227 := Tryz.zeroValue224
  g0 := by kernel_rfl
  g3 := by kernel_rfl
  g4 := by kernel_rfl
  g6 := by kernel_rfl }
theorem Tryz.Space_Extra_163 : Space.Extra Tryz.prog Tryz.lays163_ren := {
  gNamed := by kernel_rfl }
open Go.RowKit in
theorem Tryz.strings_TrimSpace (s : ByteArray) (w : World) (hs : s.size ≤ 9223372036854775807) (hascii : ∀ (j : Nat) b, s.data.toList[j]? = some b → b.toNat < 128) (htab : Lib.TabIs Tryz.prog w "strings.asciiSpace" .u8 Lib.asciiSpaceTab) :
    Calls Tryz.prog 88 #[.string s] w fun e w' => e = .returned (.string ⟨(Lib.trimSpace s.data.toList).toArray⟩) ∧ w' = Lib.bytesWorld w 5 s := Any.strings_TrimSpace Tryz.lays163 Tryz.Space_Extra_163 s w hs hascii htab
def Tryz.lays121_ren : Go.Shelf.Ren := ⟨fun | 121 => 113 | 214 => 124 | n => n, fun | 4 => 4 | 9 => 9 | n => n, fun | n => n⟩
theorem Tryz.lays121 : Go.Proofs.Lays.n121 Tryz.prog Tryz.lays121_ren := {
  mixed := by kernel_rfl
  f121 := Tryz.func113.trans (congrArg some (by kernel_rfl))
  f214 := Tryz.func124.trans (congrArg some (by kernel_rfl))
  t4 := Tryz.underlying4
  a4 := Tryz.isAgg4
  z4 := Tryz.sizeOf4
  v4 := Tryz.zeroValue4
  t9 := Tryz.underlying9
  a9 := Tryz.isAgg9
  z9 := Tryz.sizeOf9
  v9 := Tryz.zeroValue9 }
open Go.RowKit in
/-- strconv.FormatBool: "FormatBool returns "true" or "false" according to the value of b.": IT RETURNS 'Lib.formatBool b'; the world is as it was. (LAID: no walk: one application.) -/
theorem Tryz.strconv_FormatBool (b : Bool) (w : World) :
    Calls Tryz.prog 113 #[.bool b] w fun e w' => e = .returned (.string ⟨(Lib.formatBool b).toArray⟩) ∧ w' = w := Any.strconv_FormatBool Tryz.lays121 b w
def Tryz.laysM173_ren : Go.Shelf.Ren := ⟨fun | 173 => 112 | 246 => 123 | 283 => 127 | 284 => 128 | 285 => 129 | 286 => 130 | 129 => 133 | 317 => 132 | 318 => 134 | 319 => 135 | 320 => 136 | 337 => 141 | 338 => 142 | n => n, fun | 2 => 2 | 3 => 3 | 9 => 9 | 4 => 4 | 171 => 230 | 0 => 0 | 53 => 231 | 37 => 121 | 5 => 5 | 173 => 234 | 212 => 239 | 51 => 195 | 20 => 20 | 213 => 240 | 46 => 132 | 232 => 250 | 233 => 251 | n => n, fun | 17 => 5 | 18 => 11 | 19 => 12 | n => n⟩
theorem Tryz.laysM173 : Go.Proofs.LaysM.n173 Tryz.prog Tryz.laysM173_ren := {
  mixed := by kernel_rfl
  f129 := Tryz.func133.trans (congrArg some (by kernel_rfl))
  f173 := Tryz.func112.trans (congrArg some (by kernel_rfl))
  f246 := Tryz.func123.trans (congrArg some (by kernel_rfl))
  f283 := Tryz.func127.trans (congrArg some (by kernel_rfl))
  f284 := Tryz.func128.trans (congrArg some (by kernel_rfl))
  f285 := Tryz.func129.trans (congrArg some (by kernel_rfl))
  f286 := Tryz.func130.trans (congrArg some (by kernel_rfl))
  f317 := Tryz.func132.trans (congrArg some (by kernel_rfl))
  f318 := Tryz.func134.trans (congrArg some (by kernel_rfl))
  f319 := Tryz.func135.trans (congrArg some (by kernel_rfl))
  f320 := Tryz.func136.trans (congrArg some (by kernel_rfl))
  f337 := Tryz.func141.trans (congrArg some (by kernel_rfl))
  f338 := Tryz.func142.trans (congrArg some (by kernel_rfl))
  t0 := Tryz.underlying0
  a0 := Tryz.isAgg0
  z0 := Tryz.sizeOf0
  v0 := Tryz.zeroValue0
  t2 := Tryz.underlying2
  a2 := Tryz.isAgg2
  z2 := Tryz.sizeOf2
  v2 := Tryz.zeroValue2
  t3 := Tryz.underlying3
  a3 := Tryz.isAgg3
  z3 := Tryz.sizeOf3
  v3 := Tryz.zeroValue3
  t4 := Tryz.underlying4
  a4 := Tryz.isAgg4
  z4 := Tryz.sizeOf4
  v4 := Tryz.zeroValue4
  t5 := Tryz.underlying5
  a5 := Tryz.isAgg5
  z5 := Tryz.sizeOf5
  v5 := Tryz.zeroValue5
  t9 := Tryz.underlying9
  a9 := Tryz.isAgg9
  z9 := Tryz.sizeOf9
  v9 := Tryz.zeroValue9
  t20 := Tryz.underlying20
  a20 := Tryz.isAgg20
  z20 := Tryz.sizeOf20
  v20 := Tryz.zeroValue20
  t37 := Tryz.underlying121
  a37 := Tryz.isAgg121
  z37 := Tryz.sizeOf121
  v37 := Tryz.zeroValue121
  t46 := Tryz.underlying132
  a46 := Tryz.isAgg132
  z46 := Tryz.sizeOf132
  v46 := Tryz.zeroValue132
  t51 := Tryz.underlying195
  a51 := Tryz.isAgg195
  z51 := Tryz.sizeOf195
  v51 := Tryz.zeroValue195
  t53 := Tryz.underlying231
  a53 := Tryz.isAgg231
  z53 := Tryz.sizeOf231
  v53 := Tryz.zeroValue231
  t171 := Tryz.underlying230
  a171 := Tryz.isAgg230
  z171 := Tryz.sizeOf230
  v171 := Tryz.zeroValue230
  t173 := Tryz.underlying234
  a173 := Tryz.isAgg234
  z173 := Tryz.sizeOf234
  v173 := Tryz.zeroValue234
  t212 := Tryz.underlying239
  a212 := Tryz.isAgg239
  z212 := Tryz.sizeOf239
  v212 := Tryz.zeroValue239
  t213 := Tryz.underlying240
  a213 := Tryz.isAgg240
  z213 := Tryz.sizeOf240
  t232 := Tryz.underlying250
  a232 := Tryz.isAgg250
  z232 := Tryz.sizeOf250
  v232 := Tryz.zeroValue250
  t233 := Tryz.underlying251
  a233 := Tryz.isAgg251
  z233 := Tryz.sizeOf251
  v233 := Tryz.zeroValue251
  g17 := by kernel_rfl
  g18 := by kernel_rfl
  g19 := by kernel_rfl
  i0 := by kernel_rfl
  i2 := by kernel_rfl
  i3 := by kernel_rfl
  i4 := by kernel_rfl
  i5 := by kernel_rfl
  i9 := by kernel_rfl
  i20 := by kernel_rfl
  i37 := by kernel_rfl
  i46 := by kernel_rfl
  i51 := by kernel_rfl
  i53 := by kernel_rfl
  i171 := by kernel_rfl
  i173 := by kernel_rfl
  i212 := by kernel_rfl
  i232 := by kernel_rfl
  i233 := by kernel_rfl
  m17 := by kernel_rfl
  m18 := by kernel_rfl
  m19 := by kernel_rfl }
open Go.RowKit Go.Sort Go.Lib in
/-- strconv.FormatInt: "FormatInt returns the string representation of i in the given base": AT BASE 10: i's decimal numeral, for every int64. (LAID: no walk: one application.) -/
theorem Tryz.strconv_FormatInt_10 (n : Int) (h0 : -9223372036854775808 ≤ n) (h1 : n ≤ 9223372036854775807) (w : World) (htab : Lib.TabIs Tryz.prog w "internal/strconv.uint64pow10" .u64 Lib.pow10Tab) :
    Calls Tryz.prog 112 #[.int .i64 n, .int .i64 10] w fun e w' => e = .returned (.string ⟨(Lib.itoa n).toArray⟩) ∧ ∃ k os, w' = grow (w.drewN k) os := Any.strconv_FormatInt_10 Tryz.laysM173 n h0 h1 w htab
def Tryz.laysM251_ren : Go.Shelf.Ren := ⟨fun | 251 => 165 | n => n, fun | 130 => 127 | 3 => 3 | 4 => 4 | 0 => 0 | 93 => 125 | 37 => 121 | 91 => 123 | 5 => 5 | n => n, fun | n => n⟩
theorem Tryz.laysM251 : Go.Proofs.LaysM.n251 Tryz.prog Tryz.laysM251_ren := {
  mixed := by kernel_rfl
  f251 := Tryz.func165.trans (congrArg some (by kernel_rfl))
  t0 := Tryz.underlying0
  a0 := Tryz.isAgg0
  z0 := Tryz.sizeOf0
  v0 := Tryz.zeroValue0
  t3 := Tryz.underlying3
  a3 := Tryz.isAgg3
  z3 := Tryz.sizeOf3
  v3 := Tryz.zeroValue3
  t4 := Tryz.underlying4
  a4 := Tryz.isAgg4
  z4 := Tryz.sizeOf4
  v4 := Tryz.zeroValue4
  t37 := Tryz.underlying121
  a37 := Tryz.isAgg121
  z37 := Tryz.sizeOf121
  v37 := Tryz.zeroValue121
  t93 := Tryz.underlying125
  a93 := Tryz.isAgg125
  z93 := Tryz.sizeOf125
  v93 := Tryz.zeroValue125
  t130 := Tryz.underlying127
  a130 := Tryz.isAgg127
  z130 := Tryz.sizeOf127
  v130 := Tryz.zeroValue127
  t5 := Tryz.underlying5
  a5 := Tryz.isAgg5
  z5 := Tryz.sizeOf5
  v5 := Tryz.zeroValue5
  t91 := Tryz.underlying123
  a91 := Tryz.isAgg123
  z91 := Tryz.sizeOf123
  v91 := Tryz.zeroValue123
  i0 := by kernel_rfl
  i3 := by kernel_rfl
  i4 := by kernel_rfl
  i5 := by kernel_rfl
  i37 := by kernel_rfl
  i91 := by kernel_rfl
  i93 := by kernel_rfl
  i130 := by kernel_rfl }
open Go.RowKit in
/-- (*bytes.Buffer).tryGrowByReslice: "tryGrowByReslice is an inlineable version of grow for the fast-case where the internal buffer only needs to be resliced. It returns the index where bytes should be written and whether it succeeded.": THERE IS ROOM: 'buf' is resliced to l + n. (LAID: no walk: one application.) -/
theorem Tryz.Buffer_tryGrow_room (b : Nat) (ao : Option Addr) (l cap n : Nat) (w : World) (c0 : w.cell? ⟨b, 0, none⟩ = some (.slice ao l cap)) (f0 : w.frozen? ⟨b, 0, none⟩ = false) (hlc : l ≤ cap) (hcap : cap ≤ maxLen) (hn : n ≤ cap - l) :
    Calls Tryz.prog 165 #[.pointer (some ⟨b, 0, none⟩), .int .i64 n] w fun e w' => e = .returned (.tuple #[.int .i64 l, .bool true]) ∧ w' = w.setCell ⟨b, 0, none⟩ (.slice ao (l + n) cap) := Any.Buffer_tryGrow_room Tryz.laysM251 b ao l cap n w c0 f0 hlc hcap hn
open Go.RowKit in
/-- .. THERE IS NONE: nothing turns. (LAID: no walk: one application.) -/
theorem Tryz.Buffer_tryGrow_none (b : Nat) (ao : Option Addr) (l cap n : Nat) (w : World) (c0 : w.cell? ⟨b, 0, none⟩ = some (.slice ao l cap)) (hlc : l ≤ cap) (hcap : cap ≤ maxLen) (hn : cap - l < n) :
    Calls Tryz.prog 165 #[.pointer (some ⟨b, 0, none⟩), .int .i64 n] w fun e w' => e = .returned (.tuple #[.int .i64 0, .bool false]) ∧ w' = w := Any.Buffer_tryGrow_none Tryz.laysM251 b ao l cap n w c0 hlc hcap hn
def Tryz.laysM290_ren : Go.Shelf.Ren := ⟨fun | 290 => 168 | 324 => 169 | n => n, fun | 37 => 121 | 3 => 3 | 0 => 0 | 4 => 4 | 20 => 20 | 75 => 62 | 5 => 5 | 80 => 128 | 9 => 9 | n => n, fun | 14 => 15 | n => n⟩
theorem Tryz.laysM290 : Go.Proofs.LaysM.n290 Tryz.prog Tryz.laysM290_ren := {
  mixed := by kernel_rfl
  f290 := Tryz.func168.trans (congrArg some (by kernel_rfl))
  f324 := Tryz.func169.trans (congrArg some (by kernel_rfl))
  t0 := Tryz.underlying0
  a0 := Tryz.isAgg0
  z0 := Tryz.sizeOf0
  v0 := Tryz.zeroValue0
  t3 := Tryz.underlying3
  a3 := Tryz.isAgg3
  z3 := Tryz.sizeOf3
  v3 := Tryz.zeroValue3
  t4 := Tryz.underlying4
  a4 := Tryz.isAgg4
  z4 := Tryz.sizeOf4
  v4 := Tryz.zeroValue4
  t20 := Tryz.underlying20
  a20 := Tryz.isAgg20
  z20 := Tryz.sizeOf20
  v20 := Tryz.zeroValue20
  t37 := Tryz.underlying121
  a37 := Tryz.isAgg121
  z37 := Tryz.sizeOf121
  v37 := Tryz.zeroValue121
  t75 := Tryz.underlying62
  a75 := Tryz.isAgg62
  z75 := Tryz.sizeOf62
  v75 := Tryz.zeroValue62
  g14 := by kernel_rfl
  t5 := Tryz.underlying5
  a5 := Tryz.isAgg5
  z5 := Tryz.sizeOf5
  v5 := Tryz.zeroValue5
  t9 := Tryz.underlying9
  a9 := Tryz.isAgg9
  z9 := Tryz.sizeOf9
  v9 := Tryz.zeroValue9
  t80 := Tryz.underlying128
  a80 := Tryz.isAgg128
  z80 := Tryz.sizeOf128
  v80 := Tryz.zeroValue128
  i0 := by kernel_rfl
  i3 := by kernel_rfl
  i4 := by kernel_rfl
  i5 := by kernel_rfl
  i9 := by kernel_rfl
  i20 := by kernel_rfl
  i37 := by kernel_rfl
  i75 := by kernel_rfl
  i80 := by kernel_rfl
  m14 := by kernel_rfl }
open Go.RowKit in
/-- bytes.growSlice: "growSlice grows b by n, preserving the original content of b.": OF A SLICE THAT LIES AT THE HEAD OF A ROW: a new row, number 'w.heap.size': it begins with b's l cells; its capacity has room for n more; whatever lay below is as it was. (LAID: no walk: one application.) -/
theorem Tryz.bytes_growSlice_row (g l c n : Nat) (cur : Array Value) (w : World) (hg : w.heap[g]? = some (.cells cur 5 (0, 0))) (hcs : cur.size = c) (hlc : l ≤ c) (hn : 1 ≤ n) (hlim : l + n ≤ 140737488355328) (hc2 : c ≤ 140737488355328) (h1 : ∀ v ∈ cur.toList.take l, v.oneCell' = true) :
    Calls Tryz.prog 168 #[.slice (some ⟨g, 0, none⟩) l c, .int .i64 n] w fun e w' => ∃ cap2 cells, e = .returned (.slice (some ⟨w.heap.size, 0, none⟩) l cap2) ∧ w'.heap[w.heap.size]? = some (.cells cells 5 (0, 0)) ∧
      cells.size = cap2 ∧ cells.toList.take l = cur.toList.take l ∧ l + n ≤ cap2 ∧ cap2 ≤ maxLen ∧ Below w.heap.size w w' := Any.bytes_growSlice_row Tryz.laysM290 g l c n cur w hg hcs hlc hn hlim hc2 h1
open Go.RowKit in
/-- .. OF THE NIL SLICE: a new row with room for n. (LAID: no walk: one application.) -/
theorem Tryz.bytes_growSlice_nil (n : Nat) (w : World) (hn : 1 ≤ n) (hlim : n ≤ 140737488355328) :
    Calls Tryz.prog 168 #[.slice none 0 0, .int .i64 n] w fun e w' => ∃ cap2 cells, e = .returned (.slice (some ⟨w.heap.size, 0, none⟩) 0 cap2) ∧ w'.heap[w.heap.size]? = some (.cells cells 5 (0, 0)) ∧
      cells.size = cap2 ∧ n ≤ cap2 ∧ cap2 ≤ maxLen ∧ Below w.heap.size w w' := Any.bytes_growSlice_nil Tryz.laysM290 n w hn hlim
def Tryz.laysM182_ren : Go.Shelf.Ren := ⟨fun | 182 => 74 | n => n, fun | 130 => 127 | 9 => 9 | 4 => 4 | 0 => 0 | 93 => 125 | 37 => 121 | 3 => 3 | 91 => 123 | 5 => 5 | n => n, fun | n => n⟩
theorem Tryz.laysM182 : Go.Proofs.LaysM.n182 Tryz.prog Tryz.laysM182_ren := {
  mixed := by kernel_rfl
  f182 := Tryz.func74.trans (congrArg some (by kernel_rfl))
  t0 := Tryz.underlying0
  a0 := Tryz.isAgg0
  z0 := Tryz.sizeOf0
  v0 := Tryz.zeroValue0
  t3 := Tryz.underlying3
  a3 := Tryz.isAgg3
  z3 := Tryz.sizeOf3
  v3 := Tryz.zeroValue3
  t4 := Tryz.underlying4
  a4 := Tryz.isAgg4
  z4 := Tryz.sizeOf4
  v4 := Tryz.zeroValue4
  t9 := Tryz.underlying9
  a9 := Tryz.isAgg9
  z9 := Tryz.sizeOf9
  v9 := Tryz.zeroValue9
  t37 := Tryz.underlying121
  a37 := Tryz.isAgg121
  z37 := Tryz.sizeOf121
  v37 := Tryz.zeroValue121
  t93 := Tryz.underlying125
  a93 := Tryz.isAgg125
  z93 := Tryz.sizeOf125
  v93 := Tryz.zeroValue125
  t130 := Tryz.underlying127
  a130 := Tryz.isAgg127
  z130 := Tryz.sizeOf127
  v130 := Tryz.zeroValue127
  t5 := Tryz.underlying5
  a5 := Tryz.isAgg5
  z5 := Tryz.sizeOf5
  v5 := Tryz.zeroValue5
  t91 := Tryz.underlying123
  a91 := Tryz.isAgg123
  z91 := Tryz.sizeOf123
  v91 := Tryz.zeroValue123
  i0 := by kernel_rfl
  i3 := by kernel_rfl
  i4 := by kernel_rfl
  i5 := by kernel_rfl
  i9 := by kernel_rfl
  i37 := by kernel_rfl
  i91 := by kernel_rfl
  i93 := by kernel_rfl
  i130 := by kernel_rfl }
open Go.RowKit in
/-- (*bytes.Buffer).String: "String returns the contents of the unread portion of the buffer as a string.": THE BYTES THAT WERE WRITTEN. The world is as it was but for the count of draws (the statement has two reads: its order is drawn). (LAID: no walk: one application.) -/
theorem Tryz.Buffer_String (B b : Nat) (l : List UInt8) (w : World) (h : Lib.IsBuffer 125 5 B b (Lib.byteCells l) w) :
    Calls Tryz.prog 74 #[.pointer (some ⟨b, 0, none⟩)] w fun e w' => e = .returned (.string ⟨l.toArray⟩) ∧ ∃ n, w' = w.drewN n := Any.Buffer_String Tryz.laysM182 B b l w h
end Go.Proofs
