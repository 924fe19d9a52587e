/-
  DERIVED: THE SHELF's CONTRACTS AT THIS DUMP, IN PLAIN WORDS (tools/lay-plain.mjs out of 'TryzShelf.lean', which tools/lay-shelf.mjs wrote): THE SAME DECLARATIONS UNDER THE SAME NAMES: 'import', 'namespace', 'open', 'def', 'theorem' AND NOTHING ELSE: no command of the shelf's: FOR A HAND-IN. Each laying: the table of numbers ('.._ren') and one theorem, a field a fact of the dump's own or the kernel's comparison; each contract: ONE APPLICATION.
-/
import Derived.Shelf.Small.Bits
import Derived.Shelf.Strconv.Atoi
import Derived.Shelf.Strconv.Itoa0
import Derived.Shelf.Strconv.Itoa1
import Derived.Shelf.LaysM
import Derived.Shelf.Strconv.Itoa2
import Derived.Shelf.Strconv.Itoa3
import Derived.Shelf.Bytes.Len
import Derived.Shelf.Bytes.TryGrow
import Derived.Shelf.Bytes.GrowSliceCatch
import Derived.Shelf.Bytes.GrowSlice
import Derived.Shelf.Bytes.GrowRow0
import Derived.Shelf.Bytes.GrowRow
import Derived.Shelf.Bytes.GrowNil
import Derived.Shelf.Bytes.Grow
import Derived.Shelf.Bytes.WriteString
import Derived.Shelf.Bytes.String
import Derived.Shelf.Strconv.AtoiErrFast
import Derived.Shelf.Strconv.ParseIntEmpty
import Derived.Shelf.Strconv.AtoiFail
import Derived.Shelf.Strconv.Clone
import Derived.Shelf.Strconv.SyntaxError
import Derived.Shelf.LaysC
import Derived.Shelf.Strconv.ToError
import Derived.Shelf.Strconv.Lower
import Derived.Shelf.Strconv.ParseUint10
import Derived.Shelf.Strconv.ParseUint10Empty
import Derived.Shelf.Strconv.ParseUint10Any
import Derived.Shelf.Strconv.ParseInt10
import Derived.Shelf.Strconv.AtoiLong
import Derived.Shelf.Strconv.AtoiInnerAll
import Derived.Shelf.Strconv.RangeError
import Derived.Shelf.Strconv.ToErrorRange
import Derived.Shelf.Strconv.AtoiAll
import Derived.Shelf.Strconv.ErrVarAll
import Derived.Shelf.Sort.Plain
import Derived.Ground.GgtProg
import Derived.Shelf.GgSortMore.Iface
import Derived.Shelf.GgSortMore.IfaceD
import Derived.Shelf.GgSortMore.IfacePart
import Derived.Shelf.GgSortMore.IfacePdq
import Derived.Shelf.GgSortMore.SortSort
import Derived.Shelf.Slices.Equal
import Derived.Ground.Names2Prog
import Derived.Shelf.Slices.Clone
import Derived.Shelf.Slices.CompactI
import Derived.Shelf.Slices.SearchI
import Derived.Shelf.Slices.Cells
import Derived.Shelf.Slices.In.SortNone
import Derived.Shelf.Slices.In.SortNone2
import Derived.Shelf.Slices.Empties2
import Derived.Ground.GgsProg
import Derived.Shelf.SlSortFunc.Xorshift
import Derived.Shelf.SlSortIface.SiftDown
import Derived.Shelf.SlSortIface.HeapSort
import Derived.Shelf.SlSortIface.PartialInsertion
import Derived.Ground.SlgnProg
import Derived.Shelf.SlicesE.Clone
import Derived.Test.YtikaldcoakpfoaaGreatDoorProg
namespace Go.Proofs
open Go.Shelf
def Tryz.laysM171_ren : Go.Shelf.Ren := ⟨fun | 171 => 57 | 243 => 69 | 246 => 97 | 283 => 113 | 284 => 114 | 285 => 115 | 286 => 116 | 129 => 71 | 317 => 121 | 318 => 122 | 319 => 123 | 320 => 124 | 337 => 125 | 338 => 126 | n => n, fun | 3 => 3 | 9 => 9 | 2 => 2 | 4 => 4 | 171 => 138 | 0 => 0 | 53 => 98 | 37 => 74 | 5 => 5 | 173 => 140 | 212 => 153 | 51 => 96 | 20 => 20 | 213 => 154 | 46 => 85 | 232 => 155 | 233 => 156 | n => n, fun | 17 => 3 | 18 => 4 | 19 => 5 | n => n⟩
theorem Tryz.laysM171 : Go.Proofs.LaysM.n171 Tryz.prog Tryz.laysM171_ren := {
  mixed := by kernel_rfl
  f129 := Tryz.func71.trans (congrArg some (by kernel_rfl))
  f171 := Tryz.func57.trans (congrArg some (by kernel_rfl))
  f243 := Tryz.func69.trans (congrArg some (by kernel_rfl))
  f246 := Tryz.func97.trans (congrArg some (by kernel_rfl))
  f283 := Tryz.func113.trans (congrArg some (by kernel_rfl))
  f284 := Tryz.func114.trans (congrArg some (by kernel_rfl))
  f285 := Tryz.func115.trans (congrArg some (by kernel_rfl))
  f286 := Tryz.func116.trans (congrArg some (by kernel_rfl))
  f317 := Tryz.func121.trans (congrArg some (by kernel_rfl))
  f318 := Tryz.func122.trans (congrArg some (by kernel_rfl))
  f319 := Tryz.func123.trans (congrArg some (by kernel_rfl))
  f320 := Tryz.func124.trans (congrArg some (by kernel_rfl))
  f337 := Tryz.func125.trans (congrArg some (by kernel_rfl))
  f338 := Tryz.func126.trans (congrArg some (by kernel_rfl))
  t0 := Tryz.underlying0
  a0 := Tryz.isAgg0
  z0 := Tryz.sizeOf0
  v0 := Tryz.zeroValue0
  t2 := Tryz.underlying2
  a2 := Tryz.isAgg2
  z2 := Tryz.sizeOf2
  v2 := Tryz.zeroValue2
  t3 := Tryz.underlying3
  a3 := Tryz.isAgg3
  z3 := Tryz.sizeOf3
  v3 := Tryz.zeroValue3
  t4 := Tryz.underlying4
  a4 := Tryz.isAgg4
  z4 := Tryz.sizeOf4
  v4 := Tryz.zeroValue4
  t5 := Tryz.underlying5
  a5 := Tryz.isAgg5
  z5 := Tryz.sizeOf5
  v5 := Tryz.zeroValue5
  t9 := Tryz.underlying9
  a9 := Tryz.isAgg9
  z9 := Tryz.sizeOf9
  v9 := Tryz.zeroValue9
  t20 := Tryz.underlying20
  a20 := Tryz.isAgg20
  z20 := Tryz.sizeOf20
  v20 := Tryz.zeroValue20
  t37 := Tryz.underlying74
  a37 := Tryz.isAgg74
  z37 := Tryz.sizeOf74
  v37 := Tryz.zeroValue74
  t46 := Tryz.underlying85
  a46 := Tryz.isAgg85
  z46 := Tryz.sizeOf85
  v46 := Tryz.zeroValue85
  t51 := Tryz.underlying96
  a51 := Tryz.isAgg96
  z51 := Tryz.sizeOf96
  v51 := Tryz.zeroValue96
  t53 := Tryz.underlying98
  a53 := Tryz.isAgg98
  z53 := Tryz.sizeOf98
  v53 := Tryz.zeroValue98
  t171 := Tryz.underlying138
  a171 := Tryz.isAgg138
  z171 := Tryz.sizeOf138
  v171 := Tryz.zeroValue138
  t173 := Tryz.underlying140
  a173 := Tryz.isAgg140
  z173 := Tryz.sizeOf140
  v173 := Tryz.zeroValue140
  t212 := Tryz.underlying153
  a212 := Tryz.isAgg153
  z212 := Tryz.sizeOf153
  v212 := Tryz.zeroValue153
  t213 := Tryz.underlying154
  a213 := Tryz.isAgg154
  z213 := Tryz.sizeOf154
  t232 := Tryz.underlying155
  a232 := Tryz.isAgg155
  z232 := Tryz.sizeOf155
  v232 := Tryz.zeroValue155
  t233 := Tryz.underlying156
  a233 := Tryz.isAgg156
  z233 := Tryz.sizeOf156
  v233 := Tryz.zeroValue156
  g17 := by kernel_rfl
  g18 := by kernel_rfl
  g19 := by kernel_rfl
  i0 := by kernel_rfl
  i2 := by kernel_rfl
  i3 := by kernel_rfl
  i4 := by kernel_rfl
  i5 := by kernel_rfl
  i9 := by kernel_rfl
  i20 := by kernel_rfl
  i37 := by kernel_rfl
  i46 := by kernel_rfl
  i51 := by kernel_rfl
  i53 := by kernel_rfl
  i171 := by kernel_rfl
  i173 := by kernel_rfl
  i212 := by kernel_rfl
  i232 := by kernel_rfl
  i233 := by kernel_rfl
  m17 := by kernel_rfl
  m18 := by kernel_rfl
  m19 := by kernel_rfl }
open Go.RowKit Go.Sort Go.Lib in
/-- strconv.Itoa: "Itoa is equivalent to FormatInt(int64(i), 10).": i's DECIMAL NUMERAL ('Lib.itoa': a '-' where i is negative, then the digits), FOR EVERY int. The world behind the call: the world before it, new blocks behind the heap (the library's 'var a [24]byte'), draws. (LAID: no walk: one application.) -/
theorem Tryz.strconv_Itoa (n : Int) (h0 : -9223372036854775808 ≤ n) (h1 : n ≤ 9223372036854775807) (w : World) (htab : Lib.TabIs Tryz.prog w "internal/strconv.uint64pow10" .u64 Lib.pow10Tab) :
    Calls Tryz.prog 57 #[.int .i64 n] w fun e w' => e = .returned (.string ⟨(Lib.itoa n).toArray⟩) ∧ ∃ k os, w' = grow (w.drewN k) os := Any.strconv_Itoa Tryz.laysM171 n h0 h1 w htab
def Tryz.lays171_ren : Go.Shelf.Ren := ⟨fun | 171 => 57 | 243 => 69 | 246 => 97 | 283 => 113 | 284 => 114 | 285 => 115 | 286 => 116 | 129 => 71 | 317 => 121 | 318 => 122 | 319 => 123 | 320 => 124 | 337 => 125 | 338 => 126 | n => n, fun | 3 => 3 | 9 => 9 | 2 => 2 | 4 => 4 | 171 => 138 | 0 => 0 | 53 => 98 | 37 => 74 | 5 => 5 | 173 => 140 | 212 => 153 | 51 => 96 | 20 => 20 | 213 => 154 | 46 => 85 | 232 => 155 | 233 => 156 | n => n, fun | 17 => 3 | 18 => 4 | 19 => 5 | n => n⟩
theorem Tryz.lays171 : Go.Proofs.Lays.n171 Tryz.prog Tryz.lays171_ren := {
  mixed := by kernel_rfl
  f129 := Tryz.func71.trans (congrArg some (by kernel_rfl))
  f171 := Tryz.func57.trans (congrArg some (by kernel_rfl))
  f243 := Tryz.func69.trans (congrArg some (by kernel_rfl))
  f246 := Tryz.func97.trans (congrArg some (by kernel_rfl))
  f283 := Tryz.func113.trans (congrArg some (by kernel_rfl))
  f284 := Tryz.func114.trans (congrArg some (by kernel_rfl))
  f285 := Tryz.func115.trans (congrArg some (by kernel_rfl))
  f286 := Tryz.func116.trans (congrArg some (by kernel_rfl))
  f317 := Tryz.func121.trans (congrArg some (by kernel_rfl))
  f318 := Tryz.func122.trans (congrArg some (by kernel_rfl))
  f319 := Tryz.func123.trans (congrArg some (by kernel_rfl))
  f320 := Tryz.func124.trans (congrArg some (by kernel_rfl))
  f337 := Tryz.func125.trans (congrArg some (by kernel_rfl))
  f338 := Tryz.func126.trans (congrArg some (by kernel_rfl))
  t0 := Tryz.underlying0
  a0 := Tryz.isAgg0
  z0 := Tryz.sizeOf0
  v0 := Tryz.zeroValue0
  t2 := Tryz.underlying2
  a2 := Tryz.isAgg2
  z2 := Tryz.sizeOf2
  v2 := Tryz.zeroValue2
  t3 := Tryz.underlying3
  a3 := Tryz.isAgg3
  z3 := Tryz.sizeOf3
  v3 := Tryz.zeroValue3
  t4 := Tryz.underlying4
  a4 := Tryz.isAgg4
  z4 := Tryz.sizeOf4
  v4 := Tryz.zeroValue4
  t5 := Tryz.underlying5
  a5 := Tryz.isAgg5
  z5 := Tryz.sizeOf5
  v5 := Tryz.zeroValue5
  t9 := Tryz.underlying9
  a9 := Tryz.isAgg9
  z9 := Tryz.sizeOf9
  v9 := Tryz.zeroValue9
  t20 := Tryz.underlying20
  a20 := Tryz.isAgg20
  z20 := Tryz.sizeOf20
  v20 := Tryz.zeroValue20
  t37 := Tryz.underlying74
  a37 := Tryz.isAgg74
  z37 := Tryz.sizeOf74
  v37 := Tryz.zeroValue74
  t46 := Tryz.underlying85
  a46 := Tryz.isAgg85
  z46 := Tryz.sizeOf85
  v46 := Tryz.zeroValue85
  t51 := Tryz.underlying96
  a51 := Tryz.isAgg96
  z51 := Tryz.sizeOf96
  v51 := Tryz.zeroValue96
  t53 := Tryz.underlying98
  a53 := Tryz.isAgg98
  z53 := Tryz.sizeOf98
  v53 := Tryz.zeroValue98
  t171 := Tryz.underlying138
  a171 := Tryz.isAgg138
  z171 := Tryz.sizeOf138
  v171 := Tryz.zeroValue138
  t173 := Tryz.underlying140
  a173 := Tryz.isAgg140
  z173 := Tryz.sizeOf140
  v173 := Tryz.zeroValue140
  t212 := Tryz.underlying153
  a212 := Tryz.isAgg153
  z212 := Tryz.sizeOf153
  v212 := Tryz.zeroValue153
  t213 := Tryz.underlying154
  a213 := Tryz.isAgg154
  z213 := Tryz.sizeOf154
  t232 := Tryz.underlying155
  a232 := Tryz.isAgg155
  z232 := Tryz.sizeOf155
  v232 := Tryz.zeroValue155
  t233 := Tryz.underlying156
  a233 := Tryz.isAgg156
  z233 := Tryz.sizeOf156
  v233 := Tryz.zeroValue156
  g17 := by kernel_rfl
  g18 := by kernel_rfl
  g19 := by kernel_rfl }
open Go.RowKit Go.Sort Go.Lib in
/-- THE ROAD WITHOUT THE TABLE: 0 <= i < 100: NO PREMISE ON THE WORLD, AND THE WORLD IS AS IT WAS: a row that keeps its argument in that range need list no table ('laid = []'). (LAID: no walk: one application.) -/
theorem Tryz.strconv_Itoa_small (i : Nat) (hi : i < 100) (w : World) :
    Calls Tryz.prog 57 #[.int .i64 i] w fun e w' => e = .returned (.string ⟨(Lib.decDigits i).toArray⟩) ∧ w' = w := Any.strconv_Itoa_small Tryz.lays171 i hi w
def Tryz.laysM178_ren : Go.Shelf.Ren := ⟨fun | 178 => 56 | 251 => 67 | 252 => 68 | 181 => 94 | 184 => 95 | 290 => 96 | 324 => 112 | n => n, fun | 130 => 91 | 9 => 9 | 3 => 3 | 75 => 50 | 0 => 0 | 93 => 78 | 91 => 76 | 131 => 92 | 4 => 4 | 37 => 74 | 20 => 20 | 80 => 53 | 5 => 5 | n => n, fun | 14 => 0 | n => n⟩
theorem Tryz.laysM178 : Go.Proofs.LaysM.n178 Tryz.prog Tryz.laysM178_ren := {
  mixed := by kernel_rfl
  f178 := Tryz.func56.trans (congrArg some (by kernel_rfl))
  f181 := Tryz.func94.trans (congrArg some (by kernel_rfl))
  f184 := Tryz.func95.trans (congrArg some (by kernel_rfl))
  f251 := Tryz.func67.trans (congrArg some (by kernel_rfl))
  f252 := Tryz.func68.trans (congrArg some (by kernel_rfl))
  f290 := Tryz.func96.trans (congrArg some (by kernel_rfl))
  f324 := Tryz.func112.trans (congrArg some (by kernel_rfl))
  t0 := Tryz.underlying0
  a0 := Tryz.isAgg0
  z0 := Tryz.sizeOf0
  v0 := Tryz.zeroValue0
  t3 := Tryz.underlying3
  a3 := Tryz.isAgg3
  z3 := Tryz.sizeOf3
  v3 := Tryz.zeroValue3
  t4 := Tryz.underlying4
  a4 := Tryz.isAgg4
  z4 := Tryz.sizeOf4
  v4 := Tryz.zeroValue4
  t9 := Tryz.underlying9
  a9 := Tryz.isAgg9
  z9 := Tryz.sizeOf9
  v9 := Tryz.zeroValue9
  t20 := Tryz.underlying20
  a20 := Tryz.isAgg20
  z20 := Tryz.sizeOf20
  v20 := Tryz.zeroValue20
  t37 := Tryz.underlying74
  a37 := Tryz.isAgg74
  z37 := Tryz.sizeOf74
  v37 := Tryz.zeroValue74
  t75 := Tryz.underlying50
  a75 := Tryz.isAgg50
  z75 := Tryz.sizeOf50
  v75 := Tryz.zeroValue50
  t91 := Tryz.underlying76
  a91 := Tryz.isAgg76
  z91 := Tryz.sizeOf76
  v91 := Tryz.zeroValue76
  t93 := Tryz.underlying78
  a93 := Tryz.isAgg78
  z93 := Tryz.sizeOf78
  v93 := Tryz.zeroValue78
  t130 := Tryz.underlying91
  a130 := Tryz.isAgg91
  z130 := Tryz.sizeOf91
  v130 := Tryz.zeroValue91
  t131 := Tryz.underlying92
  a131 := Tryz.isAgg92
  z131 := Tryz.sizeOf92
  v131 := Tryz.zeroValue92
  g14 := by kernel_rfl
  t5 := Tryz.underlying5
  a5 := Tryz.isAgg5
  z5 := Tryz.sizeOf5
  v5 := Tryz.zeroValue5
  t80 := Tryz.underlying53
  a80 := Tryz.isAgg53
  z80 := Tryz.sizeOf53
  v80 := Tryz.zeroValue53
  i0 := by kernel_rfl
  i3 := by kernel_rfl
  i4 := by kernel_rfl
  i5 := by kernel_rfl
  i9 := by kernel_rfl
  i20 := by kernel_rfl
  i37 := by kernel_rfl
  i75 := by kernel_rfl
  i80 := by kernel_rfl
  i91 := by kernel_rfl
  i93 := by kernel_rfl
  i130 := by kernel_rfl
  i131 := by kernel_rfl
  m14 := by kernel_rfl }
open Go.RowKit in
/-- (*bytes.Buffer).WriteString: "WriteString appends the contents of s to the buffer, growing the buffer as needed. The return value n is the length of s; err is always nil." (LAID: no walk: one application.) -/
theorem Tryz.Buffer_WriteString (B b : Nat) (bs : List Value) (s : ByteArray) (w : World) (h : Lib.IsBuffer 78 5 B b bs w) (hBw : B ≤ w.heap.size) (h1 : ∀ v ∈ bs, v.oneCell' = true) (hlim : bs.length + s.size ≤ 140737488355328) :
    Calls Tryz.prog 56 #[.pointer (some ⟨b, 0, none⟩), .string s] w fun e w' => e = .returned (.tuple #[.int .i64 s.size, .nilIface]) ∧ Lib.IsBuffer 78 5 B b (bs ++ Lib.byteCells s.data.toList) w' ∧ Below B w w' := Any.Buffer_WriteString Tryz.laysM178 B b bs s w h hBw h1 hlim
def Tryz.laysM182_ren : Go.Shelf.Ren := ⟨fun | 182 => 59 | n => n, fun | 130 => 91 | 9 => 9 | 4 => 4 | 0 => 0 | 93 => 78 | 37 => 74 | 3 => 3 | 91 => 76 | 5 => 5 | n => n, fun | n => n⟩
theorem Tryz.laysM182 : Go.Proofs.LaysM.n182 Tryz.prog Tryz.laysM182_ren := {
  mixed := by kernel_rfl
  f182 := Tryz.func59.trans (congrArg some (by kernel_rfl))
  t0 := Tryz.underlying0
  a0 := Tryz.isAgg0
  z0 := Tryz.sizeOf0
  v0 := Tryz.zeroValue0
  t3 := Tryz.underlying3
  a3 := Tryz.isAgg3
  z3 := Tryz.sizeOf3
  v3 := Tryz.zeroValue3
  t4 := Tryz.underlying4
  a4 := Tryz.isAgg4
  z4 := Tryz.sizeOf4
  v4 := Tryz.zeroValue4
  t9 := Tryz.underlying9
  a9 := Tryz.isAgg9
  z9 := Tryz.sizeOf9
  v9 := Tryz.zeroValue9
  t37 := Tryz.underlying74
  a37 := Tryz.isAgg74
  z37 := Tryz.sizeOf74
  v37 := Tryz.zeroValue74
  t93 := Tryz.underlying78
  a93 := Tryz.isAgg78
  z93 := Tryz.sizeOf78
  v93 := Tryz.zeroValue78
  t130 := Tryz.underlying91
  a130 := Tryz.isAgg91
  z130 := Tryz.sizeOf91
  v130 := Tryz.zeroValue91
  t5 := Tryz.underlying5
  a5 := Tryz.isAgg5
  z5 := Tryz.sizeOf5
  v5 := Tryz.zeroValue5
  t91 := Tryz.underlying76
  a91 := Tryz.isAgg76
  z91 := Tryz.sizeOf76
  v91 := Tryz.zeroValue76
  i0 := by kernel_rfl
  i3 := by kernel_rfl
  i4 := by kernel_rfl
  i5 := by kernel_rfl
  i9 := by kernel_rfl
  i37 := by kernel_rfl
  i91 := by kernel_rfl
  i93 := by kernel_rfl
  i130 := by kernel_rfl }
open Go.RowKit in
/-- (*bytes.Buffer).String: "String returns the contents of the unread portion of the buffer as a string.": THE BYTES THAT WERE WRITTEN. The world is as it was but for the count of draws (the statement has two reads: its order is drawn). (LAID: no walk: one application.) -/
theorem Tryz.Buffer_String (B b : Nat) (l : List UInt8) (w : World) (h : Lib.IsBuffer 78 5 B b (Lib.byteCells l) w) :
    Calls Tryz.prog 59 #[.pointer (some ⟨b, 0, none⟩)] w fun e w' => e = .returned (.string ⟨l.toArray⟩) ∧ ∃ n, w' = w.drewN n := Any.Buffer_String Tryz.laysM182 B b l w h
def Tryz.laysC172_ren : Go.Shelf.Ren := ⟨fun | 172 => 52 | 244 => 63 | 245 => 64 | 247 => 89 | 279 => 90 | 280 => 91 | 281 => 92 | 282 => 93 | 287 => 109 | 316 => 110 | 171 => 57 | 205 => 111 | 321 => 119 | 322 => 120 | 243 => 69 | 246 => 97 | 283 => 113 | 284 => 114 | 285 => 115 | 286 => 116 | 129 => 71 | 317 => 121 | 318 => 122 | 319 => 123 | 320 => 124 | 337 => 125 | 338 => 126 | n => n, fun | 9 => 9 | 3 => 3 | 75 => 50 | 76 => 64 | 4 => 4 | 5 => 5 | 167 => 114 | 37 => 74 | 0 => 0 | 85 => 115 | 2 => 2 | 168 => 117 | 53 => 98 | 175 => 132 | 46 => 85 | 210 => 136 | 127 => 148 | 145 => 151 | 143 => 149 | 21 => 21 | 171 => 138 | 173 => 140 | 212 => 153 | 51 => 96 | 20 => 20 | 213 => 154 | 232 => 155 | 233 => 156 | 80 => 53 | n => n, fun | 15 => 1 | 16 => 2 | 17 => 3 | 18 => 4 | 19 => 5 | n => n⟩
theorem Tryz.laysC172 : Go.Proofs.LaysC.n172 Tryz.prog Tryz.laysC172_ren := {
  mixed := by kernel_rfl
  f129 := Tryz.func71.trans (congrArg some (by kernel_rfl))
  f171 := Tryz.func57.trans (congrArg some (by kernel_rfl))
  f172 := Tryz.func52.trans (congrArg some (by kernel_rfl))
  f205 := Tryz.func111.trans (congrArg some (by kernel_rfl))
  f243 := Tryz.func69.trans (congrArg some (by kernel_rfl))
  f244 := Tryz.func63.trans (congrArg some (by kernel_rfl))
  f245 := Tryz.func64.trans (congrArg some (by kernel_rfl))
  f246 := Tryz.func97.trans (congrArg some (by kernel_rfl))
  f247 := Tryz.func89.trans (congrArg some (by kernel_rfl))
  f279 := Tryz.func90.trans (congrArg some (by kernel_rfl))
  f280 := Tryz.func91.trans (congrArg some (by kernel_rfl))
  f281 := Tryz.func92.trans (congrArg some (by kernel_rfl))
  f282 := Tryz.func93.trans (congrArg some (by kernel_rfl))
  f283 := Tryz.func113.trans (congrArg some (by kernel_rfl))
  f284 := Tryz.func114.trans (congrArg some (by kernel_rfl))
  f285 := Tryz.func115.trans (congrArg some (by kernel_rfl))
  f286 := Tryz.func116.trans (congrArg some (by kernel_rfl))
  f287 := Tryz.func109.trans (congrArg some (by kernel_rfl))
  f316 := Tryz.func110.trans (congrArg some (by kernel_rfl))
  f317 := Tryz.func121.trans (congrArg some (by kernel_rfl))
  f318 := Tryz.func122.trans (congrArg some (by kernel_rfl))
  f319 := Tryz.func123.trans (congrArg some (by kernel_rfl))
  f320 := Tryz.func124.trans (congrArg some (by kernel_rfl))
  f321 := Tryz.func119.trans (congrArg some (by kernel_rfl))
  f322 := Tryz.func120.trans (congrArg some (by kernel_rfl))
  f337 := Tryz.func125.trans (congrArg some (by kernel_rfl))
  f338 := Tryz.func126.trans (congrArg some (by kernel_rfl))
  t0 := Tryz.underlying0
  a0 := Tryz.isAgg0
  z0 := Tryz.sizeOf0
  v0 := Tryz.zeroValue0
  t2 := Tryz.underlying2
  a2 := Tryz.isAgg2
  z2 := Tryz.sizeOf2
  v2 := Tryz.zeroValue2
  t3 := Tryz.underlying3
  a3 := Tryz.isAgg3
  z3 := Tryz.sizeOf3
  v3 := Tryz.zeroValue3
  t4 := Tryz.underlying4
  a4 := Tryz.isAgg4
  z4 := Tryz.sizeOf4
  v4 := Tryz.zeroValue4
  t5 := Tryz.underlying5
  a5 := Tryz.isAgg5
  z5 := Tryz.sizeOf5
  v5 := Tryz.zeroValue5
  t9 := Tryz.underlying9
  a9 := Tryz.isAgg9
  z9 := Tryz.sizeOf9
  v9 := Tryz.zeroValue9
  t20 := Tryz.underlying20
  a20 := Tryz.isAgg20
  z20 := Tryz.sizeOf20
  v20 := Tryz.zeroValue20
  t21 := Tryz.underlying21
  a21 := Tryz.isAgg21
  z21 := Tryz.sizeOf21
  v21 := Tryz.zeroValue21
  t37 := Tryz.underlying74
  a37 := Tryz.isAgg74
  z37 := Tryz.sizeOf74
  v37 := Tryz.zeroValue74
  t46 := Tryz.underlying85
  a46 := Tryz.isAgg85
  z46 := Tryz.sizeOf85
  v46 := Tryz.zeroValue85
  t51 := Tryz.underlying96
  a51 := Tryz.isAgg96
  z51 := Tryz.sizeOf96
  v51 := Tryz.zeroValue96
  t53 := Tryz.underlying98
  a53 := Tryz.isAgg98
  z53 := Tryz.sizeOf98
  v53 := Tryz.zeroValue98
  t75 := Tryz.underlying50
  a75 := Tryz.isAgg50
  z75 := Tryz.sizeOf50
  v75 := Tryz.zeroValue50
  t76 := Tryz.underlying64
  a76 := Tryz.isAgg64
  z76 := Tryz.sizeOf64
  v76 := Tryz.zeroValue64
  t85 := Tryz.underlying115
  a85 := Tryz.isAgg115
  z85 := Tryz.sizeOf115
  v85 := Tryz.zeroValue115
  t127 := Tryz.underlying148
  a127 := Tryz.isAgg148
  z127 := Tryz.sizeOf148
  v127 := Tryz.zeroValue148
  t143 := Tryz.underlying149
  a143 := Tryz.isAgg149
  z143 := Tryz.sizeOf149
  v143 := Tryz.zeroValue149
  t145 := Tryz.underlying151
  a145 := Tryz.isAgg151
  z145 := Tryz.sizeOf151
  v145 := Tryz.zeroValue151
  t167 := Tryz.underlying114
  a167 := Tryz.isAgg114
  z167 := Tryz.sizeOf114
  v167 := Tryz.zeroValue114
  t168 := Tryz.underlying117
  a168 := Tryz.isAgg117
  z168 := Tryz.sizeOf117
  v168 := Tryz.zeroValue117
  t171 := Tryz.underlying138
  a171 := Tryz.isAgg138
  z171 := Tryz.sizeOf138
  v171 := Tryz.zeroValue138
  t173 := Tryz.underlying140
  a173 := Tryz.isAgg140
  z173 := Tryz.sizeOf140
  v173 := Tryz.zeroValue140
  t175 := Tryz.underlying132
  a175 := Tryz.isAgg132
  z175 := Tryz.sizeOf132
  v175 := Tryz.zeroValue132
  t210 := Tryz.underlying136
  a210 := Tryz.isAgg136
  z210 := Tryz.sizeOf136
  v210 := Tryz.zeroValue136
  t212 := Tryz.underlying153
  a212 := Tryz.isAgg153
  z212 := Tryz.sizeOf153
  v212 := Tryz.zeroValue153
  t213 := Tryz.underlying154
  a213 := Tryz.isAgg154
  z213 := Tryz.sizeOf154
  t232 := Tryz.underlying155
  a232 := Tryz.isAgg155
  z232 := Tryz.sizeOf155
  v232 := Tryz.zeroValue155
  t233 := Tryz.underlying156
  a233 := Tryz.isAgg156
  z233 := Tryz.sizeOf156
  v233 := Tryz.zeroValue156
  g15 := by kernel_rfl
  g16 := by kernel_rfl
  g17 := by kernel_rfl
  g18 := by kernel_rfl
  g19 := by kernel_rfl
  t80 := Tryz.underlying53
  a80 := Tryz.isAgg53
  z80 := Tryz.sizeOf53
  v80 := Tryz.zeroValue53
  i0 := by kernel_rfl
  i2 := by kernel_rfl
  i3 := by kernel_rfl
  i4 := by kernel_rfl
  i5 := by kernel_rfl
  i9 := by kernel_rfl
  i20 := by kernel_rfl
  i21 := by kernel_rfl
  i37 := by kernel_rfl
  i46 := by kernel_rfl
  i51 := by kernel_rfl
  i53 := by kernel_rfl
  i75 := by kernel_rfl
  i76 := by kernel_rfl
  i80 := by kernel_rfl
  i85 := by kernel_rfl
  i127 := by kernel_rfl
  i143 := by kernel_rfl
  i145 := by kernel_rfl
  i167 := by kernel_rfl
  i168 := by kernel_rfl
  i171 := by kernel_rfl
  i173 := by kernel_rfl
  i175 := by kernel_rfl
  i210 := by kernel_rfl
  i212 := by kernel_rfl
  i232 := by kernel_rfl
  i233 := by kernel_rfl
  m15 := by kernel_rfl
  m16 := by kernel_rfl
  m17 := by kernel_rfl
  m18 := by kernel_rfl
  m19 := by kernel_rfl
  c0 := by kernel_rfl
  c2 := by kernel_rfl
  c3 := by kernel_rfl
  c4 := by kernel_rfl
  c5 := by kernel_rfl
  c9 := by kernel_rfl
  c20 := by kernel_rfl
  c21 := by kernel_rfl
  c37 := by kernel_rfl
  c46 := by kernel_rfl
  c51 := by kernel_rfl
  c53 := by kernel_rfl
  c75 := by kernel_rfl
  c76 := by kernel_rfl
  c80 := by kernel_rfl
  c85 := by kernel_rfl
  c127 := by kernel_rfl
  c143 := by kernel_rfl
  c145 := by kernel_rfl
  c167 := by kernel_rfl
  c168 := by kernel_rfl
  c171 := by kernel_rfl
  c173 := by kernel_rfl
  c175 := by kernel_rfl
  c210 := by kernel_rfl
  c212 := by kernel_rfl
  c213 := by kernel_rfl
  c232 := by kernel_rfl
  c233 := by kernel_rfl }
open Go.RowKit in
/-- strconv.Atoi, AT EVERY STRING THAT SPELLS AN int ('Lib.atoiAll .. = .ok v'; of whatever length: leading zeros count): v, AND NO ERROR. The world: as it was, or with the one new row that '[]byte(..)' lays. (LAID: no walk: one application.) -/
theorem Tryz.strconv_Atoi_ok (s : ByteArray) (hmax : s.size ≤ 9223372036854775806) (v : Int) (h : Lib.atoiAll s.data.toList = .ok v) (w : World) :
    Calls Tryz.prog 52 #[.string s] w fun e w' => e = .returned (.tuple #[.int .i64 v, .nilIface]) ∧ (w' = w ∨ ∃ t, w' = Lib.bytesWorld w 5 t) := Any.strconv_Atoi_ok Tryz.laysC172 s hmax v h w
open Go.RowKit in
theorem Tryz.strconv_Atoi_syntax_var (s : ByteArray) (hlim : s.size ≤ 281474976710656) (h : Lib.atoiAll s.data.toList = Lib.NumEnd.syntax) (tp : TypeId) (p : Value) (w : World) (hvar : w.var? Tryz.prog "strconv.ErrSyntax" = some #[.iface tp p]) :
    Calls Tryz.prog 52 #[.string s] w fun e w' => ∃ N, e = .returned (.tuple #[.int .i64 0, .iface 117 (.pointer (some ⟨N, 0, none⟩))]) ∧ w.heap.size ≤ N ∧ w'.heap[N]? = some (.cells #[.string ⟨#[65, 116, 111, 105]⟩, .string s, .iface tp p] 136 (0, 0)) ∧ Below w.heap.size w w' := Any.strconv_Atoi_syntax_var Tryz.laysC172 s hlim h tp p w hvar
open Go.RowKit in
theorem Tryz.strconv_Atoi_range_var (s : ByteArray) (hlim : s.size ≤ 281474976710656) (h : Lib.atoiAll s.data.toList = .range) (tp : TypeId) (p : Value) (w : World) (hvar : w.var? Tryz.prog "strconv.ErrRange" = some #[.iface tp p]) :
    Calls Tryz.prog 52 #[.string s] w fun e w' => ∃ N, e = .returned (.tuple #[.int .i64 (Lib.atoiSat s.data.toList), .iface 117 (.pointer (some ⟨N, 0, none⟩))]) ∧ w.heap.size ≤ N ∧ w'.heap[N]? = some (.cells #[.string ⟨#[65, 116, 111, 105]⟩, .string s, .iface tp p] 136 (0, 0)) ∧ Below w.heap.size w w' := Any.strconv_Atoi_range_var Tryz.laysC172 s hlim h tp p w hvar
def Tryz.lays189_ren : Go.Shelf.Ren := ⟨fun | 189 => 43 | 125 => 60 | 257 => 62 | 128 => 70 | 129 => 71 | 294 => 80 | 295 => 81 | 296 => 82 | 297 => 83 | 298 => 84 | 299 => 85 | 216 => 86 | 300 => 87 | 301 => 88 | 328 => 103 | 329 => 104 | 330 => 105 | 331 => 106 | 332 => 107 | 215 => 108 | 343 => 118 | n => n, fun | 28 => 22 | 3 => 3 | 46 => 85 | 0 => 0 | 51 => 96 | 53 => 98 | 4 => 4 | 183 => 109 | 182 => 108 | 131 => 92 | 5 => 5 | 9 => 9 | 218 => 129 | 222 => 127 | 228 => 145 | 229 => 143 | n => n, fun | n => n⟩
theorem Tryz.lays189 : Go.Proofs.Lays.n189 Tryz.prog Tryz.lays189_ren := {
  mixed := by kernel_rfl
  f125 := Tryz.func60.trans (congrArg some (by kernel_rfl))
  f128 := Tryz.func70.trans (congrArg some (by kernel_rfl))
  f129 := Tryz.func71.trans (congrArg some (by kernel_rfl))
  f189 := Tryz.func43.trans (congrArg some (by kernel_rfl))
  f215 := Tryz.func108.trans (congrArg some (by kernel_rfl))
  f216 := Tryz.func86.trans (congrArg some (by kernel_rfl))
  f257 := Tryz.func62.trans (congrArg some (by kernel_rfl))
  f294 := Tryz.func80.trans (congrArg some (by kernel_rfl))
  f295 := Tryz.func81.trans (congrArg some (by kernel_rfl))
  f296 := Tryz.func82.trans (congrArg some (by kernel_rfl))
  f297 := Tryz.func83.trans (congrArg some (by kernel_rfl))
  f298 := Tryz.func84.trans (congrArg some (by kernel_rfl))
  f299 := Tryz.func85.trans (congrArg some (by kernel_rfl))
  f300 := Tryz.func87.trans (congrArg some (by kernel_rfl))
  f301 := Tryz.func88.trans (congrArg some (by kernel_rfl))
  f328 := Tryz.func103.trans (congrArg some (by kernel_rfl))
  f329 := Tryz.func104.trans (congrArg some (by kernel_rfl))
  f330 := Tryz.func105.trans (congrArg some (by kernel_rfl))
  f331 := Tryz.func106.trans (congrArg some (by kernel_rfl))
  f332 := Tryz.func107.trans (congrArg some (by kernel_rfl))
  f343 := Tryz.func118.trans (congrArg some (by kernel_rfl))
  t0 := Tryz.underlying0
  a0 := Tryz.isAgg0
  z0 := Tryz.sizeOf0
  v0 := Tryz.zeroValue0
  t3 := Tryz.underlying3
  a3 := Tryz.isAgg3
  z3 := Tryz.sizeOf3
  v3 := Tryz.zeroValue3
  t4 := Tryz.underlying4
  a4 := Tryz.isAgg4
  z4 := Tryz.sizeOf4
  v4 := Tryz.zeroValue4
  t5 := Tryz.underlying5
  a5 := Tryz.isAgg5
  z5 := Tryz.sizeOf5
  v5 := Tryz.zeroValue5
  t9 := Tryz.underlying9
  a9 := Tryz.isAgg9
  z9 := Tryz.sizeOf9
  v9 := Tryz.zeroValue9
  t28 := Tryz.underlying22
  a28 := Tryz.isAgg22
  z28 := Tryz.sizeOf22
  v28 := Tryz.zeroValue22
  t46 := Tryz.underlying85
  a46 := Tryz.isAgg85
  z46 := Tryz.sizeOf85
  v46 := Tryz.zeroValue85
  t51 := Tryz.underlying96
  a51 := Tryz.isAgg96
  z51 := Tryz.sizeOf96
  v51 := Tryz.zeroValue96
  t53 := Tryz.underlying98
  a53 := Tryz.isAgg98
  z53 := Tryz.sizeOf98
  v53 := Tryz.zeroValue98
  t131 := Tryz.underlying92
  a131 := Tryz.isAgg92
  z131 := Tryz.sizeOf92
  v131 := Tryz.zeroValue92
  t182 := Tryz.underlying108
  a182 := Tryz.isAgg108
  z182 := Tryz.sizeOf108
  v182 := Tryz.zeroValue108
  t183 := Tryz.underlying109
  a183 := Tryz.isAgg109
  z183 := Tryz.sizeOf109
  v183 := Tryz.zeroValue109
  t218 := Tryz.underlying129
  a218 := Tryz.isAgg129
  z218 := Tryz.sizeOf129
  v218 := Tryz.zeroValue129
  t222 := Tryz.underlying127
  a222 := Tryz.isAgg127
  z222 := Tryz.sizeOf127
  v222 := Tryz.zeroValue127
  t228 := Tryz.underlying145
  a228 := Tryz.isAgg145
  z228 := Tryz.sizeOf145
  v228 := Tryz.zeroValue145
  t229 := Tryz.underlying143
  a229 := Tryz.isAgg143
  z229 := Tryz.sizeOf143
  v229 := Tryz.zeroValue143 }
open Go.Sort Go.RowKit in
theorem Tryz.slices_Sort_int (blk off cap : Nat) (zs : List Int) (w : World) (hH : Holds (Value.int .i64) w blk off zs.toArray) (hblk : blk < w.heap.size) (hsz : zs.length < 4611686018427387904) :
    Calls Tryz.prog 43 #[.slice (some ⟨blk, off, none⟩) zs.length cap] w fun e w' =>
      e = .returned (.tuple #[]) ∧ ∃ n os, w' = grow (putRow (Value.int .i64) (Sort.ahead w n) blk off (zs.mergeSort fun x y => decide (x ≤ y)).toArray) os := Any.slices_Sort_int Tryz.lays189 blk off cap zs w hH hblk hsz
def Tryz.lays191_ren : Go.Shelf.Ren := ⟨fun | 191 => 48 | 189 => 43 | 125 => 60 | 257 => 62 | 128 => 70 | 129 => 71 | 294 => 80 | 295 => 81 | 296 => 82 | 297 => 83 | 298 => 84 | 299 => 85 | 216 => 86 | 300 => 87 | 301 => 88 | 328 => 103 | 329 => 104 | 330 => 105 | 331 => 106 | 332 => 107 | 215 => 108 | 343 => 118 | n => n, fun | 28 => 22 | 0 => 0 | 3 => 3 | 46 => 85 | 51 => 96 | 53 => 98 | 4 => 4 | 183 => 109 | 182 => 108 | 131 => 92 | 5 => 5 | 9 => 9 | 218 => 129 | 222 => 127 | 228 => 145 | 229 => 143 | n => n, fun | n => n⟩
theorem Tryz.lays191 : Go.Proofs.Lays.n191 Tryz.prog Tryz.lays191_ren := {
  mixed := by kernel_rfl
  f125 := Tryz.func60.trans (congrArg some (by kernel_rfl))
  f128 := Tryz.func70.trans (congrArg some (by kernel_rfl))
  f129 := Tryz.func71.trans (congrArg some (by kernel_rfl))
  f189 := Tryz.func43.trans (congrArg some (by kernel_rfl))
  f191 := Tryz.func48.trans (congrArg some (by kernel_rfl))
  f215 := Tryz.func108.trans (congrArg some (by kernel_rfl))
  f216 := Tryz.func86.trans (congrArg some (by kernel_rfl))
  f257 := Tryz.func62.trans (congrArg some (by kernel_rfl))
  f294 := Tryz.func80.trans (congrArg some (by kernel_rfl))
  f295 := Tryz.func81.trans (congrArg some (by kernel_rfl))
  f296 := Tryz.func82.trans (congrArg some (by kernel_rfl))
  f297 := Tryz.func83.trans (congrArg some (by kernel_rfl))
  f298 := Tryz.func84.trans (congrArg some (by kernel_rfl))
  f299 := Tryz.func85.trans (congrArg some (by kernel_rfl))
  f300 := Tryz.func87.trans (congrArg some (by kernel_rfl))
  f301 := Tryz.func88.trans (congrArg some (by kernel_rfl))
  f328 := Tryz.func103.trans (congrArg some (by kernel_rfl))
  f329 := Tryz.func104.trans (congrArg some (by kernel_rfl))
  f330 := Tryz.func105.trans (congrArg some (by kernel_rfl))
  f331 := Tryz.func106.trans (congrArg some (by kernel_rfl))
  f332 := Tryz.func107.trans (congrArg some (by kernel_rfl))
  f343 := Tryz.func118.trans (congrArg some (by kernel_rfl))
  t0 := Tryz.underlying0
  a0 := Tryz.isAgg0
  z0 := Tryz.sizeOf0
  v0 := Tryz.zeroValue0
  t3 := Tryz.underlying3
  a3 := Tryz.isAgg3
  z3 := Tryz.sizeOf3
  v3 := Tryz.zeroValue3
  t4 := Tryz.underlying4
  a4 := Tryz.isAgg4
  z4 := Tryz.sizeOf4
  v4 := Tryz.zeroValue4
  t5 := Tryz.underlying5
  a5 := Tryz.isAgg5
  z5 := Tryz.sizeOf5
  v5 := Tryz.zeroValue5
  t9 := Tryz.underlying9
  a9 := Tryz.isAgg9
  z9 := Tryz.sizeOf9
  v9 := Tryz.zeroValue9
  t28 := Tryz.underlying22
  a28 := Tryz.isAgg22
  z28 := Tryz.sizeOf22
  v28 := Tryz.zeroValue22
  t46 := Tryz.underlying85
  a46 := Tryz.isAgg85
  z46 := Tryz.sizeOf85
  v46 := Tryz.zeroValue85
  t51 := Tryz.underlying96
  a51 := Tryz.isAgg96
  z51 := Tryz.sizeOf96
  v51 := Tryz.zeroValue96
  t53 := Tryz.underlying98
  a53 := Tryz.isAgg98
  z53 := Tryz.sizeOf98
  v53 := Tryz.zeroValue98
  t131 := Tryz.underlying92
  a131 := Tryz.isAgg92
  z131 := Tryz.sizeOf92
  v131 := Tryz.zeroValue92
  t182 := Tryz.underlying108
  a182 := Tryz.isAgg108
  z182 := Tryz.sizeOf108
  v182 := Tryz.zeroValue108
  t183 := Tryz.underlying109
  a183 := Tryz.isAgg109
  z183 := Tryz.sizeOf109
  v183 := Tryz.zeroValue109
  t218 := Tryz.underlying129
  a218 := Tryz.isAgg129
  z218 := Tryz.sizeOf129
  v218 := Tryz.zeroValue129
  t222 := Tryz.underlying127
  a222 := Tryz.isAgg127
  z222 := Tryz.sizeOf127
  v222 := Tryz.zeroValue127
  t228 := Tryz.underlying145
  a228 := Tryz.isAgg145
  z228 := Tryz.sizeOf145
  v228 := Tryz.zeroValue145
  t229 := Tryz.underlying143
  a229 := Tryz.isAgg143
  z229 := Tryz.sizeOf143
  v229 := Tryz.zeroValue143 }
open Go.Sort Go.RowKit in
theorem Tryz.sort_Ints (blk off cap : Nat) (zs : List Int) (w : World) (hH : Holds (Value.int .i64) w blk off zs.toArray) (hblk : blk < w.heap.size) (hsz : zs.length < 4611686018427387904) :
    Calls Tryz.prog 48 #[.slice (some ⟨blk, off, none⟩) zs.length cap] w fun e w' =>
      e = .returned (.tuple #[]) ∧ ∃ n os, w' = grow (putRow (Value.int .i64) (Sort.ahead w n) blk off (zs.mergeSort fun x y => decide (x ≤ y)).toArray) os := Any.sort_Ints Tryz.lays191 blk off cap zs w hH hblk hsz
def Tryz.laysGt11_ren : Go.Shelf.Ren := ⟨fun | 11 => 41 | 17 => 60 | 18 => 61 | 31 => 70 | 32 => 71 | 33 => 72 | 34 => 73 | 35 => 74 | 36 => 75 | 37 => 76 | 38 => 77 | 39 => 78 | 40 => 79 | 43 => 98 | 44 => 99 | 45 => 100 | 46 => 101 | 47 => 102 | 50 => 117 | n => n, fun | 45 => 83 | 3 => 3 | 4 => 4 | 47 => 85 | 0 => 0 | 56 => 96 | 58 => 98 | 61 => 101 | 60 => 100 | 65 => 92 | 5 => 5 | 9 => 9 | 67 => 123 | 71 => 127 | 73 => 142 | 74 => 143 | 43 => 55 | 26 => 104 | 38 => 122 | n => n, fun | n => n⟩
theorem Tryz.laysGt11 : Go.Proofs.LaysGt.n11 Tryz.prog Tryz.laysGt11_ren := {
  mixed := by kernel_rfl
  f11 := Tryz.func41.trans (congrArg some (by kernel_rfl))
  f17 := Tryz.func60.trans (congrArg some (by kernel_rfl))
  f18 := Tryz.func61.trans (congrArg some (by kernel_rfl))
  f31 := Tryz.func70.trans (congrArg some (by kernel_rfl))
  f32 := Tryz.func71.trans (congrArg some (by kernel_rfl))
  f33 := Tryz.func72.trans (congrArg some (by kernel_rfl))
  f34 := Tryz.func73.trans (congrArg some (by kernel_rfl))
  f35 := Tryz.func74.trans (congrArg some (by kernel_rfl))
  f36 := Tryz.func75.trans (congrArg some (by kernel_rfl))
  f37 := Tryz.func76.trans (congrArg some (by kernel_rfl))
  f38 := Tryz.func77.trans (congrArg some (by kernel_rfl))
  f39 := Tryz.func78.trans (congrArg some (by kernel_rfl))
  f40 := Tryz.func79.trans (congrArg some (by kernel_rfl))
  f43 := Tryz.func98.trans (congrArg some (by kernel_rfl))
  f44 := Tryz.func99.trans (congrArg some (by kernel_rfl))
  f45 := Tryz.func100.trans (congrArg some (by kernel_rfl))
  f46 := Tryz.func101.trans (congrArg some (by kernel_rfl))
  f47 := Tryz.func102.trans (congrArg some (by kernel_rfl))
  f50 := Tryz.func117.trans (congrArg some (by kernel_rfl))
  t0 := Tryz.underlying0
  a0 := Tryz.isAgg0
  z0 := Tryz.sizeOf0
  v0 := Tryz.zeroValue0
  i0 := by kernel_rfl
  t3 := Tryz.underlying3
  a3 := Tryz.isAgg3
  z3 := Tryz.sizeOf3
  v3 := Tryz.zeroValue3
  i3 := by kernel_rfl
  t4 := Tryz.underlying4
  a4 := Tryz.isAgg4
  z4 := Tryz.sizeOf4
  v4 := Tryz.zeroValue4
  i4 := by kernel_rfl
  t5 := Tryz.underlying5
  a5 := Tryz.isAgg5
  z5 := Tryz.sizeOf5
  v5 := Tryz.zeroValue5
  i5 := by kernel_rfl
  t9 := Tryz.underlying9
  a9 := Tryz.isAgg9
  z9 := Tryz.sizeOf9
  v9 := Tryz.zeroValue9
  i9 := by kernel_rfl
  t26 := Tryz.underlying104
  a26 := Tryz.isAgg104
  z26 := Tryz.sizeOf104
  v26 := Tryz.zeroValue104
  i26 := by kernel_rfl
  t38 := Tryz.underlying122
  a38 := Tryz.isAgg122
  z38 := Tryz.sizeOf122
  v38 := Tryz.zeroValue122
  i38 := by kernel_rfl
  t43 := Tryz.underlying55
  a43 := Tryz.isAgg55
  z43 := Tryz.sizeOf55
  v43 := Tryz.zeroValue55
  i43 := by kernel_rfl
  t45 := Tryz.underlying83
  a45 := Tryz.isAgg83
  z45 := Tryz.sizeOf83
  v45 := Tryz.zeroValue83
  i45 := by kernel_rfl
  t47 := Tryz.underlying85
  a47 := Tryz.isAgg85
  z47 := Tryz.sizeOf85
  v47 := Tryz.zeroValue85
  i47 := by kernel_rfl
  t56 := Tryz.underlying96
  a56 := Tryz.isAgg96
  z56 := Tryz.sizeOf96
  v56 := Tryz.zeroValue96
  i56 := by kernel_rfl
  t58 := Tryz.underlying98
  a58 := Tryz.isAgg98
  z58 := Tryz.sizeOf98
  v58 := Tryz.zeroValue98
  i58 := by kernel_rfl
  t60 := Tryz.underlying100
  a60 := Tryz.isAgg100
  z60 := Tryz.sizeOf100
  v60 := Tryz.zeroValue100
  i60 := by kernel_rfl
  t61 := Tryz.underlying101
  a61 := Tryz.isAgg101
  z61 := Tryz.sizeOf101
  v61 := Tryz.zeroValue101
  i61 := by kernel_rfl
  t65 := Tryz.underlying92
  a65 := Tryz.isAgg92
  z65 := Tryz.sizeOf92
  v65 := Tryz.zeroValue92
  i65 := by kernel_rfl
  t67 := Tryz.underlying123
  a67 := Tryz.isAgg123
  z67 := Tryz.sizeOf123
  v67 := Tryz.zeroValue123
  i67 := by kernel_rfl
  t71 := Tryz.underlying127
  a71 := Tryz.isAgg127
  z71 := Tryz.sizeOf127
  v71 := Tryz.zeroValue127
  i71 := by kernel_rfl
  t73 := Tryz.underlying142
  a73 := Tryz.isAgg142
  z73 := Tryz.sizeOf142
  v73 := Tryz.zeroValue142
  i73 := by kernel_rfl
  t74 := Tryz.underlying143
  a74 := Tryz.isAgg143
  z74 := Tryz.sizeOf143
  v74 := Tryz.zeroValue143
  i74 := by kernel_rfl }
open Go.RowKit Go.Lib Go.Sort in
theorem Tryz.sort_Sort_tiny {α : Type} [Inhabited α] (T : TypeId) (rv : Value) (gn : Nat) (rN : Reaches Tryz.prog T rv "Len" gn) (n : Nat) (hn : n ≤ 1) (w : World) (hlen : LenM Tryz.prog gn rv n w) :
    Calls Tryz.prog 41 #[.iface T rv] w fun e w' => e = .returned (.tuple #[]) ∧ ∃ q, w' = w.drewN q := Any.sort_Sort_tiny Tryz.laysGt11 T rv gn rN n hn w hlen
open Go.RowKit Go.Lib Go.Sort in
/-- **sort.Sort, IN THE DOCUMENTATION's OWN TERMS ("Sort sorts data in ascending order as determined by the Less method. .. The sort is not guaranteed to be stable"): A PERMUTATION OF WHAT THE ROW HELD, SORTED BY 'lt'.** (LAID: no walk: one application.) -/
theorem Tryz.sort_Sort_sorted {α : Type} [Inhabited α] (T : TypeId) (rv : Value) (gn gl gs : Nat) (rN : Reaches Tryz.prog T rv "Len" gn) (rL : Reaches Tryz.prog T rv "Less" gl) (rS : Reaches Tryz.prog T rv "Swap" gs) (enc : α → Value) (lt : α → α → Bool) (hO : SWO lt) (blk off : Nat) (d : Array α) (h2 : 2 ≤ d.size) (hsz : d.size < 4611686018427387904) (w : World) (hlen : LenM Tryz.prog gn rv d.size w) (hless : LessM Tryz.prog gl rv enc lt blk off d.size w) (hswap : SwapM Tryz.prog gs rv enc blk off d.size) (hH : Holds enc w blk off d) (hblk : blk < w.heap.size) :
    Calls Tryz.prog 41 #[.iface T rv] w fun e w' => e = .returned (.tuple #[]) ∧ ∃ d' n os, PermIn 0 d.size d d' ∧ SortedIn lt 0 d.size d' ∧ w' = grow (putRow enc (Sort.ahead w n) blk off d') os := Any.sort_Sort_sorted Tryz.laysGt11 T rv gn gl gs rN rL rS enc lt hO blk off d h2 hsz w hlen hless hswap hH hblk
def Tryz.lays111_ren : Go.Shelf.Ren := ⟨fun | 111 => 7 | n => n, fun | 28 => 22 | 3 => 3 | 4 => 4 | 0 => 0 | n => n, fun | n => n⟩
theorem Tryz.lays111 : Go.Proofs.Lays.n111 Tryz.prog Tryz.lays111_ren := {
  mixed := by kernel_rfl
  f111 := Tryz.func7.trans (congrArg some (by kernel_rfl))
  t0 := Tryz.underlying0
  a0 := Tryz.isAgg0
  z0 := Tryz.sizeOf0
  v0 := Tryz.zeroValue0
  t3 := Tryz.underlying3
  a3 := Tryz.isAgg3
  z3 := Tryz.sizeOf3
  v3 := Tryz.zeroValue3
  t4 := Tryz.underlying4
  a4 := Tryz.isAgg4
  z4 := Tryz.sizeOf4
  v4 := Tryz.zeroValue4
  t28 := Tryz.underlying22
  a28 := Tryz.isAgg22
  z28 := Tryz.sizeOf22
  v28 := Tryz.zeroValue22 }
open Go.RowKit Go.Lib in
/-- slices.Equal at []int: "Equal reports whether two slices are equal: the same length and all elements equal. If the lengths are different, Equal returns false. Otherwise, the elements are compared in increasing index order, and the comparison stops at the first unequal pair. Empty and nil slices are considered equal.": IT RETURNS WHETHER THE TWO LISTS OF ELEMENTS ARE ONE; the world is as it was but for the count of draws (the test 's1[i] != s2[i]' has two reads, whose order the model draws, once a round). 'xs', 'ys': what the cells behind the two addresses hold (the spare capacity too, if you have it); 'xs.take n', 'ys.take m': the elements. THE TWO SLICES MAY OVERLAP. (LAID: no walk: one application.) -/
theorem Tryz.slices_Equal_int (b1 o1 n c b2 o2 m d : Nat) (xs ys : List Int) (w : World) (hx : n ≤ xs.length) (hy : m ≤ ys.length) (hbig : n ≤ 9223372036854775807) (hbig2 : m ≤ 9223372036854775807) (hc1 : ∀ j, j < xs.length → w.cell? ⟨b1, o1 + j, none⟩ = some (.int .i64 (xs.getD j 0))) (hc2 : ∀ j, j < ys.length → w.cell? ⟨b2, o2 + j, none⟩ = some (.int .i64 (ys.getD j 0))) :
    Calls Tryz.prog 7 #[.slice (some ⟨b1, o1, none⟩) n c, .slice (some ⟨b2, o2, none⟩) m d] w fun e w' => e = .returned (.bool (xs.take n == ys.take m)) ∧ ∃ q, w' = w.drewN q := Any.slices_Equal_int Tryz.lays111 b1 o1 n c b2 o2 m d xs ys w hx hy hbig hbig2 hc1 hc2
open Go.RowKit Go.Lib in
/-- The same where the first is of length 0 (a nil one too): no cell is asked for. (LAID: no walk: one application.) -/
theorem Tryz.slices_Equal_int_empty (a1 a2 : Option Addr) (c m d : Nat) (w : World) (hbig2 : m ≤ 9223372036854775807) :
    Calls Tryz.prog 7 #[.slice a1 0 c, .slice a2 m d] w fun e w' => e = .returned (.bool (decide (m = 0))) ∧ w' = w := Any.slices_Equal_int_empty Tryz.lays111 a1 a2 c m d w hbig2
def Tryz.laysNm215_ren : Go.Shelf.Ren := ⟨fun | 15 => 25 | n => n, fun | 22 => 22 | 3 => 3 | 4 => 4 | n => n, fun | n => n⟩
theorem Tryz.laysNm215 : Go.Proofs.Lays2.n15 Tryz.prog Tryz.laysNm215_ren := {
  mixed := by kernel_rfl
  f15 := Tryz.func25.trans (congrArg some (by kernel_rfl))
  t3 := Tryz.underlying3
  a3 := Tryz.isAgg3
  z3 := Tryz.sizeOf3
  v3 := Tryz.zeroValue3
  t4 := Tryz.underlying4
  a4 := Tryz.isAgg4
  z4 := Tryz.sizeOf4
  v4 := Tryz.zeroValue4
  t22 := Tryz.underlying22
  a22 := Tryz.isAgg22
  z22 := Tryz.sizeOf22
  v22 := Tryz.zeroValue22
  i3 := by kernel_rfl }
open Go.RowKit Go.Lib in
/-- slices.Clone at []int: "Clone returns a copy of the slice. The elements are copied using assignment, so this is a shallow clone. The result may have additional unused capacity. The result preserves the nilness of s.": OF A SLICE THAT IS NOT nil IT RETURNS A SLICE THAT IS NOT nil, OF THE SAME ELEMENTS, IN MEMORY OF THE CALL's OWN: in the how-to's words (6f): 'w'.ownsRow B e 1 v' n cells': v' begins at the head of a row among the blocks from B on (B: the heap's size at the call), not frozen, whose first cells are the elements · 'Below B w w'': below B all is as it was. The capacity is whatever the run-time gives. 'zs': what the cells behind the slice's address hold; 'zs.take n': its elements. (LAID: no walk: one application.) -/
theorem Tryz.slices_Clone_int (b off n c : Nat) (zs : List Int) (w : World) (hz : n ≤ zs.length) (hbig : n * 8 ≤ 140737488355328) (hc : ∀ j, j < zs.length → w.cell? ⟨b, off + j, none⟩ = some (.int .i64 (zs.getD j 0))) :
    Calls Tryz.prog 25 #[.slice (some ⟨b, off, none⟩) n c] w fun e w' => ∃ v', e = .returned v' ∧ w'.ownsRow w.heap.size 3 1 v' n ((zs.take n).map (Value.int .i64)) ∧ v' ≠ .slice none 0 0 ∧ Below w.heap.size w w' := Any.slices_Clone_int Tryz.laysNm215 b off n c zs w hz hbig hc
open Go.RowKit Go.Lib in
/-- The same at nil: nil comes back; the world is as it was. (LAID: no walk: one application.) -/
theorem Tryz.slices_Clone_int_nil (n c : Nat) (w : World) :
    Calls Tryz.prog 25 #[.slice none n c] w fun e w' => e = .returned (.slice none 0 0) ∧ w' = w := Any.slices_Clone_int_nil Tryz.laysNm215 n c w
open Go.RowKit Go.Lib in
/-- The same at a slice of length 0 that is not nil, WHATEVER ITS ADDRESS (no cell is asked for): a slice that is not nil and owns nothing comes back. (LAID: no walk: one application.) -/
theorem Tryz.slices_Clone_int_zero (a : Addr) (c : Nat) (w : World) :
    Calls Tryz.prog 25 #[.slice (some a) 0 c] w fun e w' => ∃ v', e = .returned v' ∧ w'.ownsRow w.heap.size 3 1 v' 0 [] ∧ v' ≠ .slice none 0 0 ∧ Below w.heap.size w w' := Any.slices_Clone_int_zero Tryz.laysNm215 a c w
def Tryz.laysNm220_ren : Go.Shelf.Ren := ⟨fun | 20 => 44 | n => n, fun | 22 => 22 | 3 => 3 | 4 => 4 | 0 => 0 | n => n, fun | n => n⟩
theorem Tryz.laysNm220 : Go.Proofs.Lays2.n20 Tryz.prog Tryz.laysNm220_ren := {
  mixed := by kernel_rfl
  f20 := Tryz.func44.trans (congrArg some (by kernel_rfl))
  t0 := Tryz.underlying0
  a0 := Tryz.isAgg0
  z0 := Tryz.sizeOf0
  v0 := Tryz.zeroValue0
  t3 := Tryz.underlying3
  a3 := Tryz.isAgg3
  z3 := Tryz.sizeOf3
  v3 := Tryz.zeroValue3
  t4 := Tryz.underlying4
  a4 := Tryz.isAgg4
  z4 := Tryz.sizeOf4
  v4 := Tryz.zeroValue4
  t22 := Tryz.underlying22
  a22 := Tryz.isAgg22
  z22 := Tryz.sizeOf22
  v22 := Tryz.zeroValue22
  i3 := by kernel_rfl }
open Go.RowKit Go.Lib Go.Sort in
/-- slices.Compact at []int: "Compact replaces consecutive runs of equal elements with a single copy. This is like the uniq command found on Unix. Compact modifies the contents of the slice s and returns the modified slice, which may have a smaller length. Compact zeroes the elements between the new length and the original length. The result preserves the nilness of s.": IT RETURNS THE SLICE CUT TO 'Lib.compact zs'; ITS CELLS HOLD 'Lib.compact zs', THEN ZERO VALUES up to the old length; all else is as it was, but for the count of draws. IN THE WORDS OF slices.Sort's CONTRACT ('Holds', 'putRow'): so the everyday 'slices.Sort(xs); xs = slices.Compact(xs)' goes from the one contract to the other. It asks 'zs.length ≤ cap' (every slice's: the reslicing 's[:k]' looks at it). Length 0, nil: '.._empty'. (LAID: no walk: one application.) -/
theorem Tryz.slices_Compact_int (blk off cap : Nat) (zs : List Int) (w : World) (hH : Holds (Value.int .i64) w blk off zs.toArray) (hsz : zs.length ≤ 9223372036854775807) (hcap : zs.length ≤ cap) :
    Calls Tryz.prog 44 #[.slice (some ⟨blk, off, none⟩) zs.length cap] w fun e w' => e = .returned (.slice (some ⟨blk, off, none⟩) (Lib.compact zs).length cap) ∧ ∃ q, w' = putRow (Value.int .i64) (Sort.ahead w q) blk off (Lib.compact zs ++ List.replicate (zs.length - (Lib.compact zs).length) 0).toArray := Any.slices_Compact_int Tryz.laysNm220 blk off cap zs w hH hsz hcap
open Go.RowKit Go.Lib Go.Sort in
/-- The same at a slice of length 0, a nil one too: it comes back as it is. (LAID: no walk: one application.) -/
theorem Tryz.slices_Compact_int_empty (a : Option Addr) (cap : Nat) (w : World) :
    Calls Tryz.prog 44 #[.slice a 0 cap] w fun e w' => e = .returned (.slice a 0 cap) ∧ w' = w := Any.slices_Compact_int_empty Tryz.laysNm220 a cap w
open Go.RowKit Go.Sort in
/-- .. and plain. (LAID: no walk: one application.) -/
theorem Tryz.slices_Sort_int_none (p : Option Addr) (cap : Nat) (w : World) :
    Calls Tryz.prog 43 #[.slice p 0 cap] w fun e w' => e = .returned (.tuple #[]) ∧ w' = w := Any.slices_Sort_int_none Tryz.lays189 p cap w
open Go.RowKit Go.Sort in
/-- .. and plain. (LAID: no walk: one application.) -/
theorem Tryz.sort_Ints_none (p : Option Addr) (cap : Nat) (w : World) :
    Calls Tryz.prog 48 #[.slice p 0 cap] w fun e w' => e = .returned (.tuple #[]) ∧ w' = w := Any.sort_Ints_none Tryz.lays191 p cap w
open Go.RowKit Go.Lib in
theorem Tryz.slices_Equal_int_lens (a1 a2 : Option Addr) (n c m d : Nat) (w : World) (hnm : n ≠ m) :
    Calls Tryz.prog 7 #[.slice a1 n c, .slice a2 m d] w fun e w' => e = .returned (.bool false) ∧ w' = w := Any.slices_Equal_int_lens Tryz.lays111 a1 a2 n c m d w hnm
end Go.Proofs
