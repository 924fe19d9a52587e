/-
  DERIVED: THE SHELF's CONTRACTS AT THIS DUMP, IN PLAIN WORDS (tools/lay-plain.mjs out of 'TrydShelf.lean', which tools/lay-shelf.mjs wrote): THE SAME DECLARATIONS UNDER THE SAME NAMES: 'import', 'namespace', 'open', 'def', 'theorem' AND NOTHING ELSE: no command of the shelf's: FOR A HAND-IN. Each laying: the table of numbers ('.._ren') and one theorem, a field a fact of the dump's own or the kernel's comparison; each contract: ONE APPLICATION.
-/
import Derived.Shelf.Strconv.Atoi
import Derived.Shelf.Strconv.Itoa0
import Derived.Shelf.Strconv.Itoa1
import Derived.Shelf.LaysM
import Derived.Shelf.Strconv.Itoa2
import Derived.Shelf.Strconv.Itoa3
import Derived.Shelf.Bytes.Len
import Derived.Shelf.Bytes.TryGrow
import Derived.Shelf.Bytes.GrowSliceCatch
import Derived.Shelf.Bytes.GrowSlice
import Derived.Shelf.Bytes.GrowRow0
import Derived.Shelf.Bytes.GrowRow
import Derived.Shelf.Bytes.GrowNil
import Derived.Shelf.Bytes.Grow
import Derived.Shelf.Bytes.WriteString
import Derived.Shelf.Bytes.String
import Derived.Shelf.Strconv.AtoiErrFast
import Derived.Shelf.Strconv.ParseIntEmpty
import Derived.Shelf.Strconv.AtoiFail
import Derived.Shelf.Strconv.Clone
import Derived.Shelf.Strconv.SyntaxError
import Derived.Shelf.LaysC
import Derived.Shelf.Strconv.ToError
import Derived.Shelf.Strconv.Lower
import Derived.Shelf.Strconv.ParseUint10
import Derived.Shelf.Strconv.ParseUint10Empty
import Derived.Shelf.Strconv.ParseUint10Any
import Derived.Shelf.Strconv.ParseInt10
import Derived.Shelf.Strconv.AtoiLong
import Derived.Shelf.Strconv.AtoiInnerAll
import Derived.Shelf.Strconv.RangeError
import Derived.Shelf.Strconv.ToErrorRange
import Derived.Shelf.Strconv.AtoiAll
import Derived.Shelf.Strconv.ErrVarAll
import Derived.Shelf.Sort.Plain
import Derived.Shelf.Slices.Equal
import Derived.Ground.Names2Prog
import Derived.Shelf.Slices.Clone
import Derived.Shelf.Slices.CompactI
import Derived.Shelf.Slices.In.SortNone
import Derived.Shelf.Slices.In.SortNone2
import Derived.Shelf.Slices.Empties2
import Derived.Test.YtjknkdmenhcbkaaDoorProg
namespace Go.Proofs
open Go.Shelf
def Tryd.laysM171_ren : Go.Shelf.Ren := ⟨fun | 171 => 30 | 243 => 42 | 246 => 62 | 283 => 73 | 284 => 74 | 285 => 75 | 286 => 76 | 129 => 53 | 317 => 80 | 318 => 81 | 319 => 82 | 320 => 83 | 337 => 84 | 338 => 85 | n => n, fun | 3 => 3 | 9 => 9 | 2 => 2 | 4 => 4 | 171 => 110 | 0 => 0 | 53 => 88 | 37 => 58 | 5 => 5 | 173 => 112 | 212 => 123 | 51 => 86 | 20 => 20 | 213 => 124 | 46 => 67 | 232 => 125 | 233 => 126 | n => n, fun | 17 => 3 | 18 => 4 | 19 => 5 | n => n⟩
theorem Tryd.laysM171 : Go.Proofs.LaysM.n171 Tryd.prog Tryd.laysM171_ren := {
  mixed := by kernel_rfl
  f129 := Tryd.func53.trans (congrArg some (by kernel_rfl))
  f171 := Tryd.func30.trans (congrArg some (by kernel_rfl))
  f243 := Tryd.func42.trans (congrArg some (by kernel_rfl))
  f246 := Tryd.func62.trans (congrArg some (by kernel_rfl))
  f283 := Tryd.func73.trans (congrArg some (by kernel_rfl))
  f284 := Tryd.func74.trans (congrArg some (by kernel_rfl))
  f285 := Tryd.func75.trans (congrArg some (by kernel_rfl))
  f286 := Tryd.func76.trans (congrArg some (by kernel_rfl))
  f317 := Tryd.func80.trans (congrArg some (by kernel_rfl))
  f318 := Tryd.func81.trans (congrArg some (by kernel_rfl))
  f319 := Tryd.func82.trans (congrArg some (by kernel_rfl))
  f320 := Tryd.func83.trans (congrArg some (by kernel_rfl))
  f337 := Tryd.func84.trans (congrArg some (by kernel_rfl))
  f338 := Tryd.func85.trans (congrArg some (by kernel_rfl))
  t0 := Tryd.underlying0
  a0 := Tryd.isAgg0
  z0 := Tryd.sizeOf0
  v0 := Tryd.zeroValue0
  t2 := Tryd.underlying2
  a2 := Tryd.isAgg2
  z2 := Tryd.sizeOf2
  v2 := Tryd.zeroValue2
  t3 := Tryd.underlying3
  a3 := Tryd.isAgg3
  z3 := Tryd.sizeOf3
  v3 := Tryd.zeroValue3
  t4 := Tryd.underlying4
  a4 := Tryd.isAgg4
  z4 := Tryd.sizeOf4
  v4 := Tryd.zeroValue4
  t5 := Tryd.underlying5
  a5 := Tryd.isAgg5
  z5 := Tryd.sizeOf5
  v5 := Tryd.zeroValue5
  t9 := Tryd.underlying9
  a9 := Tryd.isAgg9
  z9 := Tryd.sizeOf9
  v9 := Tryd.zeroValue9
  t20 := Tryd.underlying20
  a20 := Tryd.isAgg20
  z20 := Tryd.sizeOf20
  v20 := Tryd.zeroValue20
  t37 := Tryd.underlying58
  a37 := Tryd.isAgg58
  z37 := Tryd.sizeOf58
  v37 := Tryd.zeroValue58
  t46 := Tryd.underlying67
  a46 := Tryd.isAgg67
  z46 := Tryd.sizeOf67
  v46 := Tryd.zeroValue67
  t51 := Tryd.underlying86
  a51 := Tryd.isAgg86
  z51 := Tryd.sizeOf86
  v51 := Tryd.zeroValue86
  t53 := Tryd.underlying88
  a53 := Tryd.isAgg88
  z53 := Tryd.sizeOf88
  v53 := Tryd.zeroValue88
  t171 := Tryd.underlying110
  a171 := Tryd.isAgg110
  z171 := Tryd.sizeOf110
  v171 := Tryd.zeroValue110
  t173 := Tryd.underlying112
  a173 := Tryd.isAgg112
  z173 := Tryd.sizeOf112
  v173 := Tryd.zeroValue112
  t212 := Tryd.underlying123
  a212 := Tryd.isAgg123
  z212 := Tryd.sizeOf123
  v212 := Tryd.zeroValue123
  t213 := Tryd.underlying124
  a213 := Tryd.isAgg124
  z213 := Tryd.sizeOf124
  t232 := Tryd.underlying125
  a232 := Tryd.isAgg125
  z232 := Tryd.sizeOf125
  v232 := Tryd.zeroValue125
  t233 := Tryd.underlying126
  a233 := Tryd.isAgg126
  z233 := Tryd.sizeOf126
  v233 := Tryd.zeroValue126
  g17 := by kernel_rfl
  g18 := by kernel_rfl
  g19 := by kernel_rfl
  i0 := by kernel_rfl
  i2 := by kernel_rfl
  i3 := by kernel_rfl
  i4 := by kernel_rfl
  i5 := by kernel_rfl
  i9 := by kernel_rfl
  i20 := by kernel_rfl
  i37 := by kernel_rfl
  i46 := by kernel_rfl
  i51 := by kernel_rfl
  i53 := by kernel_rfl
  i171 := by kernel_rfl
  i173 := by kernel_rfl
  i212 := by kernel_rfl
  i232 := by kernel_rfl
  i233 := by kernel_rfl
  m17 := by kernel_rfl
  m18 := by kernel_rfl
  m19 := by kernel_rfl }
open Go.RowKit Go.Sort Go.Lib in
/-- strconv.Itoa: "Itoa is equivalent to FormatInt(int64(i), 10).": i's DECIMAL NUMERAL ('Lib.itoa': a '-' where i is negative, then the digits), FOR EVERY int. The world behind the call: the world before it, new blocks behind the heap (the library's 'var a [24]byte'), draws. (LAID: no walk: one application.) -/
theorem Tryd.strconv_Itoa (n : Int) (h0 : -9223372036854775808 ≤ n) (h1 : n ≤ 9223372036854775807) (w : World) (htab : Lib.TabIs Tryd.prog w "internal/strconv.uint64pow10" .u64 Lib.pow10Tab) :
    Calls Tryd.prog 30 #[.int .i64 n] w fun e w' => e = .returned (.string ⟨(Lib.itoa n).toArray⟩) ∧ ∃ k os, w' = grow (w.drewN k) os := Any.strconv_Itoa Tryd.laysM171 n h0 h1 w htab
def Tryd.lays171_ren : Go.Shelf.Ren := ⟨fun | 171 => 30 | 243 => 42 | 246 => 62 | 283 => 73 | 284 => 74 | 285 => 75 | 286 => 76 | 129 => 53 | 317 => 80 | 318 => 81 | 319 => 82 | 320 => 83 | 337 => 84 | 338 => 85 | n => n, fun | 3 => 3 | 9 => 9 | 2 => 2 | 4 => 4 | 171 => 110 | 0 => 0 | 53 => 88 | 37 => 58 | 5 => 5 | 173 => 112 | 212 => 123 | 51 => 86 | 20 => 20 | 213 => 124 | 46 => 67 | 232 => 125 | 233 => 126 | n => n, fun | 17 => 3 | 18 => 4 | 19 => 5 | n => n⟩
theorem Tryd.lays171 : Go.Proofs.Lays.n171 Tryd.prog Tryd.lays171_ren := {
  mixed := by kernel_rfl
  f129 := Tryd.func53.trans (congrArg some (by kernel_rfl))
  f171 := Tryd.func30.trans (congrArg some (by kernel_rfl))
  f243 := Tryd.func42.trans (congrArg some (by kernel_rfl))
  f246 := Tryd.func62.trans (congrArg some (by kernel_rfl))
  f283 := Tryd.func73.trans (congrArg some (by kernel_rfl))
  f284 := Tryd.func74.trans (congrArg some (by kernel_rfl))
  f285 := Tryd.func75.trans (congrArg some (by kernel_rfl))
  f286 := Tryd.func76.trans (congrArg some (by kernel_rfl))
  f317 := Tryd.func80.trans (congrArg some (by kernel_rfl))
  f318 := Tryd.func81.trans (congrArg some (by kernel_rfl))
  f319 := Tryd.func82.trans (congrArg some (by kernel_rfl))
  f320 := Tryd.func83.trans (congrArg some (by kernel_rfl))
  f337 := Tryd.func84.trans (congrArg some (by kernel_rfl))
  f338 := Tryd.func85.trans (congrArg some (by kernel_rfl))
  t0 := Tryd.underlying0
  a0 := Tryd.isAgg0
  z0 := Tryd.sizeOf0
  v0 := Tryd.zeroValue0
  t2 := Tryd.underlying2
  a2 := Tryd.isAgg2
  z2 := Tryd.sizeOf2
  v2 := Tryd.zeroValue2
  t3 := Tryd.underlying3
  a3 := Tryd.isAgg3
  z3 := Tryd.sizeOf3
  v3 := Tryd.zeroValue3
  t4 := Tryd.underlying4
  a4 := Tryd.isAgg4
  z4 := Tryd.sizeOf4
  v4 := Tryd.zeroValue4
  t5 := Tryd.underlying5
  a5 := Tryd.isAgg5
  z5 := Tryd.sizeOf5
  v5 := Tryd.zeroValue5
  t9 := Tryd.underlying9
  a9 := Tryd.isAgg9
  z9 := Tryd.sizeOf9
  v9 := Tryd.zeroValue9
  t20 := Tryd.underlying20
  a20 := Tryd.isAgg20
  z20 := Tryd.sizeOf20
  v20 := Tryd.zeroValue20
  t37 := Tryd.underlying58
  a37 := Tryd.isAgg58
  z37 := Tryd.sizeOf58
  v37 := Tryd.zeroValue58
  t46 := Tryd.underlying67
  a46 := Tryd.isAgg67
  z46 := Tryd.sizeOf67
  v46 := Tryd.zeroValue67
  t51 := Tryd.underlying86
  a51 := Tryd.isAgg86
  z51 := Tryd.sizeOf86
  v51 := Tryd.zeroValue86
  t53 := Tryd.underlying88
  a53 := Tryd.isAgg88
  z53 := Tryd.sizeOf88
  v53 := Tryd.zeroValue88
  t171 := Tryd.underlying110
  a171 := Tryd.isAgg110
  z171 := Tryd.sizeOf110
  v171 := Tryd.zeroValue110
  t173 := Tryd.underlying112
  a173 := Tryd.isAgg112
  z173 := Tryd.sizeOf112
  v173 := Tryd.zeroValue112
  t212 := Tryd.underlying123
  a212 := Tryd.isAgg123
  z212 := Tryd.sizeOf123
  v212 := Tryd.zeroValue123
  t213 := Tryd.underlying124
  a213 := Tryd.isAgg124
  z213 := Tryd.sizeOf124
  t232 := Tryd.underlying125
  a232 := Tryd.isAgg125
  z232 := Tryd.sizeOf125
  v232 := Tryd.zeroValue125
  t233 := Tryd.underlying126
  a233 := Tryd.isAgg126
  z233 := Tryd.sizeOf126
  v233 := Tryd.zeroValue126
  g17 := by kernel_rfl
  g18 := by kernel_rfl
  g19 := by kernel_rfl }
open Go.RowKit Go.Sort Go.Lib in
/-- THE ROAD WITHOUT THE TABLE: 0 <= i < 100: NO PREMISE ON THE WORLD, AND THE WORLD IS AS IT WAS: a row that keeps its argument in that range need list no table ('laid = []'). (LAID: no walk: one application.) -/
theorem Tryd.strconv_Itoa_small (i : Nat) (hi : i < 100) (w : World) :
    Calls Tryd.prog 30 #[.int .i64 i] w fun e w' => e = .returned (.string ⟨(Lib.decDigits i).toArray⟩) ∧ w' = w := Any.strconv_Itoa_small Tryd.lays171 i hi w
def Tryd.laysM178_ren : Go.Shelf.Ren := ⟨fun | 178 => 29 | 251 => 40 | 252 => 41 | 181 => 59 | 184 => 60 | 290 => 61 | 324 => 72 | n => n, fun | 130 => 74 | 9 => 9 | 3 => 3 | 75 => 38 | 0 => 0 | 93 => 62 | 91 => 60 | 131 => 68 | 4 => 4 | 37 => 58 | 20 => 20 | 80 => 43 | 5 => 5 | n => n, fun | 14 => 0 | n => n⟩
theorem Tryd.laysM178 : Go.Proofs.LaysM.n178 Tryd.prog Tryd.laysM178_ren := {
  mixed := by kernel_rfl
  f178 := Tryd.func29.trans (congrArg some (by kernel_rfl))
  f181 := Tryd.func59.trans (congrArg some (by kernel_rfl))
  f184 := Tryd.func60.trans (congrArg some (by kernel_rfl))
  f251 := Tryd.func40.trans (congrArg some (by kernel_rfl))
  f252 := Tryd.func41.trans (congrArg some (by kernel_rfl))
  f290 := Tryd.func61.trans (congrArg some (by kernel_rfl))
  f324 := Tryd.func72.trans (congrArg some (by kernel_rfl))
  t0 := Tryd.underlying0
  a0 := Tryd.isAgg0
  z0 := Tryd.sizeOf0
  v0 := Tryd.zeroValue0
  t3 := Tryd.underlying3
  a3 := Tryd.isAgg3
  z3 := Tryd.sizeOf3
  v3 := Tryd.zeroValue3
  t4 := Tryd.underlying4
  a4 := Tryd.isAgg4
  z4 := Tryd.sizeOf4
  v4 := Tryd.zeroValue4
  t9 := Tryd.underlying9
  a9 := Tryd.isAgg9
  z9 := Tryd.sizeOf9
  v9 := Tryd.zeroValue9
  t20 := Tryd.underlying20
  a20 := Tryd.isAgg20
  z20 := Tryd.sizeOf20
  v20 := Tryd.zeroValue20
  t37 := Tryd.underlying58
  a37 := Tryd.isAgg58
  z37 := Tryd.sizeOf58
  v37 := Tryd.zeroValue58
  t75 := Tryd.underlying38
  a75 := Tryd.isAgg38
  z75 := Tryd.sizeOf38
  v75 := Tryd.zeroValue38
  t91 := Tryd.underlying60
  a91 := Tryd.isAgg60
  z91 := Tryd.sizeOf60
  v91 := Tryd.zeroValue60
  t93 := Tryd.underlying62
  a93 := Tryd.isAgg62
  z93 := Tryd.sizeOf62
  v93 := Tryd.zeroValue62
  t130 := Tryd.underlying74
  a130 := Tryd.isAgg74
  z130 := Tryd.sizeOf74
  v130 := Tryd.zeroValue74
  t131 := Tryd.underlying68
  a131 := Tryd.isAgg68
  z131 := Tryd.sizeOf68
  v131 := Tryd.zeroValue68
  g14 := by kernel_rfl
  t5 := Tryd.underlying5
  a5 := Tryd.isAgg5
  z5 := Tryd.sizeOf5
  v5 := Tryd.zeroValue5
  t80 := Tryd.underlying43
  a80 := Tryd.isAgg43
  z80 := Tryd.sizeOf43
  v80 := Tryd.zeroValue43
  i0 := by kernel_rfl
  i3 := by kernel_rfl
  i4 := by kernel_rfl
  i5 := by kernel_rfl
  i9 := by kernel_rfl
  i20 := by kernel_rfl
  i37 := by kernel_rfl
  i75 := by kernel_rfl
  i80 := by kernel_rfl
  i91 := by kernel_rfl
  i93 := by kernel_rfl
  i130 := by kernel_rfl
  i131 := by kernel_rfl
  m14 := by kernel_rfl }
open Go.RowKit in
/-- (*bytes.Buffer).WriteString: "WriteString appends the contents of s to the buffer, growing the buffer as needed. The return value n is the length of s; err is always nil." (LAID: no walk: one application.) -/
theorem Tryd.Buffer_WriteString (B b : Nat) (bs : List Value) (s : ByteArray) (w : World) (h : Lib.IsBuffer 62 5 B b bs w) (hBw : B ≤ w.heap.size) (h1 : ∀ v ∈ bs, v.oneCell' = true) (hlim : bs.length + s.size ≤ 140737488355328) :
    Calls Tryd.prog 29 #[.pointer (some ⟨b, 0, none⟩), .string s] w fun e w' => e = .returned (.tuple #[.int .i64 s.size, .nilIface]) ∧ Lib.IsBuffer 62 5 B b (bs ++ Lib.byteCells s.data.toList) w' ∧ Below B w w' := Any.Buffer_WriteString Tryd.laysM178 B b bs s w h hBw h1 hlim
def Tryd.laysM182_ren : Go.Shelf.Ren := ⟨fun | 182 => 32 | n => n, fun | 130 => 74 | 9 => 9 | 4 => 4 | 0 => 0 | 93 => 62 | 37 => 58 | 3 => 3 | 91 => 60 | 5 => 5 | n => n, fun | n => n⟩
theorem Tryd.laysM182 : Go.Proofs.LaysM.n182 Tryd.prog Tryd.laysM182_ren := {
  mixed := by kernel_rfl
  f182 := Tryd.func32.trans (congrArg some (by kernel_rfl))
  t0 := Tryd.underlying0
  a0 := Tryd.isAgg0
  z0 := Tryd.sizeOf0
  v0 := Tryd.zeroValue0
  t3 := Tryd.underlying3
  a3 := Tryd.isAgg3
  z3 := Tryd.sizeOf3
  v3 := Tryd.zeroValue3
  t4 := Tryd.underlying4
  a4 := Tryd.isAgg4
  z4 := Tryd.sizeOf4
  v4 := Tryd.zeroValue4
  t9 := Tryd.underlying9
  a9 := Tryd.isAgg9
  z9 := Tryd.sizeOf9
  v9 := Tryd.zeroValue9
  t37 := Tryd.underlying58
  a37 := Tryd.isAgg58
  z37 := Tryd.sizeOf58
  v37 := Tryd.zeroValue58
  t93 := Tryd.underlying62
  a93 := Tryd.isAgg62
  z93 := Tryd.sizeOf62
  v93 := Tryd.zeroValue62
  t130 := Tryd.underlying74
  a130 := Tryd.isAgg74
  z130 := Tryd.sizeOf74
  v130 := Tryd.zeroValue74
  t5 := Tryd.underlying5
  a5 := Tryd.isAgg5
  z5 := Tryd.sizeOf5
  v5 := Tryd.zeroValue5
  t91 := Tryd.underlying60
  a91 := Tryd.isAgg60
  z91 := Tryd.sizeOf60
  v91 := Tryd.zeroValue60
  i0 := by kernel_rfl
  i3 := by kernel_rfl
  i4 := by kernel_rfl
  i5 := by kernel_rfl
  i9 := by kernel_rfl
  i37 := by kernel_rfl
  i91 := by kernel_rfl
  i93 := by kernel_rfl
  i130 := by kernel_rfl }
open Go.RowKit in
/-- (*bytes.Buffer).String: "String returns the contents of the unread portion of the buffer as a string.": THE BYTES THAT WERE WRITTEN. The world is as it was but for the count of draws (the statement has two reads: its order is drawn). (LAID: no walk: one application.) -/
theorem Tryd.Buffer_String (B b : Nat) (l : List UInt8) (w : World) (h : Lib.IsBuffer 62 5 B b (Lib.byteCells l) w) :
    Calls Tryd.prog 32 #[.pointer (some ⟨b, 0, none⟩)] w fun e w' => e = .returned (.string ⟨l.toArray⟩) ∧ ∃ n, w' = w.drewN n := Any.Buffer_String Tryd.laysM182 B b l w h
def Tryd.laysC172_ren : Go.Shelf.Ren := ⟨fun | 172 => 22 | 244 => 36 | 245 => 37 | 247 => 54 | 279 => 55 | 280 => 56 | 281 => 57 | 282 => 58 | 287 => 69 | 316 => 70 | 171 => 30 | 205 => 71 | 321 => 78 | 322 => 79 | 243 => 42 | 246 => 62 | 283 => 73 | 284 => 74 | 285 => 75 | 286 => 76 | 129 => 53 | 317 => 80 | 318 => 81 | 319 => 82 | 320 => 83 | 337 => 84 | 338 => 85 | n => n, fun | 9 => 9 | 3 => 3 | 75 => 38 | 76 => 49 | 4 => 4 | 5 => 5 | 167 => 89 | 37 => 58 | 0 => 0 | 85 => 90 | 2 => 2 | 168 => 92 | 53 => 88 | 175 => 104 | 46 => 67 | 210 => 108 | 127 => 118 | 145 => 121 | 143 => 119 | 21 => 21 | 171 => 110 | 173 => 112 | 212 => 123 | 51 => 86 | 20 => 20 | 213 => 124 | 232 => 125 | 233 => 126 | 80 => 43 | n => n, fun | 15 => 1 | 16 => 2 | 17 => 3 | 18 => 4 | 19 => 5 | n => n⟩
theorem Tryd.laysC172 : Go.Proofs.LaysC.n172 Tryd.prog Tryd.laysC172_ren := {
  mixed := by kernel_rfl
  f129 := Tryd.func53.trans (congrArg some (by kernel_rfl))
  f171 := Tryd.func30.trans (congrArg some (by kernel_rfl))
  f172 := Tryd.func22.trans (congrArg some (by kernel_rfl))
  f205 := Tryd.func71.trans (congrArg some (by kernel_rfl))
  f243 := Tryd.func42.trans (congrArg some (by kernel_rfl))
  f244 := Tryd.func36.trans (congrArg some (by kernel_rfl))
  f245 := Tryd.func37.trans (congrArg some (by kernel_rfl))
  f246 := Tryd.func62.trans (congrArg some (by kernel_rfl))
  f247 := Tryd.func54.trans (congrArg some (by kernel_rfl))
  f279 := Tryd.func55.trans (congrArg some (by kernel_rfl))
  f280 := Tryd.func56.trans (congrArg some (by kernel_rfl))
  f281 := Tryd.func57.trans (congrArg some (by kernel_rfl))
  f282 := Tryd.func58.trans (congrArg some (by kernel_rfl))
  f283 := Tryd.func73.trans (congrArg some (by kernel_rfl))
  f284 := Tryd.func74.trans (congrArg some (by kernel_rfl))
  f285 := Tryd.func75.trans (congrArg some (by kernel_rfl))
  f286 := Tryd.func76.trans (congrArg some (by kernel_rfl))
  f287 := Tryd.func69.trans (congrArg some (by kernel_rfl))
  f316 := Tryd.func70.trans (congrArg some (by kernel_rfl))
  f317 := Tryd.func80.trans (congrArg some (by kernel_rfl))
  f318 := Tryd.func81.trans (congrArg some (by kernel_rfl))
  f319 := Tryd.func82.trans (congrArg some (by kernel_rfl))
  f320 := Tryd.func83.trans (congrArg some (by kernel_rfl))
  f321 := Tryd.func78.trans (congrArg some (by kernel_rfl))
  f322 := Tryd.func79.trans (congrArg some (by kernel_rfl))
  f337 := Tryd.func84.trans (congrArg some (by kernel_rfl))
  f338 := Tryd.func85.trans (congrArg some (by kernel_rfl))
  t0 := Tryd.underlying0
  a0 := Tryd.isAgg0
  z0 := Tryd.sizeOf0
  v0 := Tryd.zeroValue0
  t2 := Tryd.underlying2
  a2 := Tryd.isAgg2
  z2 := Tryd.sizeOf2
  v2 := Tryd.zeroValue2
  t3 := Tryd.underlying3
  a3 := Tryd.isAgg3
  z3 := Tryd.sizeOf3
  v3 := Tryd.zeroValue3
  t4 := Tryd.underlying4
  a4 := Tryd.isAgg4
  z4 := Tryd.sizeOf4
  v4 := Tryd.zeroValue4
  t5 := Tryd.underlying5
  a5 := Tryd.isAgg5
  z5 := Tryd.sizeOf5
  v5 := Tryd.zeroValue5
  t9 := Tryd.underlying9
  a9 := Tryd.isAgg9
  z9 := Tryd.sizeOf9
  v9 := Tryd.zeroValue9
  t20 := Tryd.underlying20
  a20 := Tryd.isAgg20
  z20 := Tryd.sizeOf20
  v20 := Tryd.zeroValue20
  t21 := Tryd.underlying21
  a21 := Tryd.isAgg21
  z21 := Tryd.sizeOf21
  v21 := Tryd.zeroValue21
  t37 := Tryd.underlying58
  a37 := Tryd.isAgg58
  z37 := Tryd.sizeOf58
  v37 := Tryd.zeroValue58
  t46 := Tryd.underlying67
  a46 := Tryd.isAgg67
  z46 := Tryd.sizeOf67
  v46 := Tryd.zeroValue67
  t51 := Tryd.underlying86
  a51 := Tryd.isAgg86
  z51 := Tryd.sizeOf86
  v51 := Tryd.zeroValue86
  t53 := Tryd.underlying88
  a53 := Tryd.isAgg88
  z53 := Tryd.sizeOf88
  v53 := Tryd.zeroValue88
  t75 := Tryd.underlying38
  a75 := Tryd.isAgg38
  z75 := Tryd.sizeOf38
  v75 := Tryd.zeroValue38
  t76 := Tryd.underlying49
  a76 := Tryd.isAgg49
  z76 := Tryd.sizeOf49
  v76 := Tryd.zeroValue49
  t85 := Tryd.underlying90
  a85 := Tryd.isAgg90
  z85 := Tryd.sizeOf90
  v85 := Tryd.zeroValue90
  t127 := Tryd.underlying118
  a127 := Tryd.isAgg118
  z127 := Tryd.sizeOf118
  v127 := Tryd.zeroValue118
  t143 := Tryd.underlying119
  a143 := Tryd.isAgg119
  z143 := Tryd.sizeOf119
  v143 := Tryd.zeroValue119
  t145 := Tryd.underlying121
  a145 := Tryd.isAgg121
  z145 := Tryd.sizeOf121
  v145 := Tryd.zeroValue121
  t167 := Tryd.underlying89
  a167 := Tryd.isAgg89
  z167 := Tryd.sizeOf89
  v167 := Tryd.zeroValue89
  t168 := Tryd.underlying92
  a168 := Tryd.isAgg92
  z168 := Tryd.sizeOf92
  v168 := Tryd.zeroValue92
  t171 := Tryd.underlying110
  a171 := Tryd.isAgg110
  z171 := Tryd.sizeOf110
  v171 := Tryd.zeroValue110
  t173 := Tryd.underlying112
  a173 := Tryd.isAgg112
  z173 := Tryd.sizeOf112
  v173 := Tryd.zeroValue112
  t175 := Tryd.underlying104
  a175 := Tryd.isAgg104
  z175 := Tryd.sizeOf104
  v175 := Tryd.zeroValue104
  t210 := Tryd.underlying108
  a210 := Tryd.isAgg108
  z210 := Tryd.sizeOf108
  v210 := Tryd.zeroValue108
  t212 := Tryd.underlying123
  a212 := Tryd.isAgg123
  z212 := Tryd.sizeOf123
  v212 := Tryd.zeroValue123
  t213 := Tryd.underlying124
  a213 := Tryd.isAgg124
  z213 := Tryd.sizeOf124
  t232 := Tryd.underlying125
  a232 := Tryd.isAgg125
  z232 := Tryd.sizeOf125
  v232 := Tryd.zeroValue125
  t233 := Tryd.underlying126
  a233 := Tryd.isAgg126
  z233 := Tryd.sizeOf126
  v233 := Tryd.zeroValue126
  g15 := by kernel_rfl
  g16 := by kernel_rfl
  g17 := by kernel_rfl
  g18 := by kernel_rfl
  g19 := by kernel_rfl
  t80 := Tryd.underlying43
  a80 := Tryd.isAgg43
  z80 := Tryd.sizeOf43
  v80 := Tryd.zeroValue43
  i0 := by kernel_rfl
  i2 := by kernel_rfl
  i3 := by kernel_rfl
  i4 := by kernel_rfl
  i5 := by kernel_rfl
  i9 := by kernel_rfl
  i20 := by kernel_rfl
  i21 := by kernel_rfl
  i37 := by kernel_rfl
  i46 := by kernel_rfl
  i51 := by kernel_rfl
  i53 := by kernel_rfl
  i75 := by kernel_rfl
  i76 := by kernel_rfl
  i80 := by kernel_rfl
  i85 := by kernel_rfl
  i127 := by kernel_rfl
  i143 := by kernel_rfl
  i145 := by kernel_rfl
  i167 := by kernel_rfl
  i168 := by kernel_rfl
  i171 := by kernel_rfl
  i173 := by kernel_rfl
  i175 := by kernel_rfl
  i210 := by kernel_rfl
  i212 := by kernel_rfl
  i232 := by kernel_rfl
  i233 := by kernel_rfl
  m15 := by kernel_rfl
  m16 := by kernel_rfl
  m17 := by kernel_rfl
  m18 := by kernel_rfl
  m19 := by kernel_rfl
  c0 := by kernel_rfl
  c2 := by kernel_rfl
  c3 := by kernel_rfl
  c4 := by kernel_rfl
  c5 := by kernel_rfl
  c9 := by kernel_rfl
  c20 := by kernel_rfl
  c21 := by kernel_rfl
  c37 := by kernel_rfl
  c46 := by kernel_rfl
  c51 := by kernel_rfl
  c53 := by kernel_rfl
  c75 := by kernel_rfl
  c76 := by kernel_rfl
  c80 := by kernel_rfl
  c85 := by kernel_rfl
  c127 := by kernel_rfl
  c143 := by kernel_rfl
  c145 := by kernel_rfl
  c167 := by kernel_rfl
  c168 := by kernel_rfl
  c171 := by kernel_rfl
  c173 := by kernel_rfl
  c175 := by kernel_rfl
  c210 := by kernel_rfl
  c212 := by kernel_rfl
  c213 := by kernel_rfl
  c232 := by kernel_rfl
  c233 := by kernel_rfl }
open Go.RowKit in
/-- strconv.Atoi, AT EVERY STRING THAT SPELLS AN int ('Lib.atoiAll .. = .ok v'; of whatever length: leading zeros count): v, AND NO ERROR. The world: as it was, or with the one new row that '[]byte(..)' lays. (LAID: no walk: one application.) -/
theorem Tryd.strconv_Atoi_ok (s : ByteArray) (hmax : s.size ≤ 9223372036854775806) (v : Int) (h : Lib.atoiAll s.data.toList = .ok v) (w : World) :
    Calls Tryd.prog 22 #[.string s] w fun e w' => e = .returned (.tuple #[.int .i64 v, .nilIface]) ∧ (w' = w ∨ ∃ t, w' = Lib.bytesWorld w 5 t) := Any.strconv_Atoi_ok Tryd.laysC172 s hmax v h w
open Go.RowKit in
theorem Tryd.strconv_Atoi_syntax_var (s : ByteArray) (hlim : s.size ≤ 281474976710656) (h : Lib.atoiAll s.data.toList = Lib.NumEnd.syntax) (tp : TypeId) (p : Value) (w : World) (hvar : w.var? Tryd.prog "strconv.ErrSyntax" = some #[.iface tp p]) :
    Calls Tryd.prog 22 #[.string s] w fun e w' => ∃ N, e = .returned (.tuple #[.int .i64 0, .iface 92 (.pointer (some ⟨N, 0, none⟩))]) ∧ w.heap.size ≤ N ∧ w'.heap[N]? = some (.cells #[.string ⟨#[65, 116, 111, 105]⟩, .string s, .iface tp p] 108 (0, 0)) ∧ Below w.heap.size w w' := Any.strconv_Atoi_syntax_var Tryd.laysC172 s hlim h tp p w hvar
open Go.RowKit in
theorem Tryd.strconv_Atoi_range_var (s : ByteArray) (hlim : s.size ≤ 281474976710656) (h : Lib.atoiAll s.data.toList = .range) (tp : TypeId) (p : Value) (w : World) (hvar : w.var? Tryd.prog "strconv.ErrRange" = some #[.iface tp p]) :
    Calls Tryd.prog 22 #[.string s] w fun e w' => ∃ N, e = .returned (.tuple #[.int .i64 (Lib.atoiSat s.data.toList), .iface 92 (.pointer (some ⟨N, 0, none⟩))]) ∧ w.heap.size ≤ N ∧ w'.heap[N]? = some (.cells #[.string ⟨#[65, 116, 111, 105]⟩, .string s, .iface tp p] 108 (0, 0)) ∧ Below w.heap.size w w' := Any.strconv_Atoi_range_var Tryd.laysC172 s hlim h tp p w hvar
def Tryd.lays189_ren : Go.Shelf.Ren := ⟨fun | 189 => 18 | 125 => 34 | 257 => 33 | 128 => 52 | 129 => 53 | 294 => 43 | 295 => 44 | 296 => 45 | 297 => 46 | 298 => 47 | 299 => 48 | 216 => 49 | 300 => 50 | 301 => 51 | 328 => 63 | 329 => 64 | 330 => 65 | 331 => 66 | 332 => 67 | 215 => 68 | 343 => 77 | n => n, fun | 28 => 22 | 3 => 3 | 46 => 67 | 0 => 0 | 51 => 86 | 53 => 88 | 4 => 4 | 183 => 79 | 182 => 78 | 131 => 68 | 5 => 5 | 9 => 9 | 218 => 97 | 222 => 101 | 228 => 114 | 229 => 115 | n => n, fun | n => n⟩
theorem Tryd.lays189 : Go.Proofs.Lays.n189 Tryd.prog Tryd.lays189_ren := {
  mixed := by kernel_rfl
  f125 := Tryd.func34.trans (congrArg some (by kernel_rfl))
  f128 := Tryd.func52.trans (congrArg some (by kernel_rfl))
  f129 := Tryd.func53.trans (congrArg some (by kernel_rfl))
  f189 := Tryd.func18.trans (congrArg some (by kernel_rfl))
  f215 := Tryd.func68.trans (congrArg some (by kernel_rfl))
  f216 := Tryd.func49.trans (congrArg some (by kernel_rfl))
  f257 := Tryd.func33.trans (congrArg some (by kernel_rfl))
  f294 := Tryd.func43.trans (congrArg some (by kernel_rfl))
  f295 := Tryd.func44.trans (congrArg some (by kernel_rfl))
  f296 := Tryd.func45.trans (congrArg some (by kernel_rfl))
  f297 := Tryd.func46.trans (congrArg some (by kernel_rfl))
  f298 := Tryd.func47.trans (congrArg some (by kernel_rfl))
  f299 := Tryd.func48.trans (congrArg some (by kernel_rfl))
  f300 := Tryd.func50.trans (congrArg some (by kernel_rfl))
  f301 := Tryd.func51.trans (congrArg some (by kernel_rfl))
  f328 := Tryd.func63.trans (congrArg some (by kernel_rfl))
  f329 := Tryd.func64.trans (congrArg some (by kernel_rfl))
  f330 := Tryd.func65.trans (congrArg some (by kernel_rfl))
  f331 := Tryd.func66.trans (congrArg some (by kernel_rfl))
  f332 := Tryd.func67.trans (congrArg some (by kernel_rfl))
  f343 := Tryd.func77.trans (congrArg some (by kernel_rfl))
  t0 := Tryd.underlying0
  a0 := Tryd.isAgg0
  z0 := Tryd.sizeOf0
  v0 := Tryd.zeroValue0
  t3 := Tryd.underlying3
  a3 := Tryd.isAgg3
  z3 := Tryd.sizeOf3
  v3 := Tryd.zeroValue3
  t4 := Tryd.underlying4
  a4 := Tryd.isAgg4
  z4 := Tryd.sizeOf4
  v4 := Tryd.zeroValue4
  t5 := Tryd.underlying5
  a5 := Tryd.isAgg5
  z5 := Tryd.sizeOf5
  v5 := Tryd.zeroValue5
  t9 := Tryd.underlying9
  a9 := Tryd.isAgg9
  z9 := Tryd.sizeOf9
  v9 := Tryd.zeroValue9
  t28 := Tryd.underlying22
  a28 := Tryd.isAgg22
  z28 := Tryd.sizeOf22
  v28 := Tryd.zeroValue22
  t46 := Tryd.underlying67
  a46 := Tryd.isAgg67
  z46 := Tryd.sizeOf67
  v46 := Tryd.zeroValue67
  t51 := Tryd.underlying86
  a51 := Tryd.isAgg86
  z51 := Tryd.sizeOf86
  v51 := Tryd.zeroValue86
  t53 := Tryd.underlying88
  a53 := Tryd.isAgg88
  z53 := Tryd.sizeOf88
  v53 := Tryd.zeroValue88
  t131 := Tryd.underlying68
  a131 := Tryd.isAgg68
  z131 := Tryd.sizeOf68
  v131 := Tryd.zeroValue68
  t182 := Tryd.underlying78
  a182 := Tryd.isAgg78
  z182 := Tryd.sizeOf78
  v182 := Tryd.zeroValue78
  t183 := Tryd.underlying79
  a183 := Tryd.isAgg79
  z183 := Tryd.sizeOf79
  v183 := Tryd.zeroValue79
  t218 := Tryd.underlying97
  a218 := Tryd.isAgg97
  z218 := Tryd.sizeOf97
  v218 := Tryd.zeroValue97
  t222 := Tryd.underlying101
  a222 := Tryd.isAgg101
  z222 := Tryd.sizeOf101
  v222 := Tryd.zeroValue101
  t228 := Tryd.underlying114
  a228 := Tryd.isAgg114
  z228 := Tryd.sizeOf114
  v228 := Tryd.zeroValue114
  t229 := Tryd.underlying115
  a229 := Tryd.isAgg115
  z229 := Tryd.sizeOf115
  v229 := Tryd.zeroValue115 }
open Go.Sort Go.RowKit in
theorem Tryd.slices_Sort_int (blk off cap : Nat) (zs : List Int) (w : World) (hH : Holds (Value.int .i64) w blk off zs.toArray) (hblk : blk < w.heap.size) (hsz : zs.length < 4611686018427387904) :
    Calls Tryd.prog 18 #[.slice (some ⟨blk, off, none⟩) zs.length cap] w fun e w' =>
      e = .returned (.tuple #[]) ∧ ∃ n os, w' = grow (putRow (Value.int .i64) (Sort.ahead w n) blk off (zs.mergeSort fun x y => decide (x ≤ y)).toArray) os := Any.slices_Sort_int Tryd.lays189 blk off cap zs w hH hblk hsz
def Tryd.lays191_ren : Go.Shelf.Ren := ⟨fun | 191 => 27 | 189 => 18 | 125 => 34 | 257 => 33 | 128 => 52 | 129 => 53 | 294 => 43 | 295 => 44 | 296 => 45 | 297 => 46 | 298 => 47 | 299 => 48 | 216 => 49 | 300 => 50 | 301 => 51 | 328 => 63 | 329 => 64 | 330 => 65 | 331 => 66 | 332 => 67 | 215 => 68 | 343 => 77 | n => n, fun | 28 => 22 | 0 => 0 | 3 => 3 | 46 => 67 | 51 => 86 | 53 => 88 | 4 => 4 | 183 => 79 | 182 => 78 | 131 => 68 | 5 => 5 | 9 => 9 | 218 => 97 | 222 => 101 | 228 => 114 | 229 => 115 | n => n, fun | n => n⟩
theorem Tryd.lays191 : Go.Proofs.Lays.n191 Tryd.prog Tryd.lays191_ren := {
  mixed := by kernel_rfl
  f125 := Tryd.func34.trans (congrArg some (by kernel_rfl))
  f128 := Tryd.func52.trans (congrArg some (by kernel_rfl))
  f129 := Tryd.func53.trans (congrArg some (by kernel_rfl))
  f189 := Tryd.func18.trans (congrArg some (by kernel_rfl))
  f191 := Tryd.func27.trans (congrArg some (by kernel_rfl))
  f215 := Tryd.func68.trans (congrArg some (by kernel_rfl))
  f216 := Tryd.func49.trans (congrArg some (by kernel_rfl))
  f257 := Tryd.func33.trans (congrArg some (by kernel_rfl))
  f294 := Tryd.func43.trans (congrArg some (by kernel_rfl))
  f295 := Tryd.func44.trans (congrArg some (by kernel_rfl))
  f296 := Tryd.func45.trans (congrArg some (by kernel_rfl))
  f297 := Tryd.func46.trans (congrArg some (by kernel_rfl))
  f298 := Tryd.func47.trans (congrArg some (by kernel_rfl))
  f299 := Tryd.func48.trans (congrArg some (by kernel_rfl))
  f300 := Tryd.func50.trans (congrArg some (by kernel_rfl))
  f301 := Tryd.func51.trans (congrArg some (by kernel_rfl))
  f328 := Tryd.func63.trans (congrArg some (by kernel_rfl))
  f329 := Tryd.func64.trans (congrArg some (by kernel_rfl))
  f330 := Tryd.func65.trans (congrArg some (by kernel_rfl))
  f331 := Tryd.func66.trans (congrArg some (by kernel_rfl))
  f332 := Tryd.func67.trans (congrArg some (by kernel_rfl))
  f343 := Tryd.func77.trans (congrArg some (by kernel_rfl))
  t0 := Tryd.underlying0
  a0 := Tryd.isAgg0
  z0 := Tryd.sizeOf0
  v0 := Tryd.zeroValue0
  t3 := Tryd.underlying3
  a3 := Tryd.isAgg3
  z3 := Tryd.sizeOf3
  v3 := Tryd.zeroValue3
  t4 := Tryd.underlying4
  a4 := Tryd.isAgg4
  z4 := Tryd.sizeOf4
  v4 := Tryd.zeroValue4
  t5 := Tryd.underlying5
  a5 := Tryd.isAgg5
  z5 := Tryd.sizeOf5
  v5 := Tryd.zeroValue5
  t9 := Tryd.underlying9
  a9 := Tryd.isAgg9
  z9 := Tryd.sizeOf9
  v9 := Tryd.zeroValue9
  t28 := Tryd.underlying22
  a28 := Tryd.isAgg22
  z28 := Tryd.sizeOf22
  v28 := Tryd.zeroValue22
  t46 := Tryd.underlying67
  a46 := Tryd.isAgg67
  z46 := Tryd.sizeOf67
  v46 := Tryd.zeroValue67
  t51 := Tryd.underlying86
  a51 := Tryd.isAgg86
  z51 := Tryd.sizeOf86
  v51 := Tryd.zeroValue86
  t53 := Tryd.underlying88
  a53 := Tryd.isAgg88
  z53 := Tryd.sizeOf88
  v53 := Tryd.zeroValue88
  t131 := Tryd.underlying68
  a131 := Tryd.isAgg68
  z131 := Tryd.sizeOf68
  v131 := Tryd.zeroValue68
  t182 := Tryd.underlying78
  a182 := Tryd.isAgg78
  z182 := Tryd.sizeOf78
  v182 := Tryd.zeroValue78
  t183 := Tryd.underlying79
  a183 := Tryd.isAgg79
  z183 := Tryd.sizeOf79
  v183 := Tryd.zeroValue79
  t218 := Tryd.underlying97
  a218 := Tryd.isAgg97
  z218 := Tryd.sizeOf97
  v218 := Tryd.zeroValue97
  t222 := Tryd.underlying101
  a222 := Tryd.isAgg101
  z222 := Tryd.sizeOf101
  v222 := Tryd.zeroValue101
  t228 := Tryd.underlying114
  a228 := Tryd.isAgg114
  z228 := Tryd.sizeOf114
  v228 := Tryd.zeroValue114
  t229 := Tryd.underlying115
  a229 := Tryd.isAgg115
  z229 := Tryd.sizeOf115
  v229 := Tryd.zeroValue115 }
open Go.Sort Go.RowKit in
theorem Tryd.sort_Ints (blk off cap : Nat) (zs : List Int) (w : World) (hH : Holds (Value.int .i64) w blk off zs.toArray) (hblk : blk < w.heap.size) (hsz : zs.length < 4611686018427387904) :
    Calls Tryd.prog 27 #[.slice (some ⟨blk, off, none⟩) zs.length cap] w fun e w' =>
      e = .returned (.tuple #[]) ∧ ∃ n os, w' = grow (putRow (Value.int .i64) (Sort.ahead w n) blk off (zs.mergeSort fun x y => decide (x ≤ y)).toArray) os := Any.sort_Ints Tryd.lays191 blk off cap zs w hH hblk hsz
def Tryd.lays111_ren : Go.Shelf.Ren := ⟨fun | 111 => 9 | n => n, fun | 28 => 22 | 3 => 3 | 4 => 4 | 0 => 0 | n => n, fun | n => n⟩
theorem Tryd.lays111 : Go.Proofs.Lays.n111 Tryd.prog Tryd.lays111_ren := {
  mixed := by kernel_rfl
  f111 := Tryd.func9.trans (congrArg some (by kernel_rfl))
  t0 := Tryd.underlying0
  a0 := Tryd.isAgg0
  z0 := Tryd.sizeOf0
  v0 := Tryd.zeroValue0
  t3 := Tryd.underlying3
  a3 := Tryd.isAgg3
  z3 := Tryd.sizeOf3
  v3 := Tryd.zeroValue3
  t4 := Tryd.underlying4
  a4 := Tryd.isAgg4
  z4 := Tryd.sizeOf4
  v4 := Tryd.zeroValue4
  t28 := Tryd.underlying22
  a28 := Tryd.isAgg22
  z28 := Tryd.sizeOf22
  v28 := Tryd.zeroValue22 }
open Go.RowKit Go.Lib in
/-- slices.Equal at []int: "Equal reports whether two slices are equal: the same length and all elements equal. If the lengths are different, Equal returns false. Otherwise, the elements are compared in increasing index order, and the comparison stops at the first unequal pair. Empty and nil slices are considered equal.": IT RETURNS WHETHER THE TWO LISTS OF ELEMENTS ARE ONE; the world is as it was but for the count of draws (the test 's1[i] != s2[i]' has two reads, whose order the model draws, once a round). 'xs', 'ys': what the cells behind the two addresses hold (the spare capacity too, if you have it); 'xs.take n', 'ys.take m': the elements. THE TWO SLICES MAY OVERLAP. (LAID: no walk: one application.) -/
theorem Tryd.slices_Equal_int (b1 o1 n c b2 o2 m d : Nat) (xs ys : List Int) (w : World) (hx : n ≤ xs.length) (hy : m ≤ ys.length) (hbig : n ≤ 9223372036854775807) (hbig2 : m ≤ 9223372036854775807) (hc1 : ∀ j, j < xs.length → w.cell? ⟨b1, o1 + j, none⟩ = some (.int .i64 (xs.getD j 0))) (hc2 : ∀ j, j < ys.length → w.cell? ⟨b2, o2 + j, none⟩ = some (.int .i64 (ys.getD j 0))) :
    Calls Tryd.prog 9 #[.slice (some ⟨b1, o1, none⟩) n c, .slice (some ⟨b2, o2, none⟩) m d] w fun e w' => e = .returned (.bool (xs.take n == ys.take m)) ∧ ∃ q, w' = w.drewN q := Any.slices_Equal_int Tryd.lays111 b1 o1 n c b2 o2 m d xs ys w hx hy hbig hbig2 hc1 hc2
open Go.RowKit Go.Lib in
/-- The same where the first is of length 0 (a nil one too): no cell is asked for. (LAID: no walk: one application.) -/
theorem Tryd.slices_Equal_int_empty (a1 a2 : Option Addr) (c m d : Nat) (w : World) (hbig2 : m ≤ 9223372036854775807) :
    Calls Tryd.prog 9 #[.slice a1 0 c, .slice a2 m d] w fun e w' => e = .returned (.bool (decide (m = 0))) ∧ w' = w := Any.slices_Equal_int_empty Tryd.lays111 a1 a2 c m d w hbig2
def Tryd.laysNm215_ren : Go.Shelf.Ren := ⟨fun | 15 => 17 | n => n, fun | 22 => 22 | 3 => 3 | 4 => 4 | n => n, fun | n => n⟩
theorem Tryd.laysNm215 : Go.Proofs.Lays2.n15 Tryd.prog Tryd.laysNm215_ren := {
  mixed := by kernel_rfl
  f15 := Tryd.func17.trans (congrArg some (by kernel_rfl))
  t3 := Tryd.underlying3
  a3 := Tryd.isAgg3
  z3 := Tryd.sizeOf3
  v3 := Tryd.zeroValue3
  t4 := Tryd.underlying4
  a4 := Tryd.isAgg4
  z4 := Tryd.sizeOf4
  v4 := Tryd.zeroValue4
  t22 := Tryd.underlying22
  a22 := Tryd.isAgg22
  z22 := Tryd.sizeOf22
  v22 := Tryd.zeroValue22
  i3 := by kernel_rfl }
open Go.RowKit Go.Lib in
/-- slices.Clone at []int: "Clone returns a copy of the slice. The elements are copied using assignment, so this is a shallow clone. The result may have additional unused capacity. The result preserves the nilness of s.": OF A SLICE THAT IS NOT nil IT RETURNS A SLICE THAT IS NOT nil, OF THE SAME ELEMENTS, IN MEMORY OF THE CALL's OWN: in the how-to's words (6f): 'w'.ownsRow B e 1 v' n cells': v' begins at the head of a row among the blocks from B on (B: the heap's size at the call), not frozen, whose first cells are the elements · 'Below B w w'': below B all is as it was. The capacity is whatever the run-time gives. 'zs': what the cells behind the slice's address hold; 'zs.take n': its elements. (LAID: no walk: one application.) -/
theorem Tryd.slices_Clone_int (b off n c : Nat) (zs : List Int) (w : World) (hz : n ≤ zs.length) (hbig : n * 8 ≤ 140737488355328) (hc : ∀ j, j < zs.length → w.cell? ⟨b, off + j, none⟩ = some (.int .i64 (zs.getD j 0))) :
    Calls Tryd.prog 17 #[.slice (some ⟨b, off, none⟩) n c] w fun e w' => ∃ v', e = .returned v' ∧ w'.ownsRow w.heap.size 3 1 v' n ((zs.take n).map (Value.int .i64)) ∧ v' ≠ .slice none 0 0 ∧ Below w.heap.size w w' := Any.slices_Clone_int Tryd.laysNm215 b off n c zs w hz hbig hc
open Go.RowKit Go.Lib in
/-- The same at nil: nil comes back; the world is as it was. (LAID: no walk: one application.) -/
theorem Tryd.slices_Clone_int_nil (n c : Nat) (w : World) :
    Calls Tryd.prog 17 #[.slice none n c] w fun e w' => e = .returned (.slice none 0 0) ∧ w' = w := Any.slices_Clone_int_nil Tryd.laysNm215 n c w
open Go.RowKit Go.Lib in
/-- The same at a slice of length 0 that is not nil, WHATEVER ITS ADDRESS (no cell is asked for): a slice that is not nil and owns nothing comes back. (LAID: no walk: one application.) -/
theorem Tryd.slices_Clone_int_zero (a : Addr) (c : Nat) (w : World) :
    Calls Tryd.prog 17 #[.slice (some a) 0 c] w fun e w' => ∃ v', e = .returned v' ∧ w'.ownsRow w.heap.size 3 1 v' 0 [] ∧ v' ≠ .slice none 0 0 ∧ Below w.heap.size w w' := Any.slices_Clone_int_zero Tryd.laysNm215 a c w
def Tryd.laysNm220_ren : Go.Shelf.Ren := ⟨fun | 20 => 19 | n => n, fun | 22 => 22 | 3 => 3 | 4 => 4 | 0 => 0 | n => n, fun | n => n⟩
theorem Tryd.laysNm220 : Go.Proofs.Lays2.n20 Tryd.prog Tryd.laysNm220_ren := {
  mixed := by kernel_rfl
  f20 := Tryd.func19.trans (congrArg some (by kernel_rfl))
  t0 := Tryd.underlying0
  a0 := Tryd.isAgg0
  z0 := Tryd.sizeOf0
  v0 := Tryd.zeroValue0
  t3 := Tryd.underlying3
  a3 := Tryd.isAgg3
  z3 := Tryd.sizeOf3
  v3 := Tryd.zeroValue3
  t4 := Tryd.underlying4
  a4 := Tryd.isAgg4
  z4 := Tryd.sizeOf4
  v4 := Tryd.zeroValue4
  t22 := Tryd.underlying22
  a22 := Tryd.isAgg22
  z22 := Tryd.sizeOf22
  v22 := Tryd.zeroValue22
  i3 := by kernel_rfl }
open Go.RowKit Go.Lib Go.Sort in
/-- slices.Compact at []int: "Compact replaces consecutive runs of equal elements with a single copy. This is like the uniq command found on Unix. Compact modifies the contents of the slice s and returns the modified slice, which may have a smaller length. Compact zeroes the elements between the new length and the original length. The result preserves the nilness of s.": IT RETURNS THE SLICE CUT TO 'Lib.compact zs'; ITS CELLS HOLD 'Lib.compact zs', THEN ZERO VALUES up to the old length; all else is as it was, but for the count of draws. IN THE WORDS OF slices.Sort's CONTRACT ('Holds', 'putRow'): so the everyday 'slices.Sort(xs); xs = slices.Compact(xs)' goes from the one contract to the other. It asks 'zs.length ≤ cap' (every slice's: the reslicing 's[:k]' looks at it). Length 0, nil: '.._empty'. (LAID: no walk: one application.) -/
theorem Tryd.slices_Compact_int (blk off cap : Nat) (zs : List Int) (w : World) (hH : Holds (Value.int .i64) w blk off zs.toArray) (hsz : zs.length ≤ 9223372036854775807) (hcap : zs.length ≤ cap) :
    Calls Tryd.prog 19 #[.slice (some ⟨blk, off, none⟩) zs.length cap] w fun e w' => e = .returned (.slice (some ⟨blk, off, none⟩) (Lib.compact zs).length cap) ∧ ∃ q, w' = putRow (Value.int .i64) (Sort.ahead w q) blk off (Lib.compact zs ++ List.replicate (zs.length - (Lib.compact zs).length) 0).toArray := Any.slices_Compact_int Tryd.laysNm220 blk off cap zs w hH hsz hcap
open Go.RowKit Go.Lib Go.Sort in
/-- The same at a slice of length 0, a nil one too: it comes back as it is. (LAID: no walk: one application.) -/
theorem Tryd.slices_Compact_int_empty (a : Option Addr) (cap : Nat) (w : World) :
    Calls Tryd.prog 19 #[.slice a 0 cap] w fun e w' => e = .returned (.slice a 0 cap) ∧ w' = w := Any.slices_Compact_int_empty Tryd.laysNm220 a cap w
open Go.RowKit Go.Sort in
/-- .. and plain. (LAID: no walk: one application.) -/
theorem Tryd.slices_Sort_int_none (p : Option Addr) (cap : Nat) (w : World) :
    Calls Tryd.prog 18 #[.slice p 0 cap] w fun e w' => e = .returned (.tuple #[]) ∧ w' = w := Any.slices_Sort_int_none Tryd.lays189 p cap w
open Go.RowKit Go.Sort in
/-- .. and plain. (LAID: no walk: one application.) -/
theorem Tryd.sort_Ints_none (p : Option Addr) (cap : Nat) (w : World) :
    Calls Tryd.prog 27 #[.slice p 0 cap] w fun e w' => e = .returned (.tuple #[]) ∧ w' = w := Any.sort_Ints_none Tryd.lays191 p cap w
open Go.RowKit Go.Lib in
theorem Tryd.slices_Equal_int_lens (a1 a2 : Option Addr) (n c m d : Nat) (w : World) (hnm : n ≠ m) :
    Calls Tryd.prog 9 #[.slice a1 n c, .slice a2 m d] w fun e w' => e = .returned (.bool false) ∧ w' = w := Any.slices_Equal_int_lens Tryd.lays111 a1 a2 n c m d w hnm
end Go.Proofs
