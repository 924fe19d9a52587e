/-
  DERIVED: THE SHELF's CONTRACTS AT THIS DUMP, IN PLAIN WORDS (tools/lay-plain.mjs out of 'TrydShelf.lean', which tools/lay-shelf.mjs wrote): THE SAME DECLARATIONS UNDER THE SAME NAMES: 'import', 'namespace', 'open', 'def', 'theorem' AND NOTHING ELSE: no command of the shelf's: FOR A HAND-IN. Each laying: the table of numbers ('.._ren') and one theorem, a field a fact of the dump's own or the kernel's comparison; each contract: ONE APPLICATION.
-/
import Derived.Shelf.Strconv.Itoa0
import Derived.Shelf.Strconv.Itoa1
import Derived.Shelf.LaysM
import Derived.Shelf.Strconv.Itoa2
import Derived.Shelf.Strconv.Itoa3
import Derived.Shelf.Strconv.Itoa4
import Derived.Shelf.Strconv.ParseIntEmpty
import Derived.Shelf.Strconv.Clone
import Derived.Shelf.Strconv.SyntaxError
import Derived.Shelf.LaysC
import Derived.Shelf.Strconv.ToError
import Derived.Shelf.Strconv.Lower
import Derived.Shelf.Strconv.ParseUint10
import Derived.Shelf.Strconv.ParseUint10Empty
import Derived.Shelf.Strconv.ParseUint10Any
import Derived.Shelf.Strconv.ParseInt10
import Derived.Shelf.Strconv.RangeError
import Derived.Shelf.Strconv.ToErrorRange
import Derived.Shelf.Strconv.ParseUintEmpty
import Derived.Shelf.Strconv.ParseUint10b64
import Derived.Shelf.Strconv.ParseUint10b32
import Derived.Shelf.Strconv.ParseUint10b16
import Derived.Shelf.Strconv.ParseUint10b8
import Derived.Shelf.Strconv.ParseUint10At
import Derived.Shelf.Strconv.ParseInt10At64
import Derived.Shelf.Strconv.ParseInt10At32
import Derived.Shelf.Strconv.ParseInt10At16
import Derived.Shelf.Strconv.ParseInt10At8
import Derived.Shelf.Strconv.ParseInt10All
import Derived.Shelf.Strconv.ParseIntPublic10
import Derived.Shelf.Strconv.ErrVarParseInt
import Derived.Test.YtdcijhdjddiboaaDoorProg
namespace Go.Proofs
open Go.Shelf
def Tryd.laysM173_ren : Go.Shelf.Ren := ⟨fun | 173 => 60 | 246 => 62 | 283 => 65 | 284 => 66 | 285 => 67 | 286 => 68 | 129 => 75 | 317 => 74 | 318 => 76 | 319 => 77 | 320 => 78 | 337 => 84 | 338 => 85 | n => n, fun | 2 => 2 | 3 => 3 | 9 => 9 | 4 => 4 | 171 => 104 | 0 => 0 | 53 => 105 | 37 => 76 | 5 => 5 | 173 => 108 | 212 => 119 | 51 => 120 | 20 => 20 | 213 => 121 | 46 => 113 | 232 => 134 | 233 => 135 | n => n, fun | 17 => 0 | 18 => 3 | 19 => 4 | n => n⟩
theorem Tryd.laysM173 : Go.Proofs.LaysM.n173 Tryd.prog Tryd.laysM173_ren := {
  mixed := by kernel_rfl
  f129 := Tryd.func75.trans (congrArg some (by kernel_rfl))
  f173 := Tryd.func60.trans (congrArg some (by kernel_rfl))
  f246 := Tryd.func62.trans (congrArg some (by kernel_rfl))
  f283 := Tryd.func65.trans (congrArg some (by kernel_rfl))
  f284 := Tryd.func66.trans (congrArg some (by kernel_rfl))
  f285 := Tryd.func67.trans (congrArg some (by kernel_rfl))
  f286 := Tryd.func68.trans (congrArg some (by kernel_rfl))
  f317 := Tryd.func74.trans (congrArg some (by kernel_rfl))
  f318 := Tryd.func76.trans (congrArg some (by kernel_rfl))
  f319 := Tryd.func77.trans (congrArg some (by kernel_rfl))
  f320 := Tryd.func78.trans (congrArg some (by kernel_rfl))
  f337 := Tryd.func84.trans (congrArg some (by kernel_rfl))
  f338 := Tryd.func85.trans (congrArg some (by kernel_rfl))
  t0 := Tryd.underlying0
  a0 := Tryd.isAgg0
  z0 := Tryd.sizeOf0
  v0 := Tryd.zeroValue0
  t2 := Tryd.underlying2
  a2 := Tryd.isAgg2
  z2 := Tryd.sizeOf2
  v2 := Tryd.zeroValue2
  t3 := Tryd.underlying3
  a3 := Tryd.isAgg3
  z3 := Tryd.sizeOf3
  v3 := Tryd.zeroValue3
  t4 := Tryd.underlying4
  a4 := Tryd.isAgg4
  z4 := Tryd.sizeOf4
  v4 := Tryd.zeroValue4
  t5 := Tryd.underlying5
  a5 := Tryd.isAgg5
  z5 := Tryd.sizeOf5
  v5 := Tryd.zeroValue5
  t9 := Tryd.underlying9
  a9 := Tryd.isAgg9
  z9 := Tryd.sizeOf9
  v9 := Tryd.zeroValue9
  t20 := Tryd.underlying20
  a20 := Tryd.isAgg20
  z20 := Tryd.sizeOf20
  v20 := Tryd.zeroValue20
  t37 := Tryd.underlying76
  a37 := Tryd.isAgg76
  z37 := Tryd.sizeOf76
  v37 := Tryd.zeroValue76
  t46 := Tryd.underlying113
  a46 := Tryd.isAgg113
  z46 := Tryd.sizeOf113
  v46 := Tryd.zeroValue113
  t51 := Tryd.underlying120
  a51 := Tryd.isAgg120
  z51 := Tryd.sizeOf120
  v51 := Tryd.zeroValue120
  t53 := Tryd.underlying105
  a53 := Tryd.isAgg105
  z53 := Tryd.sizeOf105
  v53 := Tryd.zeroValue105
  t171 := Tryd.underlying104
  a171 := Tryd.isAgg104
  z171 := Tryd.sizeOf104
  v171 := Tryd.zeroValue104
  t173 := Tryd.underlying108
  a173 := Tryd.isAgg108
  z173 := Tryd.sizeOf108
  v173 := Tryd.zeroValue108
  t212 := Tryd.underlying119
  a212 := Tryd.isAgg119
  z212 := Tryd.sizeOf119
  v212 := Tryd.zeroValue119
  t213 := Tryd.underlying121
  a213 := Tryd.isAgg121
  z213 := Tryd.sizeOf121
  t232 := Tryd.underlying134
  a232 := Tryd.isAgg134
  z232 := Tryd.sizeOf134
  v232 := Tryd.zeroValue134
  t233 := Tryd.underlying135
  a233 := Tryd.isAgg135
  z233 := Tryd.sizeOf135
  v233 := Tryd.zeroValue135
  g17 := by kernel_rfl
  g18 := by kernel_rfl
  g19 := by kernel_rfl
  i0 := by kernel_rfl
  i2 := by kernel_rfl
  i3 := by kernel_rfl
  i4 := by kernel_rfl
  i5 := by kernel_rfl
  i9 := by kernel_rfl
  i20 := by kernel_rfl
  i37 := by kernel_rfl
  i46 := by kernel_rfl
  i51 := by kernel_rfl
  i53 := by kernel_rfl
  i171 := by kernel_rfl
  i173 := by kernel_rfl
  i212 := by kernel_rfl
  i232 := by kernel_rfl
  i233 := by kernel_rfl
  m17 := by kernel_rfl
  m18 := by kernel_rfl
  m19 := by kernel_rfl }
open Go.RowKit Go.Sort Go.Lib in
/-- strconv.FormatInt: "FormatInt returns the string representation of i in the given base": AT BASE 10: i's decimal numeral, for every int64. (LAID: no walk: one application.) -/
theorem Tryd.strconv_FormatInt_10 (n : Int) (h0 : -9223372036854775808 ≤ n) (h1 : n ≤ 9223372036854775807) (w : World) (htab : Lib.TabIs Tryd.prog w "internal/strconv.uint64pow10" .u64 Lib.pow10Tab) :
    Calls Tryd.prog 60 #[.int .i64 n, .int .i64 10] w fun e w' => e = .returned (.string ⟨(Lib.itoa n).toArray⟩) ∧ ∃ k os, w' = grow (w.drewN k) os := Any.strconv_FormatInt_10 Tryd.laysM173 n h0 h1 w htab
def Tryd.laysC174_ren : Go.Shelf.Ren := ⟨fun | 174 => 61 | 247 => 63 | 245 => 64 | 287 => 69 | 279 => 70 | 280 => 71 | 281 => 72 | 282 => 73 | 321 => 79 | 322 => 80 | 316 => 81 | 171 => 83 | 205 => 82 | 243 => 86 | 246 => 62 | 283 => 65 | 284 => 66 | 285 => 67 | 286 => 68 | 129 => 75 | 317 => 74 | 318 => 76 | 319 => 77 | 320 => 78 | 337 => 84 | 338 => 85 | n => n, fun | 9 => 9 | 3 => 3 | 2 => 2 | 75 => 49 | 85 => 95 | 4 => 4 | 167 => 110 | 5 => 5 | 53 => 105 | 175 => 111 | 46 => 113 | 168 => 114 | 37 => 76 | 0 => 0 | 210 => 127 | 21 => 21 | 127 => 130 | 145 => 133 | 143 => 131 | 171 => 104 | 173 => 108 | 212 => 119 | 51 => 120 | 20 => 20 | 213 => 121 | 232 => 134 | 233 => 135 | 80 => 74 | n => n, fun | 15 => 1 | 16 => 2 | 17 => 0 | 18 => 3 | 19 => 4 | n => n⟩
theorem Tryd.laysC174 : Go.Proofs.LaysC.n174 Tryd.prog Tryd.laysC174_ren := {
  mixed := by kernel_rfl
  f129 := Tryd.func75.trans (congrArg some (by kernel_rfl))
  f171 := Tryd.func83.trans (congrArg some (by kernel_rfl))
  f174 := Tryd.func61.trans (congrArg some (by kernel_rfl))
  f205 := Tryd.func82.trans (congrArg some (by kernel_rfl))
  f243 := Tryd.func86.trans (congrArg some (by kernel_rfl))
  f245 := Tryd.func64.trans (congrArg some (by kernel_rfl))
  f246 := Tryd.func62.trans (congrArg some (by kernel_rfl))
  f247 := Tryd.func63.trans (congrArg some (by kernel_rfl))
  f279 := Tryd.func70.trans (congrArg some (by kernel_rfl))
  f280 := Tryd.func71.trans (congrArg some (by kernel_rfl))
  f281 := Tryd.func72.trans (congrArg some (by kernel_rfl))
  f282 := Tryd.func73.trans (congrArg some (by kernel_rfl))
  f283 := Tryd.func65.trans (congrArg some (by kernel_rfl))
  f284 := Tryd.func66.trans (congrArg some (by kernel_rfl))
  f285 := Tryd.func67.trans (congrArg some (by kernel_rfl))
  f286 := Tryd.func68.trans (congrArg some (by kernel_rfl))
  f287 := Tryd.func69.trans (congrArg some (by kernel_rfl))
  f316 := Tryd.func81.trans (congrArg some (by kernel_rfl))
  f317 := Tryd.func74.trans (congrArg some (by kernel_rfl))
  f318 := Tryd.func76.trans (congrArg some (by kernel_rfl))
  f319 := Tryd.func77.trans (congrArg some (by kernel_rfl))
  f320 := Tryd.func78.trans (congrArg some (by kernel_rfl))
  f321 := Tryd.func79.trans (congrArg some (by kernel_rfl))
  f322 := Tryd.func80.trans (congrArg some (by kernel_rfl))
  f337 := Tryd.func84.trans (congrArg some (by kernel_rfl))
  f338 := Tryd.func85.trans (congrArg some (by kernel_rfl))
  t0 := Tryd.underlying0
  a0 := Tryd.isAgg0
  z0 := Tryd.sizeOf0
  v0 := Tryd.zeroValue0
  t2 := Tryd.underlying2
  a2 := Tryd.isAgg2
  z2 := Tryd.sizeOf2
  v2 := Tryd.zeroValue2
  t3 := Tryd.underlying3
  a3 := Tryd.isAgg3
  z3 := Tryd.sizeOf3
  v3 := Tryd.zeroValue3
  t4 := Tryd.underlying4
  a4 := Tryd.isAgg4
  z4 := Tryd.sizeOf4
  v4 := Tryd.zeroValue4
  t5 := Tryd.underlying5
  a5 := Tryd.isAgg5
  z5 := Tryd.sizeOf5
  v5 := Tryd.zeroValue5
  t9 := Tryd.underlying9
  a9 := Tryd.isAgg9
  z9 := Tryd.sizeOf9
  v9 := Tryd.zeroValue9
  t20 := Tryd.underlying20
  a20 := Tryd.isAgg20
  z20 := Tryd.sizeOf20
  v20 := Tryd.zeroValue20
  t21 := Tryd.underlying21
  a21 := Tryd.isAgg21
  z21 := Tryd.sizeOf21
  v21 := Tryd.zeroValue21
  t37 := Tryd.underlying76
  a37 := Tryd.isAgg76
  z37 := Tryd.sizeOf76
  v37 := Tryd.zeroValue76
  t46 := Tryd.underlying113
  a46 := Tryd.isAgg113
  z46 := Tryd.sizeOf113
  v46 := Tryd.zeroValue113
  t51 := Tryd.underlying120
  a51 := Tryd.isAgg120
  z51 := Tryd.sizeOf120
  v51 := Tryd.zeroValue120
  t53 := Tryd.underlying105
  a53 := Tryd.isAgg105
  z53 := Tryd.sizeOf105
  v53 := Tryd.zeroValue105
  t75 := Tryd.underlying49
  a75 := Tryd.isAgg49
  z75 := Tryd.sizeOf49
  v75 := Tryd.zeroValue49
  t85 := Tryd.underlying95
  a85 := Tryd.isAgg95
  z85 := Tryd.sizeOf95
  v85 := Tryd.zeroValue95
  t127 := Tryd.underlying130
  a127 := Tryd.isAgg130
  z127 := Tryd.sizeOf130
  v127 := Tryd.zeroValue130
  t143 := Tryd.underlying131
  a143 := Tryd.isAgg131
  z143 := Tryd.sizeOf131
  v143 := Tryd.zeroValue131
  t145 := Tryd.underlying133
  a145 := Tryd.isAgg133
  z145 := Tryd.sizeOf133
  v145 := Tryd.zeroValue133
  t167 := Tryd.underlying110
  a167 := Tryd.isAgg110
  z167 := Tryd.sizeOf110
  v167 := Tryd.zeroValue110
  t168 := Tryd.underlying114
  a168 := Tryd.isAgg114
  z168 := Tryd.sizeOf114
  v168 := Tryd.zeroValue114
  t171 := Tryd.underlying104
  a171 := Tryd.isAgg104
  z171 := Tryd.sizeOf104
  v171 := Tryd.zeroValue104
  t173 := Tryd.underlying108
  a173 := Tryd.isAgg108
  z173 := Tryd.sizeOf108
  v173 := Tryd.zeroValue108
  t175 := Tryd.underlying111
  a175 := Tryd.isAgg111
  z175 := Tryd.sizeOf111
  v175 := Tryd.zeroValue111
  t210 := Tryd.underlying127
  a210 := Tryd.isAgg127
  z210 := Tryd.sizeOf127
  v210 := Tryd.zeroValue127
  t212 := Tryd.underlying119
  a212 := Tryd.isAgg119
  z212 := Tryd.sizeOf119
  v212 := Tryd.zeroValue119
  t213 := Tryd.underlying121
  a213 := Tryd.isAgg121
  z213 := Tryd.sizeOf121
  t232 := Tryd.underlying134
  a232 := Tryd.isAgg134
  z232 := Tryd.sizeOf134
  v232 := Tryd.zeroValue134
  t233 := Tryd.underlying135
  a233 := Tryd.isAgg135
  z233 := Tryd.sizeOf135
  v233 := Tryd.zeroValue135
  g15 := by kernel_rfl
  g16 := by kernel_rfl
  g17 := by kernel_rfl
  g18 := by kernel_rfl
  g19 := by kernel_rfl
  t80 := Tryd.underlying74
  a80 := Tryd.isAgg74
  z80 := Tryd.sizeOf74
  v80 := Tryd.zeroValue74
  i0 := by kernel_rfl
  i2 := by kernel_rfl
  i3 := by kernel_rfl
  i4 := by kernel_rfl
  i5 := by kernel_rfl
  i9 := by kernel_rfl
  i20 := by kernel_rfl
  i21 := by kernel_rfl
  i37 := by kernel_rfl
  i46 := by kernel_rfl
  i51 := by kernel_rfl
  i53 := by kernel_rfl
  i75 := by kernel_rfl
  i80 := by kernel_rfl
  i85 := by kernel_rfl
  i127 := by kernel_rfl
  i143 := by kernel_rfl
  i145 := by kernel_rfl
  i167 := by kernel_rfl
  i168 := by kernel_rfl
  i171 := by kernel_rfl
  i173 := by kernel_rfl
  i175 := by kernel_rfl
  i210 := by kernel_rfl
  i212 := by kernel_rfl
  i232 := by kernel_rfl
  i233 := by kernel_rfl
  m15 := by kernel_rfl
  m16 := by kernel_rfl
  m17 := by kernel_rfl
  m18 := by kernel_rfl
  m19 := by kernel_rfl
  c0 := by kernel_rfl
  c2 := by kernel_rfl
  c3 := by kernel_rfl
  c4 := by kernel_rfl
  c5 := by kernel_rfl
  c9 := by kernel_rfl
  c20 := by kernel_rfl
  c21 := by kernel_rfl
  c37 := by kernel_rfl
  c46 := by kernel_rfl
  c51 := by kernel_rfl
  c53 := by kernel_rfl
  c75 := by kernel_rfl
  c80 := by kernel_rfl
  c85 := by kernel_rfl
  c127 := by kernel_rfl
  c143 := by kernel_rfl
  c145 := by kernel_rfl
  c167 := by kernel_rfl
  c168 := by kernel_rfl
  c171 := by kernel_rfl
  c173 := by kernel_rfl
  c175 := by kernel_rfl
  c210 := by kernel_rfl
  c212 := by kernel_rfl
  c213 := by kernel_rfl
  c232 := by kernel_rfl
  c233 := by kernel_rfl }
open Go.RowKit in
/-- strconv.ParseInt(s, 10, 64), AT EVERY STRING THAT SPELLS AN int64 ('Lib.parseIntB 64 s.data.toList = .ok v'): v, AND NO ERROR. (LAID: no walk: one application.) -/
theorem Tryd.strconv_ParseInt_10_at64_ok (s : ByteArray) (hmax : s.size ≤ 9223372036854775806) (v : Int) (h : Lib.parseIntB 64 s.data.toList = .ok v) (w : World) :
    Calls Tryd.prog 61 #[.string s, .int .i64 10, .int .i64 64] w fun e w' => e = .returned (.tuple #[.int .i64 v, .nilIface]) ∧ (w' = w ∨ ∃ t, w' = Lib.bytesWorld w 5 t) := Any.strconv_ParseInt_10_at64_ok Tryd.laysC174 s hmax v h w
open Go.RowKit in
theorem Tryd.strconv_ParseInt_10_at64_syntax_var (s : ByteArray) (hlim : s.size ≤ 281474976710656) (h : Lib.parseIntB 64 s.data.toList = Lib.NumEnd.syntax) (tp : TypeId) (p : Value) (w : World) (hvar : w.var? Tryd.prog "strconv.ErrSyntax" = some #[.iface tp p]) :
    Calls Tryd.prog 61 #[.string s, .int .i64 10, .int .i64 64] w fun e w' => ∃ N, e = .returned (.tuple #[.int .i64 (0), .iface 114 (.pointer (some ⟨N, 0, none⟩))]) ∧ w.heap.size ≤ N ∧ w'.heap[N]? = some (.cells #[.string ⟨#[80, 97, 114, 115, 101, 73, 110, 116]⟩, .string s, .iface tp p] 127 (0, 0)) ∧ Below w.heap.size w w' := Any.strconv_ParseInt_10_at64_syntax_var Tryd.laysC174 s hlim h tp p w hvar
end Go.Proofs
