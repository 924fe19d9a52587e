/-
  DERIVED: THE SHELF's CONTRACTS AT THIS DUMP, IN PLAIN WORDS (tools/lay-plain.mjs out of 'TryShelf.lean', which tools/lay-shelf.mjs wrote): THE SAME DECLARATIONS UNDER THE SAME NAMES: 'import', 'namespace', 'open', 'def', 'theorem' AND NOTHING ELSE: no command of the shelf's: FOR A HAND-IN. Each laying: the table of numbers ('.._ren') and one theorem, a field a fact of the dump's own or the kernel's comparison; each contract: ONE APPLICATION.
-/
import Derived.Shelf.Small.Bits
import Derived.Shelf.Strconv.Itoa0
import Derived.Shelf.Sort.Plain
import Derived.Test.YtfnapcgbjdkpaaaProg
namespace Go.Proofs
open Go.Shelf
def Try.lays192_ren : Go.Shelf.Ren := ⟨fun | 192 => 26 | 190 => 34 | 125 => 36 | 258 => 35 | 128 => 46 | 129 => 47 | 302 => 37 | 303 => 38 | 304 => 39 | 305 => 40 | 306 => 41 | 307 => 42 | 308 => 43 | 309 => 44 | 310 => 45 | 333 => 48 | 329 => 49 | 330 => 50 | 334 => 51 | 335 => 52 | 336 => 53 | 344 => 54 | n => n, fun | 31 => 51 | 0 => 0 | 9 => 9 | 3 => 3 | 46 => 95 | 51 => 64 | 53 => 22 | 4 => 4 | 183 => 102 | 182 => 101 | 131 => 106 | 5 => 5 | 218 => 110 | 222 => 113 | 228 => 116 | 229 => 117 | n => n, fun | n => n⟩
theorem Try.lays192 : Go.Proofs.Lays.n192 Try.prog Try.lays192_ren := {
  mixed := by kernel_rfl
  f125 := Try.func36.trans (congrArg some (by kernel_rfl))
  f128 := Try.func46.trans (congrArg some (by kernel_rfl))
  f129 := Try.func47.trans (congrArg some (by kernel_rfl))
  f190 := Try.func34.trans (congrArg some (by kernel_rfl))
  f192 := Try.func26.trans (congrArg some (by kernel_rfl))
  f258 := Try.func35.trans (congrArg some (by kernel_rfl))
  f302 := Try.func37.trans (congrArg some (by kernel_rfl))
  f303 := Try.func38.trans (congrArg some (by kernel_rfl))
  f304 := Try.func39.trans (congrArg some (by kernel_rfl))
  f305 := Try.func40.trans (congrArg some (by kernel_rfl))
  f306 := Try.func41.trans (congrArg some (by kernel_rfl))
  f307 := Try.func42.trans (congrArg some (by kernel_rfl))
  f308 := Try.func43.trans (congrArg some (by kernel_rfl))
  f309 := Try.func44.trans (congrArg some (by kernel_rfl))
  f310 := Try.func45.trans (congrArg some (by kernel_rfl))
  f329 := Try.func49.trans (congrArg some (by kernel_rfl))
  f330 := Try.func50.trans (congrArg some (by kernel_rfl))
  f333 := Try.func48.trans (congrArg some (by kernel_rfl))
  f334 := Try.func51.trans (congrArg some (by kernel_rfl))
  f335 := Try.func52.trans (congrArg some (by kernel_rfl))
  f336 := Try.func53.trans (congrArg some (by kernel_rfl))
  f344 := Try.func54.trans (congrArg some (by kernel_rfl))
  t0 := Try.underlying0
  a0 := Try.isAgg0
  z0 := Try.sizeOf0
  v0 := Try.zeroValue0
  t3 := Try.underlying3
  a3 := Try.isAgg3
  z3 := Try.sizeOf3
  v3 := Try.zeroValue3
  t4 := Try.underlying4
  a4 := Try.isAgg4
  z4 := Try.sizeOf4
  v4 := Try.zeroValue4
  t5 := Try.underlying5
  a5 := Try.isAgg5
  z5 := Try.sizeOf5
  v5 := Try.zeroValue5
  t9 := Try.underlying9
  a9 := Try.isAgg9
  z9 := Try.sizeOf9
  v9 := Try.zeroValue9
  t31 := Try.underlying51
  a31 := Try.isAgg51
  z31 := Try.sizeOf51
  v31 := Try.zeroValue51
  t46 := Try.underlying95
  a46 := Try.isAgg95
  z46 := Try.sizeOf95
  v46 := Try.zeroValue95
  t51 := Try.underlying64
  a51 := Try.isAgg64
  z51 := Try.sizeOf64
  v51 := Try.zeroValue64
  t53 := Try.underlying22
  a53 := Try.isAgg22
  z53 := Try.sizeOf22
  v53 := Try.zeroValue22
  t131 := Try.underlying106
  a131 := Try.isAgg106
  z131 := Try.sizeOf106
  v131 := Try.zeroValue106
  t182 := Try.underlying101
  a182 := Try.isAgg101
  z182 := Try.sizeOf101
  v182 := Try.zeroValue101
  t183 := Try.underlying102
  a183 := Try.isAgg102
  z183 := Try.sizeOf102
  v183 := Try.zeroValue102
  t218 := Try.underlying110
  a218 := Try.isAgg110
  z218 := Try.sizeOf110
  v218 := Try.zeroValue110
  t222 := Try.underlying113
  a222 := Try.isAgg113
  z222 := Try.sizeOf113
  v222 := Try.zeroValue113
  t228 := Try.underlying116
  a228 := Try.isAgg116
  z228 := Try.sizeOf116
  v228 := Try.zeroValue116
  t229 := Try.underlying117
  a229 := Try.isAgg117
  z229 := Try.sizeOf117
  v229 := Try.zeroValue117 }
open Go.Sort Go.RowKit in
theorem Try.sort_Strings (blk off cap : Nat) (ss : List (List UInt8)) (w : World) (hH : Holds encStr w blk off ss.toArray) (hblk : blk < w.heap.size) (hsz : ss.length < 4611686018427387904) :
    Calls Try.prog 26 #[.slice (some ⟨blk, off, none⟩) ss.length cap] w fun e w' =>
      e = .returned (.tuple #[]) ∧ ∃ n os, w' = grow (putRow encStr (Sort.ahead w n) blk off (ss.mergeSort fun x y => decide (x ≤ y)).toArray) os := Any.sort_Strings Try.lays192 blk off cap ss w hH hblk hsz
end Go.Proofs
