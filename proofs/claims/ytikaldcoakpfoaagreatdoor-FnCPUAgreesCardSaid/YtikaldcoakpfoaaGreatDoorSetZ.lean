import Derived.Test.YtikaldcoakpfoaaGreatDoorSetG
import Derived.Test.YtikaldcoakpfoaaGreatDoorVOpen
import Derived.Test.YtikaldcoakpfoaaGreatDoorRows
import Derived.ChangeMaps5
import Derived.LaidMore
import Derived.OpenShut
import Derived.Stop.Joined
import Derived.Stop.LaidErr
import Derived.Lib.LaidTab
namespace Go.Proofs.YtikaldcoakpfoaaGreatDoor
set_option linter.unusedVariables false
set_option linter.unusedSimpArgs false
set_option linter.unnecessarySimpa false
open Go.RowKit Go.V Go.ChangeShapes Go.WideShapes Go.ChangeAt

theorem own : ownKnob Tryz.prog.godebug = none := by kernel_rfl
theorem laidOut : laidOutB Tryz.prog = true := by kernel_rfl
theorem slice_of {P : Program} {w : World} {t e : TypeId} (ht : P.underlying t = some (.slice e)) {r : Reach} {b : Nat} {v : Value} (hv : Value.okWide P w r b t v) {s : Option Addr} {n c : Nat} (h : v.cells.toList = [.slice s n c]) : v = .slice s n c := by
  unfold Value.okWide at hv
  rw [ht] at hv
  unfold Cell.okWide at hv
  simp only [ht] at hv
  unfold Cell.ok at hv
  rw [ht] at hv
  cases v <;> simp_all [Value.cells]
theorem ints_flat (l : List Int) : (l.flatMap fun n => [Value.int .i64 n]) = intsN l := by
  induction l with
  | nil => rfl
  | cons x l ih => rw [List.flatMap_cons, ih]; rfl
theorem bs_of (s : ByteArray) : s = bs s.data.toList := by
  apply ByteArray.ext
  simp
section
variable {H : Type} {enc : TypeId × Value → H} {w : World}
theorem opens_ints : Opens enc Tryz.prog w 22 (fun r : Row Int => [r.val]) (fun r => Soft w r.at' (intsN r.list)) :=
  (opens_slice Tryz.underlying22 (opens_int Tryz.underlying3) (fun _ => by kernel_rfl)).map id (fun _ => rfl) (fun r h => by
    have h3 := h.2.2.1
    rw [ints_flat] at h3
    exact h3)
end
theorem g1 : Tryz.prog.globalNamed "strconv.ErrSyntax" = some 1 := by kernel_rfl
theorem g2 : Tryz.prog.globalNamed "strconv.ErrRange" = some 2 := by kernel_rfl
theorem g3 : Tryz.prog.globalNamed "internal/strconv.uint64pow10" = some 3 := by kernel_rfl
abbrev laid6 : List (String × DataW Unit) := [("math/bits.deBruijn32tab", Rows.laid_math_bits_deBruijn32tab), ("math/bits.deBruijn64tab", Rows.laid_math_bits_deBruijn64tab), ("internal/strconv.uint64pow10", Rows.laid_internal_strconv_uint64pow10), ("strconv.ErrRange", Rows.laid_strconv_ErrRange), ("strconv.ErrSyntax", Rows.laid_strconv_ErrSyntax), ("bytes.ErrTooLarge", Rows.laid_bytes_ErrTooLarge)]
set_option maxRecDepth 8000 in
theorem star : "*" ++ "errors.errorString" = "*errors.errorString" := by decide
theorem rowErr (u : TypeId) (h : Tryz.prog.typeName? 3 u = some "*errors.errorString") : u = 149 :=
  typeName_ptr_named (nm := "errors.errorString") (by rw [star]; kernel_rfl) (by kernel_rfl) (by decide) u (by rw [star]; exact h)
theorem gType1 : (Tryz.prog.globals[1]?).map (·.type) = some 50 := by kernel_rfl
theorem gType2 : (Tryz.prog.globals[2]?).map (·.type) = some 50 := by kernel_rfl
/-- What the condition gives: the table and the sentinels. -/
theorem env_of_laid {W : World} (h : laidMetH Tryz.prog laid6 W) : ErrEnv W ∧ TabAt W := by
  rw [MakeChecks.laidMetH_plain _ _ _ (by kernel_rfl)] at h
  have h1 := h.tail.tail
  have ht : TabAt W := Lib.tabIs_of_head (zs := Lib.pow10Tab) (k := .u64) g3 (t := 153) (e := 98) (by kernel_rfl) Tryz.underlying153 Tryz.underlying98 (by kernel_rfl) (by kernel_rfl) h1
  have h2 := h1.tail
  obtain ⟨a, t, hv, _⟩ := laid_sentinel h2 g2 gType2 Tryz.underlying50 rowErr Tryz.underlying149 Tryz.underlying151 rfl rfl Tryz.underlying9 (by kernel_rfl) (by kernel_rfl)
  have h3 := h2.tail
  obtain ⟨a', t', hv', _⟩ := laid_sentinel h3 g1 gType1 Tryz.underlying50 rowErr Tryz.underlying149 Tryz.underlying151 rfl rfl Tryz.underlying9 (by kernel_rfl) (by kernel_rfl)
  exact ⟨⟨⟨_, _, hv'⟩, _, _, hv⟩, ht⟩
theorem door_met (os : Os) (args : Array Value) : laidMetH Tryz.prog laid6 ((World.doorLaid Tryz.prog 4000 os).forCall (fun _ _ => 0) ⟨#[], args, []⟩).memory :=
  laidMetH_of_parts3 (fuel := 8) (laidMet_of_run' 8 (by kernel_rfl) (by kernel_rfl)) (by kernel_rfl) (by kernel_rfl)
end Go.Proofs.YtikaldcoakpfoaaGreatDoor
