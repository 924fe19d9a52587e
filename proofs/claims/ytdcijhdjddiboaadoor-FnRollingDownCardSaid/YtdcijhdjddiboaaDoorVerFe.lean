import Derived.Test.YtdcijhdjddiboaaDoorVerFb
import Derived.Test.YtdcijhdjddiboaaDoorVOpen
import Derived.Test.YtdcijhdjddiboaaDoorRows
import Derived.LaidMore
import Derived.OpenShut
import Derived.Stop.Joined
import Derived.Stop.LaidErr
import Derived.Lib.LaidTab
namespace Go.Proofs.YtdcijhdjddiboaaDoor
set_option linter.unusedVariables false
set_option linter.unusedSimpArgs false
set_option linter.unnecessarySimpa false
open Go.RowKit Go.V Go.ChangeShapes Go.WideShapes Go.ChangeAt

theorem own : ownKnob Tryd.prog.godebug = none := by kernel_rfl
theorem laidOut : laidOutB Tryd.prog = true := by kernel_rfl
theorem strs_flat (l : List ByteArray) : (l.flatMap fun s => [Value.string s]) = strs l := by
  induction l with
  | nil => rfl
  | cons x l ih => rw [List.flatMap_cons, ih]; rfl
section
variable {H : Type} {enc : TypeId × Value → H} {w : World}
theorem opens_vers : Opens enc Tryd.prog w 24 (fun x : (ByteArray × ByteArray × ByteArray) × (Bool × Bool) × Row ByteArray => [.string x.1.1, .string x.1.2.1, .string x.1.2.2, .bool x.2.1.1, .bool x.2.1.2, x.2.2.val])
    (fun x => x.2.2.list.length ≤ maxLen ∧ Soft w x.2.2.at' (strs x.2.2.list) ∧ ∀ t ∈ x.2.2.list, t.size ≤ maxLen) :=
  (opens_struct Tryd.underlying24 (by kernel_rfl) (opensFs_cons (by kernel_rfl) (opens_string Tryd.underlying9) (opensFs_cons (by kernel_rfl) (opens_string Tryd.underlying9) (opensFs_cons (by kernel_rfl) (opens_string Tryd.underlying9)
    (opensFs_cons (by kernel_rfl) (opens_bool Tryd.underlying4) (opensFs_cons (by kernel_rfl) (opens_bool Tryd.underlying4) (opensFs_cons (by kernel_rfl) (opens_slice Tryd.underlying22 (opens_string Tryd.underlying9) (fun _ => by kernel_rfl)) (opensFs_nil _)))))))).map
    (fun p => ((p.1, p.2.1, p.2.2.1), (p.2.2.2.1, p.2.2.2.2.1), p.2.2.2.2.2.1)) (fun _ => rfl)
    (fun p h => by
      have h6 := h.2.2.2.2.2.1
      rw [strs_flat] at h6
      exact ⟨Nat.le_trans h6.1 h6.2.1, h6.2.2.1, h6.2.2.2⟩)
end
set_option maxRecDepth 8000 in
/-- AN ARGUMENT THAT IS WHAT A MONITOR SEES. -/
theorem open_vers {H : Type} {enc : TypeId × Value → H} {W : World} {v : Value} {d : DataW H} {p : List MemPlace} {b : Nat} {r : Reach} (h : DataW.Trod enc Tryd.prog W 0 (fun _ => true) true 24 v d p) (hv : Value.okWide Tryd.prog W r b 24 v) :
    ∃ (cl st tg : ByteArray) (dn hd : Bool) (s : Option Addr) (cap : Nat) (ts : List ByteArray), v = .agg #[.string cl, .string st, .string tg, .bool dn, .bool hd, .slice s ts.length cap] ∧ ts.length ≤ maxLen ∧ (∀ t ∈ ts, t.size ≤ maxLen) ∧ holds W (.arr s (strs ts)) := by
  obtain ⟨⟨⟨cl, st, tg⟩, ⟨dn, hd⟩, ⟨s, cap, ts⟩⟩, h1, h2, h3, h4⟩ := opens_vers.one h
  refine ⟨cl, st, tg, dn, hd, s, cap, ts, agg_of Tryd.underlying24 hv h1, h2, h4, Soft.arr h3 ?_⟩
  rintro ad rfl
  exact has_of Tryd.underlying24 hv (ts := [9, 9, 9, 4, 4, 22]) (by kernel_rfl) (i := 5) rfl Tryd.underlying22 (by rw [h1]; rfl)
abbrev laid5 : List (String × DataW Unit) := [("math/bits.deBruijn32tab", Rows.laid_math_bits_deBruijn32tab), ("math/bits.deBruijn64tab", Rows.laid_math_bits_deBruijn64tab), ("internal/strconv.uint64pow10", Rows.laid_internal_strconv_uint64pow10), ("strconv.ErrRange", Rows.laid_strconv_ErrRange), ("strconv.ErrSyntax", Rows.laid_strconv_ErrSyntax)]
set_option maxRecDepth 8000 in
theorem star : "*" ++ "errors.errorString" = "*errors.errorString" := by decide
theorem rowErr (u : TypeId) (h : Tryd.prog.typeName? 3 u = some "*errors.errorString") : u = 131 :=
  typeName_ptr_named (nm := "errors.errorString") (by rw [star]; kernel_rfl) (by kernel_rfl) (by decide) u (by rw [star]; exact h)
theorem gType1 : (Tryd.prog.globals[1]?).map (·.type) = some 49 := by kernel_rfl
/-- What the condition gives: the table and the sentinel. -/
theorem genv_of_laid {W : World} (h : laidMetH Tryd.prog laid5 W) : GEnv W := by
  rw [MakeChecks.laidMetH_plain _ _ _ (by kernel_rfl)] at h
  have h1 := h.tail.tail
  have ht : TabAt W := Lib.tabIs_of_head (zs := Lib.pow10Tab) (k := .u64) g0 (t := 119) (e := 105) (by kernel_rfl) Tryd.underlying119 Tryd.underlying105 (by kernel_rfl) (by kernel_rfl) h1
  have h2 := h1.tail.tail
  obtain ⟨a, t, hv, _⟩ := laid_sentinel h2 g1 gType1 Tryd.underlying49 rowErr Tryd.underlying131 Tryd.underlying133 rfl rfl Tryd.underlying9 (by kernel_rfl) (by kernel_rfl)
  exact ⟨ht, _, _, hv⟩
theorem var_lt {P : Program} {w : World} {name : String} {g : Nat} {cs : Array Value} (hg : P.globalNamed name = some g) (h : w.var? P name = some cs) : g < w.heap.size := by
  unfold World.var? at h
  simp only [hg, Option.bind_some] at h
  rcases Nat.lt_or_ge g w.heap.size with h' | h'
  · exact h'
  · rw [Array.getElem?_eq_none h'] at h
    simp at h
theorem st_genv {W : World} {s : Option Addr} {xs : List Value} (h : holds W (.arr s xs)) (hg : GEnv W) : St [] W W [(false, .arr s xs), genv] := by
  refine ((St.init [] W).read (.rep [0, 1] GEnv) ⟨genv_local, fun b hb => ?_, hg⟩ (by simp)).read (.arr s xs) h (by simp)
  obtain ⟨h1, tp, p, h2⟩ := hg
  rcases (by simpa using hb : b = 0 ∨ b = 1) with rfl | rfl
  · exact var_lt g0 h1
  · exact var_lt g1 h2
theorem door_met (os : Os) (args : Array Value) : laidMetH Tryd.prog laid5 ((World.doorLaid Tryd.prog 4000 os).forCall (fun _ _ => 0) ⟨#[], args, []⟩).memory :=
  laidMetH_of_parts3 (fuel := 8) (laidMet_of_run' 8 (by kernel_rfl) (by kernel_rfl)) (by kernel_rfl) (by kernel_rfl)
end Go.Proofs.YtdcijhdjddiboaaDoor
