/- For every two sizes and every list of operations that can be read as data, the law FnLruIncludes returns true: a greater cache has all that a lesser one has. No condition. -/
import Derived.Test.YtjoiekpedmhfbaaLruJ
import Derived.Test.YtjoiekpedmhfbaaVOpen
import Derived.Test.YtjoiekpedmhfbaaRows
namespace Go.Proofs.Ytjoiekpedmhfbaa
set_option linter.unusedVariables false
set_option linter.unusedSimpArgs false
set_option linter.unnecessarySimpa false
open Go.RowKit Go.V Go.ChangeShapes Go.WideShapes Go.ChangeAt

theorem own : ownKnob Try.prog.godebug = none := by kernel_rfl
theorem laidOut : laidOutB Try.prog = true := by kernel_rfl
theorem slice_of {P : Program} {w : World} {t e : TypeId} (ht : P.underlying t = some (.slice e)) {r : Reach} {b : Nat} {v : Value} (hv : Value.okWide P w r b t v) {s : Option Addr} {n c : Nat} (h : v.cells.toList = [.slice s n c]) : v = .slice s n c := by
  unfold Value.okWide at hv
  rw [ht] at hv
  unfold Cell.okWide at hv
  simp only [ht] at hv
  unfold Cell.ok at hv
  rw [ht] at hv
  cases v <;> simp_all [Value.cells]
section
variable {H : Type} {enc : TypeId × Value → H} {w : World}
theorem opens_op : Opens enc Try.prog w 29 LOp.cells (fun _ => True) :=
  (opens_struct Try.underlying29 (by kernel_rfl) (opensFs_cons (by kernel_rfl) (opens_int Try.underlying3) (opensFs_cons (by kernel_rfl) (opens_int Try.underlying3) (opensFs_cons (by kernel_rfl) (opens_int Try.underlying3) (opensFs_nil _))))).map
    (fun p => ⟨p.1, p.2.1, p.2.2.1⟩) (fun _ => rfl) (fun _ _ => trivial)
theorem opens_ops : Opens enc Try.prog w 22 (fun r : Row LOp => [r.val]) (fun r => Soft w r.at' (r.list.flatMap LOp.cells)) :=
  (opens_slice Try.underlying22 opens_op (fun _ => by kernel_rfl)).map id (fun _ => rfl) (fun _ h => h.2.2.1)
end

set_option maxRecDepth 100000 in
theorem fnLruIncludes_lifted (os : Os) (started : os.Started) (H : Type) (enc : TypeId × Value → H) :
    ReturnsInHanded {} Try.checked os 3 .any (Rows.fnLruIncludesSpec.pre6 enc Try.prog Try.f3 Rows.fnLruIncludesRow.domain false) (Rows.fnLruIncludesSpec.post enc Try.prog Try.f3 false true false false) := by
  refine returnsInHanded_of_change_sized (C := Try.checked) own started (by kernel_rfl) Try.func3
    (ChangeSpec.witness6 (enc := enc) (C := Try.checked) false ⟨#[], #[.int .i64 0, .int .i64 0, .slice none 0 0], []⟩ 8 (by kernel_rfl) (by kernel_rfl) (by kernel_rfl) (by kernel_rfl)) ?_
  intro W base args ds gs before hval0 hW hcnd hsz0 _
  have hval : ∀ (j : Nat) t v, Try.f3.params[j]? = some t → args[j]? = some v → Value.okWide Try.prog W .any base t v := hval0
  have hW' := hW
  obtain ⟨p, q, hA0, hV, rfl, hfz, hnd⟩ := hW
  have hA : DataW.TrodAll enc Try.prog W 0 (fun _ => true) true Try.f3.params.toList args.toList ds p := hA0
  rw [Try.params3] at hA hval
  obtain ⟨v0, vs0, d0, ds0, p0, q0, hargs, rfl, rfl, h0, r0⟩ := trodAll_cons hA
  obtain ⟨v1, vs1, d1, ds1, p1, q1, rfl, rfl, rfl, h1, r1⟩ := trodAll_cons r0
  obtain ⟨v2, vs2, d2, ds2, p2, q2, rfl, rfl, rfl, h2, r2⟩ := trodAll_cons r1
  obtain ⟨rfl, rfl, rfl⟩ := trodAll_nil r2
  obtain rfl : args = #[v0, v1, v2] := by cases args; simp_all
  obtain ⟨rfl, rfl⟩ := trodVars_none hV
  have k0 := h0
  have lt0 : ∀ x ∈ p0, x.block < W.heap.size := by obtain ⟨m, hm⟩ := k0; exact DataW.trod_lt m _ _ _ hm
  have k1 := h1
  have lt1 : ∀ x ∈ p1, x.block < W.heap.size := by obtain ⟨m, hm⟩ := k1; exact DataW.trod_lt m _ _ _ hm
  have k2 := h2
  have lt2 : ∀ x ∈ p2, x.block < W.heap.size := by obtain ⟨m, hm⟩ := k2; exact DataW.trod_lt m _ _ _ hm
  obtain ⟨size, rfl, rfl, rfl, w0⟩ := open_int Try.underlying3 (hval 0 3 v0 rfl rfl) h0
  obtain ⟨more, rfl, rfl, rfl, w1⟩ := open_int Try.underlying3 (hval 1 3 v1 rfl rfl) h1
  obtain ⟨⟨s, c, ops⟩, e2, hx⟩ := opens_ops.one h2
  obtain rfl := slice_of Try.underlying22 (hval 2 22 v2 rfl rfl) e2
  have H0 : St [] W W [(false, soft s (ops.flatMap LOp.cells))] := (St.init [] W).read _ (soft_holds hx) (by simp)
  clear hA0 hval0 hsz0
  refine (inc_calls size more s c ops _ W (Lib.hid rfl) H0).mono fun e W' ⟨he, hst⟩ => ?_
  subst he
  have bel := hst.ext.below
  exact ⟨_, rfl, _, _, _, [], _, [], hW', trodAll_mk1 (shut_bool Try.underlying4 _), (trodAll_cons_mk (Below.trod laidOut (by kernel_rfl) (of_decide_eq_true (by kernel_rfl)) k0 bel lt0) (trodAll_cons_mk (Below.trod laidOut (by kernel_rfl) (of_decide_eq_true (by kernel_rfl)) k1 bel lt1) (trodAll_cons_mk (Below.trod laidOut (by kernel_rfl) (of_decide_eq_true (by kernel_rfl)) k2 bel lt2) trodAll_mk0))), rfl, bel.frame _, fun h => by cases h⟩
theorem fnLruIncludes_over : Rows.fnLruIncludesRow.holds Try.pinned (OpenSpec.ofChange Rows.fnLruIncludesSpec) :=
  OpenClaim.holds_of_wide 3 Try.f3 rfl rfl rfl rfl rfl rfl rfl ⟨rfl, rfl, rfl, rfl, rfl⟩ rfl rfl rfl rfl rfl (by kernel_rfl) Try.func3 (by kernel_rfl)
    (of_decide_eq_true (by kernel_rfl)) (by unfold Func.isWrapper; first | (rw [if_pos (by decide +kernel)]; kernel_rfl) | (rw [if_neg (by decide +kernel)]; exact ⟨rfl, rfl⟩))
    (fun os started H enc _ => fnLruIncludes_lifted os started H enc)
theorem fnLruIncludes_holds : Rows.FnLruIncludesSaid := fnLruIncludes_over
#print axioms fnLruIncludes_holds

end Go.Proofs.Ytjoiekpedmhfbaa
