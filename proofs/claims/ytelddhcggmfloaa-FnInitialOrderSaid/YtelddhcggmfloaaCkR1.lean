/- For every hash and every list of peers that can be read as data, the law FnInitialOrder returns true: a member that begins is told the same in whatever order its peers answer. No condition. -/
import Derived.Test.YtelddhcggmfloaaCkX
import Derived.Test.YtelddhcggmfloaaRows
namespace Go.Proofs.Ytelddhcggmfloaa
set_option linter.unusedVariables false
set_option linter.unusedSimpArgs false
set_option linter.unnecessarySimpa false
open Go.RowKit Go.V Go.ChangeShapes Go.WideShapes Go.ChangeAt

theorem initialOrder_row (o : KH) (src : Option Addr) (c : Nat) (ps : List Pr) (n : Nat) (hn : Hid (ps.length = n)) (hcp : n ≤ c) (w : World) (H : St [] w w [(false, soft src (ps.flatMap Pr.cells))]) :
    Calls Try.prog 3 #[o.val, .slice src n c] w fun e w' => e = .returned (.bool true) ∧ St [] w w' [] :=
  (initialOrder_calls o src c ps n hn hcp w H).mono fun e w' ⟨h1, h2⟩ => ⟨h1, (St.init [] w).of_ext h2⟩

set_option maxRecDepth 100000 in
theorem fnInitialOrder_lifted (os : Os) (started : os.Started) (H : Type) (enc : TypeId × Value → H) :
    ReturnsInHanded {} Try.checked os 3 .any (Rows.fnInitialOrderSpec.pre6 enc Try.prog Try.f3 Rows.fnInitialOrderRow.domain false) (Rows.fnInitialOrderSpec.post enc Try.prog Try.f3 false true false false) := by
  refine returnsInHanded_of_change_sized (C := Try.checked) own started (by kernel_rfl) Try.func3
    (ChangeSpec.witness6 (enc := enc) (C := Try.checked) false ⟨#[], #[.agg #[.int .u32 0, .int .i64 0, .int .i64 0], .slice none 0 0], []⟩ 8 (by kernel_rfl) (by kernel_rfl) (by kernel_rfl) (by kernel_rfl)) ?_
  intro W base args ds gs before hval0 hW hcnd hsz0 _
  have hval : ∀ (j : Nat) t v, Try.f3.params[j]? = some t → args[j]? = some v → Value.okWide Try.prog W .any base t v := hval0
  have hW' := hW
  obtain ⟨p, q, hA0, hV, rfl, hfz, hnd⟩ := hW
  have hA : DataW.TrodAll enc Try.prog W 0 (fun _ => true) true Try.f3.params.toList args.toList ds p := hA0
  rw [Try.params3] at hA hval
  obtain ⟨v0, vs0, d0, ds0, p0, q0, hargs, rfl, rfl, h0, r0⟩ := trodAll_cons hA
  obtain ⟨v1, vs1, d1, ds1, p1, q1, rfl, rfl, rfl, h1, r1⟩ := trodAll_cons r0
  obtain ⟨rfl, rfl, rfl⟩ := trodAll_nil r1
  obtain rfl : args = #[v0, v1] := by cases args; simp_all
  obtain ⟨rfl, rfl⟩ := trodVars_none hV
  have k0 := h0
  have lt0 : ∀ x ∈ p0, x.block < W.heap.size := by obtain ⟨m, hm⟩ := k0; exact DataW.trod_lt m _ _ _ hm
  have k1 := h1
  have lt1 : ∀ x ∈ p1, x.block < W.heap.size := by obtain ⟨m, hm⟩ := k1; exact DataW.trod_lt m _ _ _ hm
  obtain ⟨o, rfl⟩ := open_kh h0 (hval 0 24 v0 rfl rfl)
  obtain ⟨⟨s, c, ps⟩, e1, hcp, hx⟩ := opens_prs.one h1
  obtain rfl := slice_of Try.underlying25 (hval 1 25 v1 rfl rfl) e1
  have H0 : St [] W W [(false, soft s (ps.flatMap Pr.cells))] := (St.init [] W).read _ (soft_holds hx) (by simp)
  clear hA0 hval0 hsz0
  refine (initialOrder_row o s c ps _ (Lib.hid rfl) hcp W H0).mono fun e W' ⟨he, hst⟩ => ?_
  subst he
  have bel := hst.ext.below
  exact ⟨_, rfl, _, _, _, [], _, [], hW', trodAll_mk1 (shut_bool Try.underlying4 _), (trodAll_cons_mk (Below.trod laidOut (by kernel_rfl) (of_decide_eq_true (by kernel_rfl)) k0 bel lt0) (trodAll_cons_mk (Below.trod laidOut (by kernel_rfl) (of_decide_eq_true (by kernel_rfl)) k1 bel lt1) trodAll_mk0)), rfl, bel.frame _, fun h => by cases h⟩
theorem fnInitialOrder_over : Rows.fnInitialOrderRow.holds Try.pinned (OpenSpec.ofChange Rows.fnInitialOrderSpec) :=
  OpenClaim.holds_of_wide 3 Try.f3 rfl rfl rfl rfl rfl rfl rfl ⟨rfl, rfl, rfl, rfl, rfl⟩ rfl rfl rfl rfl rfl (by kernel_rfl) Try.func3 (by kernel_rfl)
    (of_decide_eq_true (by kernel_rfl)) (by unfold Func.isWrapper; first | (rw [if_pos (by decide +kernel)]; kernel_rfl) | (rw [if_neg (by decide +kernel)]; exact ⟨rfl, rfl⟩))
    (fun os started H enc _ => fnInitialOrder_lifted os started H enc)
theorem fnInitialOrder_holds : Rows.FnInitialOrderSaid := fnInitialOrder_over
#print axioms fnInitialOrder_holds

end Go.Proofs.Ytelddhcggmfloaa
