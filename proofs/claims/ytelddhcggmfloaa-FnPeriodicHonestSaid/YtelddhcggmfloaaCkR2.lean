/- For every hash, revision, member and list of peers that can be read as data, the law FnPeriodicHonest returns true: honest peers raise no alarm, and whatever they answer at most one is raised. No condition. -/
import Derived.Test.YtelddhcggmfloaaCkX
import Derived.Test.YtelddhcggmfloaaCkY
import Derived.Test.YtelddhcggmfloaaRows
namespace Go.Proofs.Ytelddhcggmfloaa
set_option linter.unusedVariables false
set_option linter.unusedSimpArgs false
set_option linter.unnecessarySimpa false
open Go.RowKit Go.V Go.ChangeShapes Go.WideShapes Go.ChangeAt

theorem honest_row (o : KH) (rev own : Int) (src : Option Addr) (c : Nat) (ps : List Pr) (n : Nat) (hn : Hid (ps.length = n)) (hcp : n ≤ c) (w : World) (H : St [] w w [(false, soft src (ps.flatMap Pr.cells))]) :
    Calls Try.prog 4 #[o.val, .int .i64 rev, .int .u64 own, .slice src n c] w fun e w' => e = .returned (.bool true) ∧ St [] w w' [] :=
  (honest_calls o rev own src c ps n hn hcp w H).mono fun e w' ⟨h1, h2⟩ => ⟨h1, (St.init [] w).of_ext h2⟩

set_option maxRecDepth 100000 in
theorem fnPeriodicHonest_lifted (os : Os) (started : os.Started) (H : Type) (enc : TypeId × Value → H) :
    ReturnsInHanded {} Try.checked os 4 .any (Rows.fnPeriodicHonestSpec.pre6 enc Try.prog Try.f4 Rows.fnPeriodicHonestRow.domain false) (Rows.fnPeriodicHonestSpec.post enc Try.prog Try.f4 false true false false) := by
  refine returnsInHanded_of_change_sized (C := Try.checked) own started (by kernel_rfl) Try.func4
    (ChangeSpec.witness6 (enc := enc) (C := Try.checked) false ⟨#[], #[.agg #[.int .u32 0, .int .i64 0, .int .i64 0], .int .i64 0, .int .u64 0, .slice none 0 0], []⟩ 8 (by kernel_rfl) (by kernel_rfl) (by kernel_rfl) (by kernel_rfl)) ?_
  intro W base args ds gs before hval0 hW hcnd hsz0 _
  have hval : ∀ (j : Nat) t v, Try.f4.params[j]? = some t → args[j]? = some v → Value.okWide Try.prog W .any base t v := hval0
  have hW' := hW
  obtain ⟨p, q, hA0, hV, rfl, hfz, hnd⟩ := hW
  have hA : DataW.TrodAll enc Try.prog W 0 (fun _ => true) true Try.f4.params.toList args.toList ds p := hA0
  rw [Try.params4] at hA hval
  obtain ⟨v0, vs0, d0, ds0, p0, q0, hargs, rfl, rfl, h0, r0⟩ := trodAll_cons hA
  obtain ⟨v1, vs1, d1, ds1, p1, q1, rfl, rfl, rfl, h1, r1⟩ := trodAll_cons r0
  obtain ⟨v2, vs2, d2, ds2, p2, q2, rfl, rfl, rfl, h2, r2⟩ := trodAll_cons r1
  obtain ⟨v3, vs3, d3, ds3, p3, q3, rfl, rfl, rfl, h3, r3⟩ := trodAll_cons r2
  obtain ⟨rfl, rfl, rfl⟩ := trodAll_nil r3
  obtain rfl : args = #[v0, v1, v2, v3] := by cases args; simp_all
  obtain ⟨rfl, rfl⟩ := trodVars_none hV
  have k0 := h0
  have lt0 : ∀ x ∈ p0, x.block < W.heap.size := by obtain ⟨m, hm⟩ := k0; exact DataW.trod_lt m _ _ _ hm
  have k1 := h1
  have lt1 : ∀ x ∈ p1, x.block < W.heap.size := by obtain ⟨m, hm⟩ := k1; exact DataW.trod_lt m _ _ _ hm
  have k2 := h2
  have lt2 : ∀ x ∈ p2, x.block < W.heap.size := by obtain ⟨m, hm⟩ := k2; exact DataW.trod_lt m _ _ _ hm
  have k3 := h3
  have lt3 : ∀ x ∈ p3, x.block < W.heap.size := by obtain ⟨m, hm⟩ := k3; exact DataW.trod_lt m _ _ _ hm
  obtain ⟨o, rfl⟩ := open_kh h0 (hval 0 24 v0 rfl rfl)
  obtain ⟨rev, rfl, rfl, rfl, w1⟩ := open_int Try.underlying2 (hval 1 2 v1 rfl rfl) h1
  obtain ⟨ow, rfl, rfl, rfl, w2⟩ := open_int Try.underlying27 (hval 2 27 v2 rfl rfl) h2
  obtain ⟨⟨s, c, ps⟩, e1, hcp, hx⟩ := opens_prs.one h3
  obtain rfl := slice_of Try.underlying25 (hval 3 25 v3 rfl rfl) e1
  have H0 : St [] W W [(false, soft s (ps.flatMap Pr.cells))] := (St.init [] W).read _ (soft_holds hx) (by simp)
  clear hA0 hval0 hsz0
  refine (honest_row o rev ow s c ps _ (Lib.hid rfl) hcp W H0).mono fun e W' ⟨he, hst⟩ => ?_
  subst he
  have bel := hst.ext.below
  exact ⟨_, rfl, _, _, _, [], _, [], hW', trodAll_mk1 (shut_bool Try.underlying4 _), (trodAll_cons_mk (Below.trod laidOut (by kernel_rfl) (of_decide_eq_true (by kernel_rfl)) k0 bel lt0) (trodAll_cons_mk (Below.trod laidOut (by kernel_rfl) (of_decide_eq_true (by kernel_rfl)) k1 bel lt1) (trodAll_cons_mk (Below.trod laidOut (by kernel_rfl) (of_decide_eq_true (by kernel_rfl)) k2 bel lt2) (trodAll_cons_mk (Below.trod laidOut (by kernel_rfl) (of_decide_eq_true (by kernel_rfl)) k3 bel lt3) trodAll_mk0)))), rfl, bel.frame _, fun h => by cases h⟩
theorem fnPeriodicHonest_over : Rows.fnPeriodicHonestRow.holds Try.pinned (OpenSpec.ofChange Rows.fnPeriodicHonestSpec) :=
  OpenClaim.holds_of_wide 4 Try.f4 rfl rfl rfl rfl rfl rfl rfl ⟨rfl, rfl, rfl, rfl, rfl⟩ rfl rfl rfl rfl rfl (by kernel_rfl) Try.func4 (by kernel_rfl)
    (of_decide_eq_true (by kernel_rfl)) (by unfold Func.isWrapper; first | (rw [if_pos (by decide +kernel)]; kernel_rfl) | (rw [if_neg (by decide +kernel)]; exact ⟨rfl, rfl⟩))
    (fun os started H enc _ => fnPeriodicHonest_lifted os started H enc)
theorem fnPeriodicHonest_holds : Rows.FnPeriodicHonestSaid := fnPeriodicHonest_over
#print axioms fnPeriodicHonest_holds

end Go.Proofs.Ytelddhcggmfloaa
