/- For every kind of ring, every sizes and every list of operations that can be read as data, the law FnRingAnswers returns true: a ring's answers are those of the reference's queue. No condition. -/
import Derived.Test.YtlikpgidjdjgnaaRingQf
import Derived.Test.YtlikpgidjdjgnaaVOpen
import Derived.Test.YtlikpgidjdjgnaaRows
namespace Go.Proofs.Ytlikpgidjdjgnaa
set_option linter.unusedVariables false
set_option linter.unusedSimpArgs false
set_option linter.unnecessarySimpa false
open Go.RowKit Go.V Go.ChangeShapes Go.WideShapes Go.ChangeAt

theorem own : ownKnob Try.prog.godebug = none := by kernel_rfl
theorem laidOut : laidOutB Try.prog = true := by kernel_rfl
theorem slice_of {P : Program} {w : World} {t e : TypeId} (ht : P.underlying t = some (.slice e)) {r : Reach} {b : Nat} {v : Value} (hv : Value.okWide P w r b t v) {s : Option Addr} {n c : Nat} (h : v.cells.toList = [.slice s n c]) : v = .slice s n c := by
  unfold Value.okWide at hv
  rw [ht] at hv
  unfold Cell.okWide at hv
  simp only [ht] at hv
  unfold Cell.ok at hv
  rw [ht] at hv
  cases v <;> simp_all [Value.cells]
theorem ints_flat (l : List Int) : (l.flatMap fun n => [Value.int .i64 n]) = ints l := by
  induction l with
  | nil => rfl
  | cons x l ih => rw [List.flatMap_cons, ih]; rfl
section
variable {H : Type} {enc : TypeId × Value → H} {w : World}
theorem opens_op : Opens enc Try.prog w 28 ROp.cells (fun o => Soft w o.at' (ints o.vals)) :=
  (opens_struct Try.underlying28 (by kernel_rfl) (opensFs_cons (by kernel_rfl) (opens_int Try.underlying3) (opensFs_cons (by kernel_rfl) (opens_slice Try.underlying26 (opens_int Try.underlying3) (fun _ => by kernel_rfl)) (opensFs_nil _)))).map
    (fun p => ⟨p.1, p.2.1.at', p.2.1.cap, p.2.1.list⟩) (fun _ => rfl) (fun _ h => by rw [← ints_flat]; exact h.2.1.2.2.1)
theorem opens_ops : Opens enc Try.prog w 25 (fun r : Row ROp => [r.val]) (fun r => Soft w r.at' (r.list.flatMap ROp.cells) ∧ ∀ o ∈ r.list, Soft w o.at' (ints o.vals)) :=
  (opens_slice Try.underlying25 opens_op (fun _ => by kernel_rfl)).map id (fun _ => rfl) (fun _ h => ⟨h.2.2.1, h.2.2.2⟩)
end

set_option maxRecDepth 100000 in
theorem fnRingAnswers_lifted (os : Os) (started : os.Started) (H : Type) (enc : TypeId × Value → H) :
    ReturnsInHanded {} Try.checked os 4 .any (Rows.fnRingAnswersSpec.pre6 enc Try.prog Try.f4 Rows.fnRingAnswersRow.domain false) (Rows.fnRingAnswersSpec.post enc Try.prog Try.f4 false true false false) := by
  refine returnsInHanded_of_change_sized (C := Try.checked) own started (by kernel_rfl) Try.func4
    (ChangeSpec.witness6 (enc := enc) (C := Try.checked) false ⟨#[], #[.int .i64 0, .int .i64 0, .int .i64 0, .slice none 0 0], []⟩ 8 (by kernel_rfl) (by kernel_rfl) (by kernel_rfl) (by kernel_rfl)) ?_
  intro W base args ds gs before hval0 hW hcnd hsz0 _
  have hval : ∀ (j : Nat) t v, Try.f4.params[j]? = some t → args[j]? = some v → Value.okWide Try.prog W .any base t v := hval0
  have hW' := hW
  obtain ⟨p, q, hA0, hV, rfl, hfz, hnd⟩ := hW
  have hA : DataW.TrodAll enc Try.prog W 0 (fun _ => true) true Try.f4.params.toList args.toList ds p := hA0
  rw [Try.params4] at hA hval
  obtain ⟨v0, vs0, d0, ds0, p0, q0, hargs, rfl, rfl, h0, r0⟩ := trodAll_cons hA
  obtain ⟨v1, vs1, d1, ds1, p1, q1, rfl, rfl, rfl, h1, r1⟩ := trodAll_cons r0
  obtain ⟨v2, vs2, d2, ds2, p2, q2, rfl, rfl, rfl, h2, r2⟩ := trodAll_cons r1
  obtain ⟨v3, vs3, d3, ds3, p3, q3, rfl, rfl, rfl, h3, r3⟩ := trodAll_cons r2
  obtain ⟨rfl, rfl, rfl⟩ := trodAll_nil r3
  obtain rfl : args = #[v0, v1, v2, v3] := by cases args; simp_all
  obtain ⟨rfl, rfl⟩ := trodVars_none hV
  have k0 := h0
  have lt0 : ∀ x ∈ p0, x.block < W.heap.size := by obtain ⟨m, hm⟩ := k0; exact DataW.trod_lt m _ _ _ hm
  have k1 := h1
  have lt1 : ∀ x ∈ p1, x.block < W.heap.size := by obtain ⟨m, hm⟩ := k1; exact DataW.trod_lt m _ _ _ hm
  have k2 := h2
  have lt2 : ∀ x ∈ p2, x.block < W.heap.size := by obtain ⟨m, hm⟩ := k2; exact DataW.trod_lt m _ _ _ hm
  have k3 := h3
  have lt3 : ∀ x ∈ p3, x.block < W.heap.size := by obtain ⟨m, hm⟩ := k3; exact DataW.trod_lt m _ _ _ hm
  obtain ⟨kind, rfl, rfl, rfl, w0⟩ := open_int Try.underlying3 (hval 0 3 v0 rfl rfl) h0
  obtain ⟨initial, rfl, rfl, rfl, w1⟩ := open_int Try.underlying3 (hval 1 3 v1 rfl rfl) h1
  obtain ⟨normal, rfl, rfl, rfl, w2⟩ := open_int Try.underlying3 (hval 2 3 v2 rfl rfl) h2
  obtain ⟨⟨s, c, ops⟩, e3, hx, hr⟩ := opens_ops.one h3
  obtain rfl := slice_of Try.underlying25 (hval 3 25 v3 rfl rfl) e3
  have H0 : St [] W W [(false, soft s (ops.flatMap ROp.cells))] := (St.init [] W).read _ (soft_holds hx) (by simp)
  clear hA0 hval0 hsz0
  refine (ringAns_calls kind initial normal s c ops _ W rfl (fun o ho => ⟨hr o ho, fun hn => (by have h := (hr o ho).1 hn; have hl := ints_len o.vals; rw [h] at hl; exact hl.symm)⟩) H0).mono fun e W' ⟨he, hst⟩ => ?_
  subst he
  have bel := hst.ext.below
  exact ⟨_, rfl, _, _, _, [], _, [], hW', trodAll_mk1 (shut_bool Try.underlying4 _), (trodAll_cons_mk (Below.trod laidOut (by kernel_rfl) (of_decide_eq_true (by kernel_rfl)) k0 bel lt0) (trodAll_cons_mk (Below.trod laidOut (by kernel_rfl) (of_decide_eq_true (by kernel_rfl)) k1 bel lt1) (trodAll_cons_mk (Below.trod laidOut (by kernel_rfl) (of_decide_eq_true (by kernel_rfl)) k2 bel lt2) (trodAll_cons_mk (Below.trod laidOut (by kernel_rfl) (of_decide_eq_true (by kernel_rfl)) k3 bel lt3) trodAll_mk0)))), rfl, bel.frame _, fun h => by cases h⟩
theorem fnRingAnswers_over : Rows.fnRingAnswersRow.holds Try.pinned (OpenSpec.ofChange Rows.fnRingAnswersSpec) :=
  OpenClaim.holds_of_wide 4 Try.f4 rfl rfl rfl rfl rfl rfl rfl ⟨rfl, rfl, rfl, rfl, rfl⟩ rfl rfl rfl rfl rfl (by kernel_rfl) Try.func4 (by kernel_rfl)
    (of_decide_eq_true (by kernel_rfl)) (by unfold Func.isWrapper; first | (rw [if_pos (by decide +kernel)]; kernel_rfl) | (rw [if_neg (by decide +kernel)]; exact ⟨rfl, rfl⟩))
    (fun os started H enc _ => fnRingAnswers_lifted os started H enc)
theorem fnRingAnswers_holds : Rows.FnRingAnswersSaid := fnRingAnswers_over
#print axioms fnRingAnswers_holds

end Go.Proofs.Ytlikpgidjdjgnaa
