/- For every number of places and every list of lists of numbers that can be read as data, the law FnRingFixed returns true: a fixed ring has the last values that were written. No condition. -/
import Derived.Test.YtlikpgidjdjgnaaRingX
import Derived.Test.YtlikpgidjdjgnaaVOpen
import Derived.Test.YtlikpgidjdjgnaaRows
namespace Go.Proofs.Ytlikpgidjdjgnaa
set_option linter.unusedVariables false
set_option linter.unusedSimpArgs false
set_option linter.unnecessarySimpa false
open Go.RowKit Go.V Go.ChangeShapes Go.WideShapes Go.ChangeAt

theorem own : ownKnob Try.prog.godebug = none := by kernel_rfl
theorem laidOut : laidOutB Try.prog = true := by kernel_rfl
theorem slice_of {P : Program} {w : World} {t e : TypeId} (ht : P.underlying t = some (.slice e)) {r : Reach} {b : Nat} {v : Value} (hv : Value.okWide P w r b t v) {s : Option Addr} {n c : Nat} (h : v.cells.toList = [.slice s n c]) : v = .slice s n c := by
  unfold Value.okWide at hv
  rw [ht] at hv
  unfold Cell.okWide at hv
  simp only [ht] at hv
  unfold Cell.ok at hv
  rw [ht] at hv
  cases v <;> simp_all [Value.cells]
theorem ints_flat (l : List Int) : (l.flatMap fun n => [Value.int .i64 n]) = ints l := by
  induction l with
  | nil => rfl
  | cons x l ih => rw [List.flatMap_cons, ih]; rfl
section
variable {H : Type} {enc : TypeId × Value → H} {w : World}
theorem opens_rows : Opens enc Try.prog w 22 (fun r : Row (Row Int) => [r.val]) (fun r => Soft w r.at' (rvals r.list) ∧ ∀ a ∈ r.list, Soft w a.at' (ints a.list)) :=
  (opens_slice Try.underlying22 (opens_slice Try.underlying26 (opens_int Try.underlying3) (fun _ => by kernel_rfl)) (fun _ => by kernel_rfl)).map id (fun _ => rfl)
    (fun _ h => ⟨h.2.2.1, fun a ha => by rw [← ints_flat]; exact (h.2.2.2 a ha).2.2.1⟩)
end

set_option maxRecDepth 100000 in
theorem fnRingFixed_lifted (os : Os) (started : os.Started) (H : Type) (enc : TypeId × Value → H) :
    ReturnsInHanded {} Try.checked os 3 .any (Rows.fnRingFixedSpec.pre6 enc Try.prog Try.f3 Rows.fnRingFixedRow.domain false) (Rows.fnRingFixedSpec.post enc Try.prog Try.f3 false true false false) := by
  refine returnsInHanded_of_change_sized (C := Try.checked) own started (by kernel_rfl) Try.func3
    (ChangeSpec.witness6 (enc := enc) (C := Try.checked) false ⟨#[], #[.int .i64 0, .slice none 0 0], []⟩ 8 (by kernel_rfl) (by kernel_rfl) (by kernel_rfl) (by kernel_rfl)) ?_
  intro W base args ds gs before hval0 hW hcnd hsz0 _
  have hval : ∀ (j : Nat) t v, Try.f3.params[j]? = some t → args[j]? = some v → Value.okWide Try.prog W .any base t v := hval0
  have hW' := hW
  obtain ⟨p, q, hA0, hV, rfl, hfz, hnd⟩ := hW
  have hA : DataW.TrodAll enc Try.prog W 0 (fun _ => true) true Try.f3.params.toList args.toList ds p := hA0
  rw [Try.params3] at hA hval
  obtain ⟨v0, vs0, d0, ds0, p0, q0, hargs, rfl, rfl, h0, r0⟩ := trodAll_cons hA
  obtain ⟨v1, vs1, d1, ds1, p1, q1, rfl, rfl, rfl, h1, r1⟩ := trodAll_cons r0
  obtain ⟨rfl, rfl, rfl⟩ := trodAll_nil r1
  obtain rfl : args = #[v0, v1] := by cases args; simp_all
  obtain ⟨rfl, rfl⟩ := trodVars_none hV
  have k1 := h1
  have lt1 : ∀ x ∈ p1, x.block < W.heap.size := by obtain ⟨m, hm⟩ := k1; exact DataW.trod_lt m _ _ _ hm
  obtain ⟨places, rfl, rfl, rfl, w0⟩ := open_int Try.underlying3 (hval 0 3 v0 rfl rfl) h0
  obtain ⟨⟨s, c, rs⟩, e1, hx, hr⟩ := opens_rows.one h1
  obtain rfl := slice_of Try.underlying22 (hval 1 22 v1 rfl rfl) e1
  clear hA0 hval0 hsz0
  have H0 : St [] W W [(false, soft s (rvals rs))] := (St.init [] W).read _ (soft_holds hx) (by simp)
  refine (ringFixed_calls places (by have := w0; simp [Lit.wf] at this; have e : IntKind.i64.min = -9223372036854775808 := rfl; omega) s c rs _ W rfl (fun r hr' => ⟨hr r hr', fun hn => ?_⟩) H0).mono fun e W' ⟨he, hst⟩ => ?_
  · have h := (hr r hr').1 hn
    have hl := ints_len r.list
    rw [h] at hl
    exact hl.symm
  subst he
  have bel := hst.ext.below
  exact ⟨_, rfl, _, _, _, [], _, [], hW', trodAll_mk1 (shut_bool Try.underlying4 _), (trodAll_cons_mk (shut_int Try.underlying3 w0) (trodAll_cons_mk (Below.trod laidOut (by kernel_rfl) (of_decide_eq_true (by kernel_rfl)) k1 bel lt1) trodAll_mk0)), rfl, bel.frame _, fun h => by cases h⟩
theorem fnRingFixed_over : Rows.fnRingFixedRow.holds Try.pinned (OpenSpec.ofChange Rows.fnRingFixedSpec) :=
  OpenClaim.holds_of_wide 3 Try.f3 rfl rfl rfl rfl rfl rfl rfl ⟨rfl, rfl, rfl, rfl, rfl⟩ rfl rfl rfl rfl rfl (by kernel_rfl) Try.func3 (by kernel_rfl)
    (of_decide_eq_true (by kernel_rfl)) (by unfold Func.isWrapper; first | (rw [if_pos (by decide +kernel)]; kernel_rfl) | (rw [if_neg (by decide +kernel)]; exact ⟨rfl, rfl⟩))
    (fun os started H enc _ => fnRingFixed_lifted os started H enc)
theorem fnRingFixed_holds : Rows.FnRingFixedSaid := fnRingFixed_over
#print axioms fnRingFixed_holds
end Go.Proofs.Ytlikpgidjdjgnaa
