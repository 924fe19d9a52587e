/- For every member and list of rounds that can be read as data, the law FnCompactCheck returns true: alarms and questions are those of the reference, round by round. No condition. -/
import Derived.Test.YtelddhcggmfloaaCkX
import Derived.Test.YtelddhcggmfloaaCkCj
import Derived.Test.YtelddhcggmfloaaRows
namespace Go.Proofs.Ytelddhcggmfloaa
set_option linter.unusedVariables false
set_option linter.unusedSimpArgs false
set_option linter.unnecessarySimpa false
open Go.RowKit Go.V Go.ChangeShapes Go.WideShapes Go.ChangeAt

theorem flat_i8 (l : List Int) : l.flatMap (fun x => [Value.int .i64 x]) = l.map i8 := by
  induction l with
  | nil => rfl
  | cons b l ih => rw [List.flatMap_cons, ih]; rfl
theorem flat_rv (l : List (Row Pr)) : l.flatMap (fun r => [r.val]) = l.map Row.val := by
  induction l with
  | nil => rfl
  | cons b l ih => rw [List.flatMap_cons, ih]; rfl
section
variable {H : Type} {enc : TypeId × Value → H} {w : World}
theorem opens_khr : Opens enc Try.prog w 24 KH.cells (fun x => x.rev ≤ 9223372036854775807) :=
  (opens_struct Try.underlying24 (by kernel_rfl) (opensFs_cons (by kernel_rfl) (opens_int Try.underlying22) (opensFs_cons (by kernel_rfl) (opens_int Try.underlying2) (opensFs_cons (by kernel_rfl) (opens_int Try.underlying2) (opensFs_nil _))))).map
    (fun p => ⟨p.1, p.2.1, p.2.2.1⟩) (fun _ => rfl) (fun x h => by
      have h1 := h.2.2.1
      have e1 : IntKind.i64.max = 9223372036854775807 := rfl
      simp [Lit.wf, e1] at h1
      exact h1.2)
theorem opens_khs : Opens enc Try.prog w 41 (fun r : Row KH => [r.val]) (fun r => r.list.length ≤ r.cap ∧ Soft w r.at' (r.list.flatMap KH.cells) ∧ ∀ h ∈ r.list, h.rev ≤ 9223372036854775807) :=
  (opens_slice Try.underlying41 opens_khr (fun _ => by kernel_rfl)).map id (fun _ => rfl) (fun _ h => ⟨h.1, h.2.2.1, h.2.2.2⟩)
theorem opens_i8s : Opens enc Try.prog w 42 (fun r : Row Int => [r.val]) (fun r => r.list.length ≤ r.cap ∧ Soft w r.at' (r.list.map i8)) :=
  (opens_slice Try.underlying42 (opens_int Try.underlying2) (fun _ => by kernel_rfl)).map id (fun _ => rfl) (fun a h => ⟨h.1, by have := h.2.2.1; rw [flat_i8] at this; exact this⟩)
theorem opens_prss : Opens enc Try.prog w 36 (fun r : Row (Row Pr) => [r.val]) (fun r => Soft w r.at' (r.list.map Row.val) ∧ ∀ p ∈ r.list, p.list.length ≤ p.cap ∧ Soft w p.at' (p.list.flatMap Pr.cells)) :=
  (opens_slice Try.underlying36 opens_prs (fun _ => by kernel_rfl)).map id (fun _ => rfl) (fun a h => ⟨by have := h.2.2.1; rw [flat_rv] at this; exact this, h.2.2.2⟩)
theorem opens_rd : Opens enc Try.prog w 44 Rd.cells (fun d => RdAt w d ∧ RdCap d ∧ ∀ h ∈ d.hs.list, h.rev ≤ 9223372036854775807) :=
  (opens_struct Try.underlying44 (by kernel_rfl) (opensFs_cons (by kernel_rfl) opens_khs (opensFs_cons (by kernel_rfl) opens_i8s (opensFs_cons (by kernel_rfl) opens_prss (opensFs_nil _))))).map
    (fun p => (⟨p.1, p.2.1, p.2.2.1⟩ : Rd)) (fun _ => rfl) (fun x h => ⟨⟨h.1.2.1, h.2.1.2, h.2.2.1.1, fun r hr => (h.2.2.1.2 r hr).2⟩, ⟨h.1.1, h.2.1.1, fun r hr => (h.2.2.1.2 r hr).1⟩, h.1.2.2⟩)
theorem opens_rds : Opens enc Try.prog w 45 (fun r : Row Rd => [r.val]) (fun r => Soft w r.at' (r.list.flatMap Rd.cells) ∧ ∀ d ∈ r.list, RdAt w d ∧ RdCap d ∧ ∀ h ∈ d.hs.list, h.rev ≤ 9223372036854775807) :=
  (opens_slice Try.underlying45 opens_rd (fun _ => by kernel_rfl)).map id (fun _ => rfl) (fun _ h => ⟨h.2.2.1, h.2.2.2⟩)
end
theorem check_row (own : Int) (rds : List Rd) (src : Option Addr) (n c : Nat) (hn : Hid (rds.length = n)) (w : World) (hR : Hid (∀ d ∈ rds, RdAt w d ∧ RdCap d ∧ ∀ h ∈ d.hs.list, h.rev ≤ 9223372036854775807)) (H : St [] w w [(false, soft src (rds.flatMap Rd.cells))]) :
    Calls Try.prog 6 #[.int .u64 own, .slice src n c] w fun e w' => e = .returned (.bool true) ∧ St [] w w' [] :=
  (ccheck_calls own rds src n c hn w (fun d hd => (hR.out d hd).1) (fun d hd => (hR.out d hd).2.1) (fun d hd => (hR.out d hd).2.2) H).mono fun e w' ⟨h1, h2⟩ => ⟨h1, (St.init [] w).of_ext h2⟩

set_option maxRecDepth 100000 in
theorem fnCompactCheck_lifted (os : Os) (started : os.Started) (H : Type) (enc : TypeId × Value → H) :
    ReturnsInHanded {} Try.checked os 6 .any (Rows.fnCompactCheckSpec.pre6 enc Try.prog Try.f6 Rows.fnCompactCheckRow.domain false) (Rows.fnCompactCheckSpec.post enc Try.prog Try.f6 false true false false) := by
  refine returnsInHanded_of_change_sized (C := Try.checked) own started (by kernel_rfl) Try.func6
    (ChangeSpec.witness6 (enc := enc) (C := Try.checked) false ⟨#[], #[.int .u64 0, .slice none 0 0], []⟩ 8 (by kernel_rfl) (by kernel_rfl) (by kernel_rfl) (by kernel_rfl)) ?_
  intro W base args ds gs before hval0 hW hcnd hsz0 _
  have hval : ∀ (j : Nat) t v, Try.f6.params[j]? = some t → args[j]? = some v → Value.okWide Try.prog W .any base t v := hval0
  have hW' := hW
  obtain ⟨p, q, hA0, hV, rfl, hfz, hnd⟩ := hW
  have hA : DataW.TrodAll enc Try.prog W 0 (fun _ => true) true Try.f6.params.toList args.toList ds p := hA0
  rw [Try.params6] at hA hval
  obtain ⟨v0, vs0, d0, ds0, p0, q0, hargs, rfl, rfl, h0, r0⟩ := trodAll_cons hA
  obtain ⟨v1, vs1, d1, ds1, p1, q1, rfl, rfl, rfl, h1, r1⟩ := trodAll_cons r0
  obtain ⟨rfl, rfl, rfl⟩ := trodAll_nil r1
  obtain rfl : args = #[v0, v1] := by cases args; simp_all
  obtain ⟨rfl, rfl⟩ := trodVars_none hV
  have k0 := h0
  have lt0 : ∀ x ∈ p0, x.block < W.heap.size := by obtain ⟨m, hm⟩ := k0; exact DataW.trod_lt m _ _ _ hm
  have k1 := h1
  have lt1 : ∀ x ∈ p1, x.block < W.heap.size := by obtain ⟨m, hm⟩ := k1; exact DataW.trod_lt m _ _ _ hm
  obtain ⟨ow, rfl, rfl, rfl, w2⟩ := open_int Try.underlying27 (hval 0 27 v0 rfl rfl) h0
  obtain ⟨⟨s, c, rds⟩, e1, hx, hk⟩ := opens_rds.one h1
  obtain rfl := slice_of Try.underlying45 (hval 1 45 v1 rfl rfl) e1
  have H0 : St [] W W [(false, soft s (rds.flatMap Rd.cells))] := (St.init [] W).soft hx
  clear hA0 hval0 hsz0
  refine (check_row ow rds s _ c (Lib.hid rfl) W hk H0).mono fun e W' ⟨he, hst⟩ => ?_
  subst he
  have bel := hst.ext.below
  exact ⟨_, rfl, _, _, _, [], _, [], hW', trodAll_mk1 (shut_bool Try.underlying4 _), (trodAll_cons_mk (Below.trod laidOut (by kernel_rfl) (of_decide_eq_true (by kernel_rfl)) k0 bel lt0) (trodAll_cons_mk (Below.trod laidOut (by kernel_rfl) (of_decide_eq_true (by kernel_rfl)) k1 bel lt1) trodAll_mk0)), rfl, bel.frame _, fun h => by cases h⟩
theorem fnCompactCheck_over : Rows.fnCompactCheckRow.holds Try.pinned (OpenSpec.ofChange Rows.fnCompactCheckSpec) :=
  OpenClaim.holds_of_wide 6 Try.f6 rfl rfl rfl rfl rfl rfl rfl ⟨rfl, rfl, rfl, rfl, rfl⟩ rfl rfl rfl rfl rfl (by kernel_rfl) Try.func6 (by kernel_rfl)
    (of_decide_eq_true (by kernel_rfl)) (by unfold Func.isWrapper; first | (rw [if_pos (by decide +kernel)]; kernel_rfl) | (rw [if_neg (by decide +kernel)]; exact ⟨rfl, rfl⟩))
    (fun os started H enc _ => fnCompactCheck_lifted os started H enc)
theorem fnCompactCheck_holds : Rows.FnCompactCheckSaid := fnCompactCheck_over
#print axioms fnCompactCheck_holds

end Go.Proofs.Ytelddhcggmfloaa
