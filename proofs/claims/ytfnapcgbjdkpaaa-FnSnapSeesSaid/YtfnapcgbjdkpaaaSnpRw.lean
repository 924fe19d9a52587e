/- For every snapshot, place and byte that can be read as data, the law FnSnapSees returns true: a snapshot's file in which one byte of the data is another one is told to have another sum. No condition. -/
import Derived.Test.YtfnapcgbjdkpaaaSnpX
import Derived.Test.YtfnapcgbjdkpaaaVOpen
import Derived.Test.YtfnapcgbjdkpaaaRows
namespace Go.Proofs.Ytfnapcgbjdkpaaa
set_option linter.unusedVariables false
set_option linter.unusedSimpArgs false
set_option linter.unnecessarySimpa false
open Go Go.RowKit Go.V Go.ChangeShapes Go.WideShapes Go.ChangeAt

theorem own : ownKnob Try.prog.godebug = none := by kernel_rfl
theorem laidOut : laidOutB Try.prog = true := by kernel_rfl
theorem u64_of {n : Int} (h : (Lit.int .u64 n).wf = true) : ∃ k : Nat, n = k ∧ k < 18446744073709551616 := by
  have e1 : IntKind.u64.min = 0 := rfl
  have e2 : IntKind.u64.max = 18446744073709551615 := rfl
  simp [Lit.wf, e1, e2] at h
  exact ⟨n.toNat, by omega, by omega⟩
theorem list_u64 : ∀ (l : List Int), (∀ n ∈ l, (Lit.int .u64 n).wf = true) → ∃ vs : List Nat, vs.length = l.length ∧ (l.flatMap fun n => [Value.int .u64 n]) = u64s vs ∧ ∀ v ∈ vs, v < 18446744073709551616
  | [], _ => ⟨[], rfl, rfl, by simp⟩
  | n :: l, h => by
    obtain ⟨k, rfl, hk⟩ := u64_of (h n (by simp))
    obtain ⟨vs, h1, h2, h3⟩ := list_u64 l (fun x hx => h x (by simp [hx]))
    refine ⟨k :: vs, by simp [h1], by rw [List.flatMap_cons, h2]; rfl, ?_⟩
    intro v hv
    rcases List.mem_cons.1 hv with rfl | hv
    · exact hk
    · exact h3 v hv
section
variable {H : Type} {enc : TypeId × Value → H} {w : World}
theorem opens_snap : Opens enc Try.prog w 25 (fun x : ByteArray × Int × Int × Row Int => [.string x.1, .int .u64 x.2.1, .int .u64 x.2.2.1, x.2.2.2.val])
    (fun x => (Lit.int .u64 x.2.1).wf = true ∧ (Lit.int .u64 x.2.2.1).wf = true ∧ Soft w x.2.2.2.at' (x.2.2.2.list.flatMap fun n => [Value.int .u64 n]) ∧ ∀ n ∈ x.2.2.2.list, (Lit.int .u64 n).wf = true) :=
  (opens_struct Try.underlying25 (by kernel_rfl) (opensFs_cons (by kernel_rfl) (opens_string Try.underlying9) (opensFs_cons (by kernel_rfl) (opens_int Try.underlying22) (opensFs_cons (by kernel_rfl) (opens_int Try.underlying22)
    (opensFs_cons (by kernel_rfl) (opens_slice Try.underlying23 (opens_int Try.underlying22) (fun _ => by kernel_rfl)) (opensFs_nil _)))))).map
    (fun p => (p.1, p.2.1, p.2.2.1, p.2.2.2.1)) (fun _ => rfl) (fun p h => ⟨h.2.1, h.2.2.1, h.2.2.2.1.2.2.1, h.2.2.2.1.2.2.2⟩)
end
set_option maxRecDepth 8000 in
theorem open_snap {H : Type} {enc : TypeId × Value → H} {W : World} {v : Value} {d : DataW H} {p : List MemPlace} {b : Nat} {r : Reach} (h : DataW.Trod enc Try.prog W 0 (fun _ => true) true 25 v d p) (hv : Value.okWide Try.prog W r b 25 v) :
    ∃ (s : ByteArray) (i t : Nat) (sv : Option Addr) (vs : List Nat) (c : Nat), v = .agg #[.string s, .int .u64 i, .int .u64 t, .slice sv vs.length c] ∧ (i < 18446744073709551616 ∧ t < 18446744073709551616) ∧ (∀ v ∈ vs, v < 18446744073709551616) ∧ Lies W sv (u64s vs) := by
  obtain ⟨⟨s, i, t, ⟨sv, c, l⟩⟩, h1, h2, h3, h4, h5⟩ := opens_snap.one h
  obtain ⟨i, rfl, hi⟩ := u64_of h2
  obtain ⟨t, rfl, ht⟩ := u64_of h3
  obtain ⟨vs, e1, e2, e3⟩ := list_u64 l h5
  have h4' : Soft W sv (l.flatMap fun n => [Value.int .u64 n]) := h4
  rw [e2] at h4'
  refine ⟨s, i, t, sv, vs, c, ?_, ⟨hi, ht⟩, e3, h4'⟩
  rw [e1]
  exact agg_of Try.underlying25 hv h1

set_option maxRecDepth 100000 in
theorem fnSnapSees_lifted (os : Os) (started : os.Started) (H : Type) (enc : TypeId × Value → H) :
    ReturnsInHanded {} Try.checked os 3 .any (Rows.fnSnapSeesSpec.pre6 enc Try.prog Try.f3 Rows.fnSnapSeesRow.domain false) (Rows.fnSnapSeesSpec.post enc Try.prog Try.f3 false true false false) := by
  refine returnsInHanded_of_change_sized (C := Try.checked) own started (by kernel_rfl) Try.func3
    (ChangeSpec.witness6 (enc := enc) (C := Try.checked) false ⟨#[], #[.agg #[.string ByteArray.empty, .int .u64 0, .int .u64 0, .slice none 0 0], .int .i64 0, .int .u8 0], []⟩ 8 (by kernel_rfl) (by kernel_rfl) (by kernel_rfl) (by kernel_rfl)) ?_
  intro W base args ds gs before hval0 hW hcnd hsz0 _
  have hval : ∀ (j : Nat) t v, Try.f3.params[j]? = some t → args[j]? = some v → Value.okWide Try.prog W .any base t v := hval0
  have hW' := hW
  obtain ⟨p, q, hA0, hV, rfl, hfz, hnd⟩ := hW
  have hA : DataW.TrodAll enc Try.prog W 0 (fun _ => true) true Try.f3.params.toList args.toList ds p := hA0
  rw [Try.params3] at hA hval
  obtain ⟨v0, vs0, d0, ds0, p0, q0, hargs, rfl, rfl, h0, r0⟩ := trodAll_cons hA
  obtain ⟨v1, vs1, d1, ds1, p1, q1, rfl, rfl, rfl, h1, r1⟩ := trodAll_cons r0
  obtain ⟨v2, vs2, d2, ds2, p2, q2, rfl, rfl, rfl, h2, r2⟩ := trodAll_cons r1
  obtain ⟨rfl, rfl, rfl⟩ := trodAll_nil r2
  obtain rfl : args = #[v0, v1, v2] := by cases args; simp_all
  obtain ⟨rfl, rfl⟩ := trodVars_none hV
  have k0 := h0
  have lt0 : ∀ x ∈ p0, x.block < W.heap.size := by obtain ⟨m, hm⟩ := k0; exact DataW.trod_lt m _ _ _ hm
  have k1 := h1
  have lt1 : ∀ x ∈ p1, x.block < W.heap.size := by obtain ⟨m, hm⟩ := k1; exact DataW.trod_lt m _ _ _ hm
  have k2 := h2
  have lt2 : ∀ x ∈ p2, x.block < W.heap.size := by obtain ⟨m, hm⟩ := k2; exact DataW.trod_lt m _ _ _ hm
  obtain ⟨s, i, t, sv, vs, c, rfl, hit, hvs, hx⟩ := open_snap h0 (hval 0 25 v0 rfl rfl)
  obtain ⟨place, rfl, rfl, rfl, w1⟩ := open_int Try.underlying3 (hval 1 3 v1 rfl rfl) h1
  obtain ⟨byt, rfl, rfl, rfl, w2⟩ := open_int Try.underlying5 (hval 2 5 v2 rfl rfl) h2
  have H0 : St [] W W [(false, soft sv (u64s vs))] := (St.init [] W).soft hx
  have hp : place < 9223372036854775808 := by have := w1; have e : IntKind.i64.max = 9223372036854775807 := rfl; simp [Lit.wf, e] at this; omega
  have hb : 0 ≤ byt ∧ byt < 256 := by have := w2; have e1 : IntKind.u8.min = 0 := rfl; have e2 : IntKind.u8.max = 255 := rfl; simp [Lit.wf, e1, e2] at this; omega
  clear hA0 hval0 hsz0
  refine (sees_calls s i t (Lib.hid hit) sv vs _ c (Lib.hid rfl) (Lib.hid hvs) place (Lib.hid hp) byt (Lib.hid hb) W H0).mono fun e W' ⟨he, hst⟩ => ?_
  subst he
  have bel := hst.ext.below
  exact ⟨_, rfl, _, _, _, [], _, [], hW', trodAll_mk1 (shut_bool Try.underlying4 _), (trodAll_cons_mk (Below.trod laidOut (by kernel_rfl) (of_decide_eq_true (by kernel_rfl)) k0 bel lt0) (trodAll_cons_mk (Below.trod laidOut (by kernel_rfl) (of_decide_eq_true (by kernel_rfl)) k1 bel lt1) (trodAll_cons_mk (Below.trod laidOut (by kernel_rfl) (of_decide_eq_true (by kernel_rfl)) k2 bel lt2) trodAll_mk0))), rfl, bel.frame _, fun h => by cases h⟩
theorem fnSnapSees_over : Rows.fnSnapSeesRow.holds Try.pinned (OpenSpec.ofChange Rows.fnSnapSeesSpec) :=
  OpenClaim.holds_of_wide 3 Try.f3 rfl rfl rfl rfl rfl rfl rfl ⟨rfl, rfl, rfl, rfl, rfl⟩ rfl rfl rfl rfl rfl (by kernel_rfl) Try.func3 (by kernel_rfl)
    (of_decide_eq_true (by kernel_rfl)) (by unfold Func.isWrapper; first | (rw [if_pos (by decide +kernel)]; kernel_rfl) | (rw [if_neg (by decide +kernel)]; exact ⟨rfl, rfl⟩))
    (fun os started H enc _ => fnSnapSees_lifted os started H enc)
theorem fnSnapSees_holds : Rows.FnSnapSeesSaid := fnSnapSees_over
#print axioms fnSnapSees_holds

end Go.Proofs.Ytfnapcgbjdkpaaa
