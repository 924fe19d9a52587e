/- For every member, hash, list of peers, list of truth values and truth value that can be read as data, the law FnCompactMajority returns true: just those with a wrong hash are accused, if they are fewer than half. No condition. -/
import Derived.Test.YtelddhcggmfloaaCkX
import Derived.Test.YtelddhcggmfloaaCkMb
import Derived.Test.YtelddhcggmfloaaRows
namespace Go.Proofs.Ytelddhcggmfloaa
set_option linter.unusedVariables false
set_option linter.unusedSimpArgs false
set_option linter.unnecessarySimpa false
open Go.RowKit Go.V Go.ChangeShapes Go.WideShapes Go.ChangeAt

theorem flat_bv (l : List Bool) : l.flatMap (fun b => [Value.bool b]) = l.map bv := by
  induction l with
  | nil => rfl
  | cons b l ih => rw [List.flatMap_cons, ih]; rfl
section
variable {H : Type} {enc : TypeId × Value → H} {w : World}
theorem opens_kh2 : Opens enc Try.prog w 24 KH.cells (fun x => (Lit.int .u32 x.hash).wf = true) :=
  (opens_struct Try.underlying24 (by kernel_rfl) (opensFs_cons (by kernel_rfl) (opens_int Try.underlying22) (opensFs_cons (by kernel_rfl) (opens_int Try.underlying2) (opensFs_cons (by kernel_rfl) (opens_int Try.underlying2) (opensFs_nil _))))).map
    (fun p => ⟨p.1, p.2.1, p.2.2.1⟩) (fun _ => rfl) (fun _ h => h.1)
theorem opens_bs : Opens enc Try.prog w 35 (fun r : Row Bool => [r.val]) (fun r => Soft w r.at' (r.list.flatMap fun b => [Value.bool b])) :=
  (opens_slice Try.underlying35 (opens_bool Try.underlying4) (fun _ => by kernel_rfl)).map id (fun _ => rfl) (fun _ h => h.2.2.1)
end
set_option maxRecDepth 8000 in
theorem open_kh2 {H : Type} {enc : TypeId × Value → H} {W : World} {v : Value} {d : DataW H} {p : List MemPlace} {b : Nat} {r : Reach} (h : DataW.Trod enc Try.prog W 0 (fun _ => true) true 24 v d p) (hv : Value.okWide Try.prog W r b 24 v) :
    ∃ x : KH, v = x.val ∧ 0 ≤ x.hash ∧ x.hash < 4294967296 := by
  obtain ⟨x, h1, h2⟩ := opens_kh2.one h
  refine ⟨x, agg_of Try.underlying24 hv h1, ?_⟩
  have e1 : IntKind.u32.min = 0 := rfl
  have e2 : IntKind.u32.max = 4294967295 := rfl
  simp [Lit.wf, e1, e2] at h2
  omega
theorem major_row (own : Int) (h : KH) (hh : 0 ≤ h.hash ∧ h.hash < 4294967296) (psrc wsrc : Option Addr) (c wc : Nat) (ps : List Pr) (ws : List Bool) (n m : Nat) (self : Bool) (hn : Hid (ps.length = n)) (hm : Hid (ws.length = m)) (hcp : n ≤ c) (w : World) (H : St [] w w [(false, soft psrc (ps.flatMap Pr.cells)), (false, soft wsrc (ws.map bv))]) :
    Calls Try.prog 5 #[.int .u64 own, h.val, .slice psrc n c, .slice wsrc m wc, .bool self] w fun e w' => e = .returned (.bool true) ∧ St [] w w' [] :=
  (major_calls own h hh psrc wsrc c wc ps ws n m self hn hm hcp w H).mono fun e w' ⟨h1, h2⟩ => ⟨h1, (St.init [] w).of_ext h2⟩

set_option maxRecDepth 100000 in
theorem fnCompactMajority_lifted (os : Os) (started : os.Started) (H : Type) (enc : TypeId × Value → H) :
    ReturnsInHanded {} Try.checked os 5 .any (Rows.fnCompactMajoritySpec.pre6 enc Try.prog Try.f5 Rows.fnCompactMajorityRow.domain false) (Rows.fnCompactMajoritySpec.post enc Try.prog Try.f5 false true false false) := by
  refine returnsInHanded_of_change_sized (C := Try.checked) own started (by kernel_rfl) Try.func5
    (ChangeSpec.witness6 (enc := enc) (C := Try.checked) false ⟨#[], #[.int .u64 0, .agg #[.int .u32 0, .int .i64 0, .int .i64 0], .slice none 0 0, .slice none 0 0, .bool false], []⟩ 8 (by kernel_rfl) (by kernel_rfl) (by kernel_rfl) (by kernel_rfl)) ?_
  intro W base args ds gs before hval0 hW hcnd hsz0 _
  have hval : ∀ (j : Nat) t v, Try.f5.params[j]? = some t → args[j]? = some v → Value.okWide Try.prog W .any base t v := hval0
  have hW' := hW
  obtain ⟨p, q, hA0, hV, rfl, hfz, hnd⟩ := hW
  have hA : DataW.TrodAll enc Try.prog W 0 (fun _ => true) true Try.f5.params.toList args.toList ds p := hA0
  rw [Try.params5] at hA hval
  obtain ⟨v0, vs0, d0, ds0, p0, q0, hargs, rfl, rfl, h0, r0⟩ := trodAll_cons hA
  obtain ⟨v1, vs1, d1, ds1, p1, q1, rfl, rfl, rfl, h1, r1⟩ := trodAll_cons r0
  obtain ⟨v2, vs2, d2, ds2, p2, q2, rfl, rfl, rfl, h2, r2⟩ := trodAll_cons r1
  obtain ⟨v3, vs3, d3, ds3, p3, q3, rfl, rfl, rfl, h3, r3⟩ := trodAll_cons r2
  obtain ⟨v4, vs4, d4, ds4, p4, q4, rfl, rfl, rfl, h4, r4⟩ := trodAll_cons r3
  obtain ⟨rfl, rfl, rfl⟩ := trodAll_nil r4
  obtain rfl : args = #[v0, v1, v2, v3, v4] := by cases args; simp_all
  obtain ⟨rfl, rfl⟩ := trodVars_none hV
  have k0 := h0
  have lt0 : ∀ x ∈ p0, x.block < W.heap.size := by obtain ⟨m, hm⟩ := k0; exact DataW.trod_lt m _ _ _ hm
  have k1 := h1
  have lt1 : ∀ x ∈ p1, x.block < W.heap.size := by obtain ⟨m, hm⟩ := k1; exact DataW.trod_lt m _ _ _ hm
  have k2 := h2
  have lt2 : ∀ x ∈ p2, x.block < W.heap.size := by obtain ⟨m, hm⟩ := k2; exact DataW.trod_lt m _ _ _ hm
  have k3 := h3
  have lt3 : ∀ x ∈ p3, x.block < W.heap.size := by obtain ⟨m, hm⟩ := k3; exact DataW.trod_lt m _ _ _ hm
  have k4 := h4
  have lt4 : ∀ x ∈ p4, x.block < W.heap.size := by obtain ⟨m, hm⟩ := k4; exact DataW.trod_lt m _ _ _ hm
  obtain ⟨ow, rfl, rfl, rfl, w2⟩ := open_int Try.underlying27 (hval 0 27 v0 rfl rfl) h0
  obtain ⟨o, rfl, hh⟩ := open_kh2 h1 (hval 1 24 v1 rfl rfl)
  obtain ⟨⟨s, c, ps⟩, e1, hcp, hx⟩ := opens_prs.one h2
  obtain rfl := slice_of Try.underlying25 (hval 2 25 v2 rfl rfl) e1
  obtain ⟨⟨s2, c2, bs⟩, e2, hx2⟩ := opens_bs.one h3
  obtain rfl := slice_of Try.underlying35 (hval 3 35 v3 rfl rfl) e2
  obtain ⟨self, rfl, rfl, rfl⟩ := open_bool Try.underlying4 (hval 4 4 v4 rfl rfl) h4
  have hx3 : Lies W s2 (bs.map bv) := by have h : Lies W s2 (bs.flatMap fun b => [Value.bool b]) := hx2; rw [flat_bv] at h; exact h
  have H0 : St [] W W [(false, soft s (ps.flatMap Pr.cells)), (false, soft s2 (bs.map bv))] := ((St.init [] W).soft hx3).soft hx
  clear hA0 hval0 hsz0
  refine (major_row ow o hh s s2 c c2 ps bs _ _ self (Lib.hid rfl) (Lib.hid rfl) hcp W H0).mono fun e W' ⟨he, hst⟩ => ?_
  subst he
  have bel := hst.ext.below
  exact ⟨_, rfl, _, _, _, [], _, [], hW', trodAll_mk1 (shut_bool Try.underlying4 _), (trodAll_cons_mk (Below.trod laidOut (by kernel_rfl) (of_decide_eq_true (by kernel_rfl)) k0 bel lt0) (trodAll_cons_mk (Below.trod laidOut (by kernel_rfl) (of_decide_eq_true (by kernel_rfl)) k1 bel lt1) (trodAll_cons_mk (Below.trod laidOut (by kernel_rfl) (of_decide_eq_true (by kernel_rfl)) k2 bel lt2) (trodAll_cons_mk (Below.trod laidOut (by kernel_rfl) (of_decide_eq_true (by kernel_rfl)) k3 bel lt3) (trodAll_cons_mk (Below.trod laidOut (by kernel_rfl) (of_decide_eq_true (by kernel_rfl)) k4 bel lt4) trodAll_mk0))))), rfl, bel.frame _, fun h => by cases h⟩
theorem fnCompactMajority_over : Rows.fnCompactMajorityRow.holds Try.pinned (OpenSpec.ofChange Rows.fnCompactMajoritySpec) :=
  OpenClaim.holds_of_wide 5 Try.f5 rfl rfl rfl rfl rfl rfl rfl ⟨rfl, rfl, rfl, rfl, rfl⟩ rfl rfl rfl rfl rfl (by kernel_rfl) Try.func5 (by kernel_rfl)
    (of_decide_eq_true (by kernel_rfl)) (by unfold Func.isWrapper; first | (rw [if_pos (by decide +kernel)]; kernel_rfl) | (rw [if_neg (by decide +kernel)]; exact ⟨rfl, rfl⟩))
    (fun os started H enc _ => fnCompactMajority_lifted os started H enc)
theorem fnCompactMajority_holds : Rows.FnCompactMajoritySaid := fnCompactMajority_over
#print axioms fnCompactMajority_holds

end Go.Proofs.Ytelddhcggmfloaa
