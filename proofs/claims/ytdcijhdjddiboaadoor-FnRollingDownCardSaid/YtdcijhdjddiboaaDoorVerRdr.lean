/- For every number, minor version and order that can be read as data, the law FnRollingDown returns true: a rolling downgrade goes on until the last member was replaced, and then is over. The package-level variables that are read are tied to the program's text; no further condition. -/
import Derived.Test.YtdcijhdjddiboaaDoorVerFp
import Derived.Test.YtdcijhdjddiboaaDoorVerFe
import Derived.Test.YtdcijhdjddiboaaDoorCards
import Derived.Test.YtdcijhdjddiboaaDoorTie
namespace Go.Proofs.YtdcijhdjddiboaaDoor
set_option linter.unusedVariables false
set_option linter.unusedSimpArgs false
set_option linter.unnecessarySimpa false
open Go.RowKit Go.V Go.ChangeShapes Go.WideShapes Go.ChangeAt

theorem slice_of {P : Program} {w : World} {t e : TypeId} (ht : P.underlying t = some (.slice e)) {r : Reach} {b : Nat} {v : Value} (hv : Value.okWide P w r b t v) {s : Option Addr} {n c : Nat} (h : v.cells.toList = [.slice s n c]) : v = .slice s n c := by
  unfold Value.okWide at hv
  rw [ht] at hv
  unfold Cell.okWide at hv
  simp only [ht] at hv
  unfold Cell.ok at hv
  rw [ht] at hv
  cases v <;> simp_all [Value.cells]
theorem intsV_flat (l : List Int) : (l.flatMap fun n => [Value.int .i64 n]) = intsV l := by
  induction l with
  | nil => rfl
  | cons x l ih => rw [List.flatMap_cons, ih]; rfl
set_option maxRecDepth 100000 in
theorem fnRollingDown_lifted (os : Os) (started : os.Started) (H : Type) (enc : TypeId × Value → H) :
    ReturnsInHanded {} Tryd.checked os 8 .any (fun w args => (Rows.fnRollingDownSpec.pre enc Tryd.prog Tryd.f8 [] false w args ∧ laidMetH Tryd.prog laid5 w) ∧ sizedMet enc Tryd.prog Tryd.f8 (OpenSpec.ofChange Rows.fnRollingDownSpec) false w args) (Rows.fnRollingDownSpec.post enc Tryd.prog Tryd.f8 false true false false) := by
  refine returnsInHanded_of_change_and (C := Tryd.checked) (X := fun w _ => laidMetH Tryd.prog laid5 w) (fun _ _ _ hh h => h.of_heap hh) own started (by kernel_rfl) Tryd.func8
    (ChangeSpec.witness_shaped (enc := enc) (C := Tryd.checked) (os := os) (X := fun w _ => laidMetH Tryd.prog laid5 w) false (World.doorLaid Tryd.prog 4000 os) #[.int .i64 0, .int .i64 0, .slice none 0 0] 8 rfl (World.shaped_of_RefB (by kernel_rfl) (by kernel_rfl)) (by kernel_rfl) (by kernel_rfl) (by kernel_rfl) (door_met os _)) ?_
  intro W base args ds gs before hval0 hW _ _ hL _
  have hval : ∀ (j : Nat) t v, Tryd.f8.params[j]? = some t → args[j]? = some v → Value.okWide Tryd.prog W .any base t v := hval0
  have hW' := hW
  obtain ⟨p, q, hA0, hV, rfl, hfz, hnd⟩ := hW
  have hA : DataW.TrodAll enc Tryd.prog W 0 (fun _ => true) true Tryd.f8.params.toList args.toList ds p := hA0
  rw [Tryd.params8] at hA hval
  obtain ⟨v0, vs0, d0, ds0, p0, q0, hargs, rfl, rfl, h0, r0⟩ := trodAll_cons hA
  obtain ⟨v1, vs1, d1, ds1, p1, q1, rfl, rfl, rfl, h1, r1⟩ := trodAll_cons r0
  obtain ⟨v2, vs2, d2, ds2, p2, q2, rfl, rfl, rfl, h2, r2⟩ := trodAll_cons r1
  obtain ⟨rfl, rfl, rfl⟩ := trodAll_nil r2
  obtain rfl : args = #[v0, v1, v2] := by cases args; simp_all
  obtain ⟨rfl, rfl⟩ := trodVars_none hV
  have k2 := h2
  have lt2 : ∀ x ∈ p2, x.block < W.heap.size := by obtain ⟨m, hm⟩ := k2; exact DataW.trod_lt m _ _ _ hm
  obtain ⟨n, rfl, rfl, rfl, w0⟩ := open_int Tryd.underlying3 (hval 0 3 v0 rfl rfl) h0
  obtain ⟨m, rfl, rfl, rfl, w1⟩ := open_int Tryd.underlying2 (hval 1 2 v1 rfl rfl) h1
  obtain ⟨⟨s, c, l⟩, e1, hx⟩ := (opens_slice Tryd.underlying39 (opens_int Tryd.underlying3) (fun _ => by kernel_rfl)).one h2
  have hv2 := hval 2 39 v2 rfl rfl
  obtain rfl := slice_of Tryd.underlying39 hv2 e1
  have hx1 := hx.2.2.1
  rw [intsV_flat] at hx1
  have harr : holds W (.arr s (intsV l)) := Soft.arr hx1 (by
    rintro ad rfl
    exact has_slice Tryd.underlying39 hv2)
  clear hA0 hval0
  refine (fnRollingDown_calls n m l s c W (st_genv harr (genv_of_laid hL))).mono fun e W' ⟨he, hst⟩ => ?_
  subst he
  have bel := hst.below
  exact ⟨_, rfl, _, _, _, [], _, [], hW', trodAll_mk1 (shut_bool Tryd.underlying4 _), (trodAll_cons_mk (shut_int Tryd.underlying3 w0) (trodAll_cons_mk (shut_int Tryd.underlying2 w1) (trodAll_cons_mk (Below.trod laidOut (by kernel_rfl) (of_decide_eq_true (by kernel_rfl)) k2 bel lt2) trodAll_mk0))), rfl, bel.frame _, fun h => by cases h⟩
theorem fnRollingDown_over : Rows.fnRollingDownRow.holds Tryd.pinned (OpenSpec.ofChange Rows.fnRollingDownSpec) :=
  OpenClaim.holds_of_wide 8 Tryd.f8 rfl rfl rfl rfl rfl rfl rfl ⟨rfl, rfl, rfl, rfl, rfl⟩ rfl rfl rfl rfl rfl (by kernel_rfl) Tryd.func8 (by kernel_rfl)
    (of_decide_eq_true (by kernel_rfl)) (by unfold Func.isWrapper; first | (rw [if_pos (by decide +kernel)]; kernel_rfl) | (rw [if_neg (by decide +kernel)]; exact ⟨rfl, rfl⟩))
    (fun os started H enc _ => fnRollingDown_lifted os started H enc)
theorem fnRollingDown_said : Rows.FnRollingDownSaid := fnRollingDown_over
theorem fnRollingDown_holds : Rows.FnRollingDownCardSaid :=
  Claim7.holds_tied_plain_at .later [] [.data, .data, .data, .sentinel, .sentinel] true (true, "978ee88816243b6105f028aef50a1b32ebc72b9514cfc5cc9a9810598ffff139") true
    fnRollingDown_said (fun _ h => by cases h) (by kernel_rfl) (fun _ h => by cases h) fnRollingDown_row_tie rfl ⟨rfl, rfl⟩ (by kernel_rfl) rfl
    (fun f fn hf hfn => by
      obtain rfl : f = 8 := Option.some.inj ((show Tryd.prog.funcNamed "pub-vicegerent/laws.FnRollingDown" = some 8 by kernel_rfl).symm.trans hf) |>.symm
      obtain rfl : fn = Tryd.f8 := (Option.some.inj (Tryd.func8.symm.trans hfn)).symm
      exact ⟨by kernel_rfl, fun j t ht => by
        rw [Tryd.params8] at ht
        have hm : t ∈ [3, 2, 39] := by simpa using Array.mem_of_getElem? ht
        have hall : ([3, 2, 39].all fun u => !Tryd.prog.wantsStandIn u) = true := by kernel_rfl
        exact (show Tryd.prog.wantsStandIn t = false by simpa using List.all_eq_true.1 hall t hm)⟩)
    (by kernel_rfl)
#print axioms fnRollingDown_holds
end Go.Proofs.YtdcijhdjddiboaaDoor
