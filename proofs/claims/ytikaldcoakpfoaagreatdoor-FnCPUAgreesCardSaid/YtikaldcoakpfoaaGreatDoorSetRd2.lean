/- For every two lists of numbers, the law FnCPUAgrees returns true: both kinds of sets agree. The package-level variables that are read are tied to the program's text; no further condition. -/
import Derived.Test.YtikaldcoakpfoaaGreatDoorSetQ
import Derived.Test.YtikaldcoakpfoaaGreatDoorSetZ
import Derived.Test.YtikaldcoakpfoaaGreatDoorCards
import Derived.Test.YtikaldcoakpfoaaGreatDoorTie
namespace Go.Proofs.YtikaldcoakpfoaaGreatDoor
set_option linter.unusedVariables false
set_option linter.unusedSimpArgs false
set_option linter.unnecessarySimpa false
open Go.RowKit Go.V Go.ChangeShapes Go.WideShapes Go.ChangeAt

set_option maxRecDepth 100000 in
theorem fnCPUAgrees_lifted (os : Os) (started : os.Started) (H : Type) (enc : TypeId × Value → H) :
    ReturnsInHanded {} Tryz.checked os 4 .any (fun w args => (Rows.fnCPUAgreesSpec.pre enc Tryz.prog Tryz.f4 [] false w args ∧ laidMetH Tryz.prog laid6 w) ∧ sizedMet enc Tryz.prog Tryz.f4 (OpenSpec.ofChange Rows.fnCPUAgreesSpec) false w args) (Rows.fnCPUAgreesSpec.post enc Tryz.prog Tryz.f4 false true false false) := by
  refine returnsInHanded_of_change_and (C := Tryz.checked) (X := fun w _ => laidMetH Tryz.prog laid6 w) (fun _ _ _ hh h => h.of_heap hh) own started (by kernel_rfl) Tryz.func4
    (ChangeSpec.witness_shaped (enc := enc) (C := Tryz.checked) (os := os) (X := fun w _ => laidMetH Tryz.prog laid6 w) false (World.doorLaid Tryz.prog 4000 os) #[.slice none 0 0, .slice none 0 0] 8 rfl (World.shaped_of_RefB (by kernel_rfl) (by kernel_rfl)) (by kernel_rfl) (by kernel_rfl) (by kernel_rfl) (door_met os _)) ?_
  intro W base args ds gs before hval0 hW _ _ hL _
  have hval : ∀ (j : Nat) t v, Tryz.f4.params[j]? = some t → args[j]? = some v → Value.okWide Tryz.prog W .any base t v := hval0
  have hW' := hW
  obtain ⟨p, q, hA0, hV, rfl, hfz, hnd⟩ := hW
  have hA : DataW.TrodAll enc Tryz.prog W 0 (fun _ => true) true Tryz.f4.params.toList args.toList ds p := hA0
  rw [Tryz.params4] at hA hval
  obtain ⟨v0, vs0, d0, ds0, p0, q0, hargs, rfl, rfl, h0, r0⟩ := trodAll_cons hA
  obtain ⟨v1, vs1, d1, ds1, p1, q1, rfl, rfl, rfl, h1, r1⟩ := trodAll_cons r0
  obtain ⟨rfl, rfl, rfl⟩ := trodAll_nil r1
  obtain rfl : args = #[v0, v1] := by cases args; simp_all
  obtain ⟨rfl, rfl⟩ := trodVars_none hV
  have k0 := h0
  have lt0 : ∀ x ∈ p0, x.block < W.heap.size := by obtain ⟨m, hm⟩ := k0; exact DataW.trod_lt m _ _ _ hm
  have k1 := h1
  have lt1 : ∀ x ∈ p1, x.block < W.heap.size := by obtain ⟨m, hm⟩ := k1; exact DataW.trod_lt m _ _ _ hm
  obtain ⟨⟨sa, ca, la⟩, e0, hx0⟩ := opens_ints.one h0
  obtain rfl := slice_of Tryz.underlying22 (hval 0 22 v0 rfl rfl) e0
  obtain ⟨⟨sb, cb, lb⟩, e1, hx1⟩ := opens_ints.one h1
  obtain rfl := slice_of Tryz.underlying22 (hval 1 22 v1 rfl rfl) e1
  obtain ⟨hE, hT⟩ := env_of_laid hL
  have H0 : St [] W W [(false, soft sa (intsN la)), (false, soft sb (intsN lb))] := ((St.init [] W).soft hx1).soft hx0
  clear hA0 hval0
  refine (agrees_calls la lb sa sb _ ca _ cb (Lib.hid rfl) (Lib.hid rfl) W hE hT H0).mono fun e W' ⟨he, hst⟩ => ?_
  subst he
  have bel := hst.below
  exact ⟨_, rfl, _, _, _, [], _, [], hW', trodAll_mk1 (shut_bool Tryz.underlying4 _), (trodAll_cons_mk (Below.trod laidOut (by kernel_rfl) (of_decide_eq_true (by kernel_rfl)) k0 bel lt0) (trodAll_cons_mk (Below.trod laidOut (by kernel_rfl) (of_decide_eq_true (by kernel_rfl)) k1 bel lt1) trodAll_mk0)), rfl, bel.frame _, fun h => by cases h⟩
theorem fnCPUAgrees_over : Rows.fnCPUAgreesRow.holds Tryz.pinned (OpenSpec.ofChange Rows.fnCPUAgreesSpec) :=
  OpenClaim.holds_of_wide 4 Tryz.f4 rfl rfl rfl rfl rfl rfl rfl ⟨rfl, rfl, rfl, rfl, rfl⟩ rfl rfl rfl rfl rfl (by kernel_rfl) Tryz.func4 (by kernel_rfl)
    (of_decide_eq_true (by kernel_rfl)) (by unfold Func.isWrapper; first | (rw [if_pos (by decide +kernel)]; kernel_rfl) | (rw [if_neg (by decide +kernel)]; exact ⟨rfl, rfl⟩))
    (fun os started H enc _ => fnCPUAgrees_lifted os started H enc)
theorem fnCPUAgrees_said : Rows.FnCPUAgreesSaid := fnCPUAgrees_over
theorem fnCPUAgrees_holds : Rows.FnCPUAgreesCardSaid :=
  Claim7.holds_tied_plain_at .later [] [.data, .data, .data, .sentinel, .sentinel, .sentinel] true (true, "241082a76f4b3fb3edbecbc1305dbeb0634ccedf75bf4ca2a5fc441808adab68") true
    fnCPUAgrees_said (fun _ h => by cases h) (by kernel_rfl) (fun _ h => by cases h) fnCPUAgrees_row_tie rfl ⟨rfl, rfl⟩ (by kernel_rfl) rfl
    (fun f fn hf hfn => by
      obtain rfl : f = 4 := Option.some.inj ((show Tryz.prog.funcNamed "pub-vicegerent/laws.FnCPUAgrees" = some 4 by kernel_rfl).symm.trans hf) |>.symm
      obtain rfl : fn = Tryz.f4 := (Option.some.inj (Tryz.func4.symm.trans hfn)).symm
      exact ⟨by kernel_rfl, fun j t ht => by
        rw [Tryz.params4] at ht
        have hm : t ∈ [22, 22] := by simpa using Array.mem_of_getElem? ht
        have hall : ([22, 22].all fun u => !Tryz.prog.wantsStandIn u) = true := by kernel_rfl
        exact (show Tryz.prog.wantsStandIn t = false by simpa using List.all_eq_true.1 hall t hm)⟩)
    (by kernel_rfl)
#print axioms fnCPUAgrees_holds
end Go.Proofs.YtikaldcoakpfoaaGreatDoor
