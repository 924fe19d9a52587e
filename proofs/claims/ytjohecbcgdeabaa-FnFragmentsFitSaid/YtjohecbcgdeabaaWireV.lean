/- For every response that can be read as data, the law FnWireSize returns true: the size that the package tells is the sum of its protobuf fields. No condition. -/
import Derived.Test.YtjohecbcgdeabaaWireU
import Derived.Test.YtjohecbcgdeabaaVOpen
import Derived.Test.YtjohecbcgdeabaaRows
namespace Go.Proofs.Ytjohecbcgdeabaa
set_option linter.unusedVariables false
set_option linter.unusedSimpArgs false
set_option linter.unnecessarySimpa false
open Go.RowKit Go.V Go.ChangeShapes Go.WideShapes Go.ChangeAt

theorem own : ownKnob Try.prog.godebug = none := by kernel_rfl
theorem laidOut : laidOutB Try.prog = true := by kernel_rfl

def KVd.cells (d : KVd) : List Value := [.string d.key, .string d.val, .int .i64 d.create, .int .i64 d.mod, .int .i64 d.ver, .int .i64 d.lease]
section
variable {H : Type} {enc : TypeId × Value → H} {w : World}
theorem opens_kv : Opens enc Try.prog w 32 KVd.cells (fun _ => True) :=
  (opens_struct Try.underlying32 (by kernel_rfl) (opensFs_cons (by kernel_rfl) (opens_string Try.underlying9) (opensFs_cons (by kernel_rfl) (opens_string Try.underlying9) (opensFs_cons (by kernel_rfl) (opens_int Try.underlying2) (opensFs_cons (by kernel_rfl) (opens_int Try.underlying2)
    (opensFs_cons (by kernel_rfl) (opens_int Try.underlying2) (opensFs_cons (by kernel_rfl) (opens_int Try.underlying2) (opensFs_nil _)))))))).map (fun p => ⟨p.1, p.2.1, p.2.2.1, p.2.2.2.1, p.2.2.2.2.1, p.2.2.2.2.2.1⟩) (fun _ => rfl) (fun _ _ => trivial)
theorem opens_ev : Opens enc Try.prog w 34 EVd.cells (fun _ => True) :=
  (opens_struct Try.underlying34 (by kernel_rfl) (opensFs_cons (by kernel_rfl) (opens_bool Try.underlying4) (opensFs_cons (by kernel_rfl) opens_kv (opensFs_cons (by kernel_rfl) (opens_bool Try.underlying4) (opensFs_cons (by kernel_rfl) opens_kv (opensFs_nil _)))))).map
    (fun p => ⟨p.1, p.2.1, p.2.2.1, p.2.2.2.1⟩) (fun _ => rfl) (fun _ _ => trivial)
theorem opens_evs : Opens enc Try.prog w 22 (fun r : Row EVd => [r.val]) (fun r => Soft w r.at' (r.list.flatMap EVd.cells)) :=
  (opens_slice Try.underlying22 opens_ev (fun _ => by kernel_rfl)).map id (fun _ => rfl) (fun _ h => h.2.2.1)
theorem opens_sent : Opens enc Try.prog w 24 (fun x : WSd × Option Addr × Nat => [.int .i64 x.1.id, .int .i64 x.1.rev, .int .i64 x.1.compact, .bool x.1.created, .bool x.1.canceled, .bool x.1.fragment, .string x.1.reason, .slice x.2.1 x.1.events.length x.2.2]) (fun x => Soft w x.2.1 (x.1.events.flatMap EVd.cells)) :=
  (opens_struct Try.underlying24 (by kernel_rfl) (opensFs_cons (by kernel_rfl) (opens_int Try.underlying2) (opensFs_cons (by kernel_rfl) (opens_int Try.underlying2) (opensFs_cons (by kernel_rfl) (opens_int Try.underlying2) (opensFs_cons (by kernel_rfl) (opens_bool Try.underlying4)
    (opensFs_cons (by kernel_rfl) (opens_bool Try.underlying4) (opensFs_cons (by kernel_rfl) (opens_bool Try.underlying4) (opensFs_cons (by kernel_rfl) (opens_string Try.underlying9) (opensFs_cons (by kernel_rfl) opens_evs (opensFs_nil _)))))))))).map
    (fun p => ⟨⟨p.1, p.2.1, p.2.2.1, p.2.2.2.1, p.2.2.2.2.1, p.2.2.2.2.2.1, p.2.2.2.2.2.2.1, p.2.2.2.2.2.2.2.1.list⟩, p.2.2.2.2.2.2.2.1.at', p.2.2.2.2.2.2.2.1.cap⟩) (fun _ => rfl) (fun _ h => h.2.2.2.2.2.2.2.1)
end
/-- AN ARGUMENT THAT IS A RESPONSE. -/
theorem open_sent {H : Type} {enc : TypeId × Value → H} {W : World} {v : Value} {d : DataW H} {p : List MemPlace} {b : Nat} {r : Reach} (h : DataW.Trod enc Try.prog W 0 (fun _ => true) true 24 v d p) (hv : Value.okWide Try.prog W r b 24 v) :
    ∃ (x : WSd) (s : Option Addr) (cap : Nat), v = .agg #[.int .i64 x.id, .int .i64 x.rev, .int .i64 x.compact, .bool x.created, .bool x.canceled, .bool x.fragment, .string x.reason, .slice s x.events.length cap] ∧ holds W (.arr s (x.events.flatMap EVd.cells)) := by
  obtain ⟨⟨x, s, cap⟩, h1, h2⟩ := opens_sent.one h
  refine ⟨x, s, cap, agg_of Try.underlying24 hv h1, Soft.arr h2 ?_⟩
  rintro ad rfl
  exact has_of Try.underlying24 hv (ts := [2, 2, 2, 4, 4, 4, 9, 22]) (by kernel_rfl) (i := 7) rfl Try.underlying22 (by rw [h1]; rfl)
theorem St.arr0 {W : World} {s : Option Addr} {xs : List Value} (h : holds W (.arr s xs)) : St [] W W [(false, .arr s xs)] := (St.init [] W).read (.arr s xs) h (by simp)

set_option maxRecDepth 100000 in
theorem fnWireSize_lifted (os : Os) (started : os.Started) (H : Type) (enc : TypeId × Value → H) :
    ReturnsInHanded {} Try.checked os 3 .any (Rows.fnWireSizeSpec.pre6 enc Try.prog Try.f3 Rows.fnWireSizeRow.domain false) (Rows.fnWireSizeSpec.post enc Try.prog Try.f3 false true false false) := by
  refine returnsInHanded_of_change_sized (C := Try.checked) own started (by kernel_rfl) Try.func3
    (ChangeSpec.witness6 (enc := enc) (C := Try.checked) false ⟨#[], #[.agg #[.int .i64 0, .int .i64 0, .int .i64 0, .bool false, .bool false, .bool false, .string ByteArray.empty, .slice none 0 0]], []⟩ 8 (by kernel_rfl) (by kernel_rfl) (by kernel_rfl) (by kernel_rfl)) ?_
  intro W base args ds gs before hval0 hW hcnd hsz0 _
  have hval : ∀ (j : Nat) t v, Try.f3.params[j]? = some t → args[j]? = some v → Value.okWide Try.prog W .any base t v := hval0
  have hW' := hW
  obtain ⟨p, q, hA0, hV, rfl, hfz, hnd⟩ := hW
  have hA : DataW.TrodAll enc Try.prog W 0 (fun _ => true) true Try.f3.params.toList args.toList ds p := hA0
  rw [Try.params3] at hA hval
  obtain ⟨v0, vs0, d0, ds0, p0, q0, hargs, rfl, rfl, h0, r0⟩ := trodAll_cons hA
  obtain ⟨rfl, rfl, rfl⟩ := trodAll_nil r0
  obtain rfl : args = #[v0] := by cases args; simp_all
  obtain ⟨rfl, rfl⟩ := trodVars_none hV
  have k0 := h0
  have lt0 : ∀ x ∈ p0, x.block < W.heap.size := by obtain ⟨m, hm⟩ := k0; exact DataW.trod_lt m _ _ _ hm
  obtain ⟨x, s, cap, rfl, hx⟩ := open_sent h0 (hval 0 24 v0 rfl rfl)
  clear hA0 hval0 hsz0
  refine (fnWireSize_calls x s cap W (St.arr0 hx)).mono fun e W' ⟨he, hst⟩ => ?_
  subst he
  have bel := hst.ext.below
  exact ⟨_, rfl, _, _, _, [], _, [], hW', trodAll_mk1 (shut_bool Try.underlying4 _), (trodAll_cons_mk (Below.trod laidOut (by kernel_rfl) (of_decide_eq_true (by kernel_rfl)) k0 bel lt0) trodAll_mk0), rfl, bel.frame _, fun h => by cases h⟩
theorem fnWireSize_over : Rows.fnWireSizeRow.holds Try.pinned (OpenSpec.ofChange Rows.fnWireSizeSpec) :=
  OpenClaim.holds_of_wide 3 Try.f3 rfl rfl rfl rfl rfl rfl rfl ⟨rfl, rfl, rfl, rfl, rfl⟩ rfl rfl rfl rfl rfl (by kernel_rfl) Try.func3 (by kernel_rfl)
    (of_decide_eq_true (by kernel_rfl)) (by unfold Func.isWrapper; first | (rw [if_pos (by decide +kernel)]; kernel_rfl) | (rw [if_neg (by decide +kernel)]; exact ⟨rfl, rfl⟩))
    (fun os started H enc _ => fnWireSize_lifted os started H enc)
theorem fnWireSize_holds : Rows.FnWireSizeSaid := fnWireSize_over
#print axioms fnWireSize_holds
end Go.Proofs.Ytjohecbcgdeabaa
