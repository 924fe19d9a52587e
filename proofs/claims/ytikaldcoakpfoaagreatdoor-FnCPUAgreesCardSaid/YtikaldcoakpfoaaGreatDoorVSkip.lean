import Derived.Test.YtikaldcoakpfoaaGreatDoorVMore
namespace Go.V
set_option linter.unusedVariables false
set_option linter.unusedSimpArgs false
set_option linter.unnecessarySimpa false
open Go Go.RowKit
section
variable {P : Program} {ops : Array Oper} {Q : Exit → Act → World → Prop} {S : World → Prop} {ds : List Nat}
theorem wanted_no {o : Oper} {tmps : Array Value} {j : Nat} {want b : Bool} {d : Nat} (hg : o.guard = some (j, want)) (hi : (ops[j]?).bind (·.dst) = some d) (ht : tmps[d]? = some (.bool b)) (hb : b = !want) : Region.wanted o (yielded ops tmps) = false := by
  subst hb
  unfold Region.wanted yielded
  rw [hg]
  simp only [hi, Option.bind_some, ht]
  cases want <;> rfl
/-- An operation whose guard says no: each part by itself. -/
theorem plan_p_no {i : Nat} {is : List Nat} {r : Plan} {a : Act} {w : World} {o : Oper} {j : Nat} {want b : Bool} {d : Nat} (hi : ops[i]? = some o) (hg : o.guard = some (j, want)) (hd : (ops[j]?).bind (·.dst) = some d) (ht : a.tmps[d]? = some (.bool b)) (hb : b = !want)
    (h : wpPlan P ops Q S ds (.p is r) (a.put o.dst undef) w) : wpPlan P ops Q S ds (.p (i :: is) r) a w := plan_p_skip hi (wanted_no hg hd ht hb) h
theorem plan_q_no {i : Nat} {is : List Nat} {r : Plan} {a : Act} {w : World} {o : Oper} {j : Nat} {want b : Bool} {d : Nat} (hi : ops[i]? = some o) (hg : o.guard = some (j, want)) (hd : (ops[j]?).bind (·.dst) = some d) (ht : a.tmps[d]? = some (.bool b)) (hb : b = !want)
    (h : wpPlan P ops Q S ds (.q is r) (a.put o.dst undef) w) : wpPlan P ops Q S ds (.q (i :: is) r) a w := plan_q_skip hi (wanted_no hg hd ht hb) h
theorem plan_e_no {i : Nat} {r : Plan} {a : Act} {w : World} {o : Oper} {j : Nat} {want b : Bool} {d : Nat} (hi : ops[i]? = some o) (hg : o.guard = some (j, want)) (hd : (ops[j]?).bind (·.dst) = some d) (ht : a.tmps[d]? = some (.bool b)) (hb : b = !want)
    (h : wpPlan P ops Q S ds r (a.put o.dst undef) w) : wpPlan P ops Q S ds (.e i r) a w := by
  refine ⟨⟨o, hi, ?_⟩⟩
  rw [if_neg (by rw [wanted_no hg hd ht hb]; decide)]
  exact h.out
theorem plan_e_skip {i : Nat} {r : Plan} {a : Act} {w : World} {o : Oper} (hi : ops[i]? = some o) (hw : Region.wanted o (yielded ops a.tmps) = false) (h : wpPlan P ops Q S ds r (a.put o.dst undef) w) : wpPlan P ops Q S ds (.e i r) a w := by
  refine ⟨⟨o, hi, ?_⟩⟩
  rw [if_neg (by rw [hw]; decide)]
  exact h.out
/-- A region that draws its order, where some of what is known may turn ahead of its reads: L1 is what stays. -/
theorem wp_region_plan_sub {id : Nat} {a : Act} {w : World} (plan : Plan) (ds : List Nat) (hm : P.follows .mixedOrders = true) (hok : (Region.noSelect ops && planOk ops ds plan (Array.replicate ops.size false) && Nat.ble (cnt plan) ops.size) = true)
    (hQ : ∀ c a (d : Option Tmp) v w, Q (.panic c) (a.put d v) w → Q (.panic c) a w) {S0 : List Nat} {w0 : World} {L L1 : List Ent} (H : St S0 w0 w L) (hsub : L1.Sublist L)
    (h : ∀ (X : Type) (_ : Nonempty X) (f : X → World) (w' : World), (∀ x, CellsOf (f x) L1) → (∀ w, (∀ e ∈ L1, holds w e.2) → ∃ x, w = f x) → St S0 w0 w' L → wpPlan P ops Q (fun w => ∃ x, w = f x) ds plan a w') :
    (Code.region id ops true).wp P Q a w := by
  simp only [Bool.and_eq_true] at hok
  obtain ⟨⟨hs, hok⟩, hc⟩ := hok
  have H' := H.drew
  have H1 := H'.sublist hsub
  refine wp_region_any hm (wpAny_of_D (S := fun w => ∃ x : { w : World // ∀ e ∈ L1, holds w e.2 }, w = x.val) (ds := ds) _ _ _ _ ?_)
  refine plan_sound (fun j o cs b => Region.noSelect_spec hs j o cs b) hQ plan _ a w.drew hok ?_ (fun _ => ⟨⟨w.drew, H1.all⟩, rfl⟩) ?_ _ (Nat.le_of_ble_eq_true hc)
  · intro j oj _ hl
    simp [Array.getD_eq_getD_getElem?, Array.getElem?_replicate] at hl
    split at hl <;> simp at hl
  · exact h { w : World // ∀ e ∈ L1, holds w e.2 } ⟨⟨w.drew, H1.all⟩⟩ Subtype.val w.drew (fun x => cells_of x.val L1 x.property) (fun w hw => ⟨⟨w, hw⟩, rfl⟩) H' |>.out
end
end Go.V
