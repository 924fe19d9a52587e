import Derived.Test.YtdcijhdjddiboaaDoorVerA
-- MORE
namespace Go.Proofs.YtdcijhdjddiboaaDoor
set_option linter.unusedVariables false
set_option linter.unusedSimpArgs false
set_option linter.unnecessarySimpa false
open Go.RowKit Go.V

theorem verDown_calls (x y : Vr) (hb : 0 ≤ x.b ∧ x.b ≤ 9999) (w : World) :
    Calls Tryd.prog 35 #[x.val, y.val] w fun e w' => e = .returned (.bool (vdown x y)) ∧ Ext [] w w' := by
  obtain ⟨x1, x2, x3⟩ := x
  obtain ⟨y1, y2, y3⟩ := y
  simp only at hb
  obtain ⟨hb1, hb2⟩ := hb
  have H := St.init [] w
  go_enter Tryd.func35, Tryd.ntmps35
  go_wp2_with (first
    | ((first
        | (refine loud_ rfl ?_; refine wpList_plain rfl (fun K hK => ?_); (first | (refine op_box _ _ rfl H (fun b w' H1 => hK _ _ ?_)) | (refine op_alloc _ rfl (zero_of _ _ rfl) H (fun b w' H1 => hK _ _ ?_)) | (refine op_store _ _ _ rfl rfl rfl H (by repeat (first | exact Split.here _ _ | apply Split.there)) (by kernel_rfl) (by kernel_rfl) (by kernel_rfl) (fun w' H1 => hK _ _ ?_)) | (refine op_buildSlice_all _ _ _ rfl (by first | exact elem22 | exact elem39 | exact elem76 | exact elem154) (by kernel_rfl) (by kernel_rfl) (by kernel_rfl) H (fun b w' H1 => hK _ _ ?_))); clear hK K; replace H := H1; clear H1)); (try clear hc); (try simp only [nrm, splice, Value.cells, Nat.reduceAdd, Act.eval, Act.put] at H); have hc := H.cells; simp only [CellsOf, KnCells, knc, Nat.reduceAdd] at hc))
  all_goals
    go_ret
    exact ⟨ret_bool (by simp [vdown, vprev, veq, *]), H.ext⟩
theorem allowed_calls (p : Nat) (x : Vr) (hb : 0 ≤ x.b ∧ x.b ≤ 9999) (w : World) (h : w.heap[p]? = some (x.obj 62)) :
    Calls Tryd.prog 52 #[.pointer (some ⟨p, 0, none⟩)] w fun e w' => ∃ q, e = .returned (.pointer (some ⟨q, 0, none⟩)) ∧ St [] w w' [(true, .is q ((vprev x).obj 62))] := by
  obtain ⟨x1, x2, x3⟩ := x
  simp only at hb
  obtain ⟨hb1, hb2⟩ := hb
  have H := (St.init [] w).read (.is p _) h (by simp)
  clear h
  have hc := H.cells; simp only [CellsOf, KnCells, knc, Nat.reduceAdd] at hc
  go_enter Tryd.func52, Tryd.ntmps52
  go_wp2_with (first
    | ((first
        | (refine loud_ rfl ?_; refine wpList_plain rfl (fun K hK => ?_); (first | (refine op_box _ _ rfl H (fun b w' H1 => hK _ _ ?_)) | (refine op_alloc _ rfl (zero_of _ _ rfl) H (fun b w' H1 => hK _ _ ?_)) | (refine op_store _ _ _ rfl rfl rfl H (by repeat (first | exact Split.here _ _ | apply Split.there)) (by kernel_rfl) (by kernel_rfl) (by kernel_rfl) (fun w' H1 => hK _ _ ?_)) | (refine op_buildSlice_all _ _ _ rfl (by first | exact elem22 | exact elem39 | exact elem76 | exact elem154) (by kernel_rfl) (by kernel_rfl) (by kernel_rfl) H (fun b w' H1 => hK _ _ ?_))); clear hK K; replace H := H1; clear H1)); (try clear hc); (try simp only [nrm, splice, Value.cells, Nat.reduceAdd, Act.eval, Act.put] at H); have hc := H.cells; simp only [CellsOf, KnCells, knc, Nat.reduceAdd] at hc))
  (try simp only [Act.put, slt])
  refine wp_region_plan (.p [0, 1, 2] (.q [3] (.p [4, 5, 6] (.q [7] (.p [8, 9] (.e 10 (.p [11] .done))))))) [10] (by kernel_rfl) (by kernel_rfl) (fun _ _ d _ _ h => by cases d <;> exact h) H ?_
  clear H
  (try clear hc)
  intro X nX fX wd hcf hS H
  simp only [CellsOf, KnCells, knc, Nat.reduceAdd] at hcf
  have hc := H.cells
  simp only [CellsOf, KnCells, knc, Nat.reduceAdd] at hc
  iterate 3 (refine plan_p (o := ⟨_, _, _, _, _, _⟩) rfl (fun N hN => ?_); go_big_quiet_step (fail); refine wpQuiet_nil (hN _ ?_); clear hN N)
  refine plan_p0 ?_
  iterate 1 (refine plan_q (o := ⟨_, _, _, _, _, _⟩) rfl (fun N hN => ?_); go_big_quiet_step (fail); refine wpQuiet_nil (hN _ ?_); clear hN N)
  refine plan_q0 ?_
  iterate 3 (refine plan_p (o := ⟨_, _, _, _, _, _⟩) rfl (fun N hN => ?_); go_big_quiet_step (fail); refine wpQuiet_nil (hN _ ?_); clear hN N)
  refine plan_p0 ?_
  iterate 1 (refine plan_q (o := ⟨_, _, _, _, _, _⟩) rfl (fun N hN => ?_); go_big_quiet_step (fail); refine wpQuiet_nil (hN _ ?_); clear hN N)
  refine plan_q0 ?_
  iterate 2 (refine plan_p (o := ⟨_, _, _, _, _, _⟩) rfl (fun N hN => ?_); go_big_quiet_step (fail); refine wpQuiet_nil (hN _ ?_); clear hN N)
  refine plan_p0 ?_
  refine plan_e (o := ⟨_, _, _, _, _, _⟩) rfl rfl (fun K hK => ?_)
  (first | (refine op_box _ _ rfl H (fun b w' H1 => ?_); replace H := H1; clear H1) | (refine op_alloc _ rfl (zero_of _ _ rfl) H (fun b w' H1 => ?_); replace H := H1; clear H1) | (refine op_store _ _ _ rfl rfl rfl H (by repeat (first | exact Split.here _ _ | apply Split.there)) (by kernel_rfl) (by kernel_rfl) (by kernel_rfl) (fun w' H1 => ?_); replace H := H1; clear H1) | (refine op_buildSlice_all _ _ _ rfl (by first | exact elem22 | exact elem39 | exact elem76 | exact elem154) (by kernel_rfl) (by kernel_rfl) (by kernel_rfl) H (fun b w' H1 => ?_); replace H := H1; clear H1)); (try clear hc); (try simp only [nrm, splice, Value.cells, Nat.reduceAdd, Act.eval, Act.put] at H); have hc := H.cells; simp only [CellsOf, KnCells, knc, Nat.reduceAdd] at hc; refine hK _ _ (fun h => (h (by decide)).elim) ?_; clear hK K; (try simp only [Act.put, slt])
  iterate 1 (refine plan_p (o := ⟨_, _, _, _, _, _⟩) rfl (fun N hN => ?_); go_big_quiet_step (fail); refine wpQuiet_nil (hN _ ?_); clear hN N)
  refine plan_p0 ?_
  refine plan_done ?_
  go_wp2_with (first
    | ((first
        | (refine loud_ rfl ?_; refine wpList_plain rfl (fun K hK => ?_); (first | (refine op_box _ _ rfl H (fun b w' H1 => hK _ _ ?_)) | (refine op_alloc _ rfl (zero_of _ _ rfl) H (fun b w' H1 => hK _ _ ?_)) | (refine op_store _ _ _ rfl rfl rfl H (by repeat (first | exact Split.here _ _ | apply Split.there)) (by kernel_rfl) (by kernel_rfl) (by kernel_rfl) (fun w' H1 => hK _ _ ?_)) | (refine op_buildSlice_all _ _ _ rfl (by first | exact elem22 | exact elem39 | exact elem76 | exact elem154) (by kernel_rfl) (by kernel_rfl) (by kernel_rfl) H (fun b w' H1 => hK _ _ ?_))); clear hK K; replace H := H1; clear H1)); (try clear hc); (try simp only [nrm, splice, Value.cells, Nat.reduceAdd, Act.eval, Act.put] at H); have hc := H.cells; simp only [CellsOf, KnCells, knc, Nat.reduceAdd] at hc))
  go_ret
  exact ⟨_, rfl, H.sel (by repeat (first | exact Sel.nil _ | (apply Sel.cons; focus (repeat (first | exact Split.here _ _ | apply Split.there)))))⟩
theorem isDown_calls (p q : Nat) (x y : Vr) (hb : 0 ≤ x.b ∧ x.b ≤ 9999) (w : World) (h : w.heap[p]? = some (x.obj 62)) (h' : w.heap[q]? = some (y.obj 62)) :
    Calls Tryd.prog 57 #[.pointer (some ⟨p, 0, none⟩), .pointer (some ⟨q, 0, none⟩)] w fun e w' => e = .returned (.bool (vdown x y)) ∧ Ext [] w w' := by
  obtain ⟨x1, x2, x3⟩ := x
  obtain ⟨y1, y2, y3⟩ := y
  have H := ((St.init [] w).read (.is p _) h (by simp)).read (.is q _) h' (by simp)
  clear h h'
  have hc := H.cells; simp only [CellsOf, KnCells, knc, Nat.reduceAdd] at hc
  go_enter Tryd.func57, Tryd.ntmps57
  go_wp2_with (first
    | ((first
        | (refine loud_ rfl ?_; refine wpList_plain rfl (fun K hK => ?_); (first | (refine op_box _ _ rfl H (fun b w' H1 => hK _ _ ?_)) | (refine op_alloc _ rfl (zero_of _ _ rfl) H (fun b w' H1 => hK _ _ ?_)) | (refine op_store _ _ _ rfl rfl rfl H (by repeat (first | exact Split.here _ _ | apply Split.there)) (by kernel_rfl) (by kernel_rfl) (by kernel_rfl) (fun w' H1 => hK _ _ ?_)) | (refine op_buildSlice_all _ _ _ rfl (by first | exact elem22 | exact elem39 | exact elem76 | exact elem154) (by kernel_rfl) (by kernel_rfl) (by kernel_rfl) H (fun b w' H1 => hK _ _ ?_))); clear hK K; replace H := H1; clear H1)); (try clear hc); (try simp only [nrm, splice, Value.cells, Nat.reduceAdd, Act.eval, Act.put] at H); have hc := H.cells; simp only [CellsOf, KnCells, knc, Nat.reduceAdd] at hc))
  (try simp only [Act.put, slt])
  refine wp_region_plan (.p [0, 1] (.q [2] (.p [3] (.e 4 (.p [5] (.e 6 (.e 7 (.p [8] .done)))))))) [7] (by kernel_rfl) (by kernel_rfl) (fun _ _ d _ _ h => by cases d <;> exact h) H ?_
  clear H
  (try clear hc)
  intro X nX fX wd hcf hS H
  simp only [CellsOf, KnCells, knc, Nat.reduceAdd] at hcf
  have hc := H.cells
  simp only [CellsOf, KnCells, knc, Nat.reduceAdd] at hc
  iterate 2 (refine plan_p (o := ⟨_, _, _, _, _, _⟩) rfl (fun N hN => ?_); go_big_quiet_step (fail); refine wpQuiet_nil (hN _ ?_); clear hN N)
  refine plan_p0 ?_
  iterate 1 (refine plan_q (o := ⟨_, _, _, _, _, _⟩) rfl (fun N hN => ?_); go_big_quiet_step (fail); refine wpQuiet_nil (hN _ ?_); clear hN N)
  refine plan_q0 ?_
  iterate 1 (refine plan_p (o := ⟨_, _, _, _, _, _⟩) rfl (fun N hN => ?_); go_big_quiet_step (fail); refine wpQuiet_nil (hN _ ?_); clear hN N)
  refine plan_p0 ?_
  refine plan_e (o := ⟨_, _, _, _, _, _⟩) rfl rfl (fun K hK => ?_)
  first
    | (go_step; refine hK _ _ (fun _ _ => hS _ (H.sublist (by repeat (first | exact List.Sublist.refl _ | apply List.Sublist.cons))).all) ?_; clear hK K; (try simp only [Act.put, slt]))
    | ((first | (go_step; refine Calls.mono (allowed_calls p ⟨x1, x2, x3⟩ hb _ (H.obj (by repeat (first | exact Split.here _ _ | apply Split.there)))) ?_; rintro e w' ⟨qq, rfl, H'⟩; replace H := H.merge (by first | exact Strikes.nil _ | (repeat (first | exact Strikes.nil _ | (apply Strikes.cons; focus (repeat (first | exact Split.here _ _ | apply Split.there)))))) H' rfl; clear H') | (go_step; refine Calls.mono (equal_calls ⟨y1, y2, y3⟩ (vprev ⟨x1, x2, x3⟩) _) ?_; rintro e w' ⟨rfl, H'⟩; replace H := H.of_ext H'; clear H') | (refine op_box _ _ rfl H (fun b w' H1 => ?_); replace H := H1; clear H1) | (refine op_alloc _ rfl (zero_of _ _ rfl) H (fun b w' H1 => ?_); replace H := H1; clear H1) | (refine op_store _ _ _ rfl rfl rfl H (by repeat (first | exact Split.here _ _ | apply Split.there)) (by kernel_rfl) (by kernel_rfl) (by kernel_rfl) (fun w' H1 => ?_); replace H := H1; clear H1) | (refine op_buildSlice_all _ _ _ rfl (by first | exact elem22 | exact elem39 | exact elem76 | exact elem154) (by kernel_rfl) (by kernel_rfl) (by kernel_rfl) H (fun b w' H1 => ?_); replace H := H1; clear H1)); (try clear hc); (try simp only [nrm, splice, Value.cells, Nat.reduceAdd, Act.eval, Act.put] at H); have hc := H.cells; simp only [CellsOf, KnCells, knc, Nat.reduceAdd] at hc; refine hK _ _ (fun _ _ => hS _ (H.sublist (by repeat (first | exact List.Sublist.refl _ | apply List.Sublist.cons))).all) ?_; clear hK K; (try simp only [Act.put, slt]))
  iterate 1 (refine plan_p (o := ⟨_, _, _, _, _, _⟩) rfl (fun N hN => ?_); go_big_quiet_step (fail); refine wpQuiet_nil (hN _ ?_); clear hN N)
  refine plan_p0 ?_
  refine plan_e (o := ⟨_, _, _, _, _, _⟩) rfl rfl (fun K hK => ?_)
  first
    | (go_step; refine hK _ _ (fun _ _ => hS _ (H.sublist (by repeat (first | exact List.Sublist.refl _ | apply List.Sublist.cons))).all) ?_; clear hK K; (try simp only [Act.put, slt]))
    | ((first | (go_step; refine Calls.mono (allowed_calls p ⟨x1, x2, x3⟩ hb _ (H.obj (by repeat (first | exact Split.here _ _ | apply Split.there)))) ?_; rintro e w' ⟨qq, rfl, H'⟩; replace H := H.merge (by first | exact Strikes.nil _ | (repeat (first | exact Strikes.nil _ | (apply Strikes.cons; focus (repeat (first | exact Split.here _ _ | apply Split.there)))))) H' rfl; clear H') | (go_step; refine Calls.mono (equal_calls ⟨y1, y2, y3⟩ (vprev ⟨x1, x2, x3⟩) _) ?_; rintro e w' ⟨rfl, H'⟩; replace H := H.of_ext H'; clear H') | (refine op_box _ _ rfl H (fun b w' H1 => ?_); replace H := H1; clear H1) | (refine op_alloc _ rfl (zero_of _ _ rfl) H (fun b w' H1 => ?_); replace H := H1; clear H1) | (refine op_store _ _ _ rfl rfl rfl H (by repeat (first | exact Split.here _ _ | apply Split.there)) (by kernel_rfl) (by kernel_rfl) (by kernel_rfl) (fun w' H1 => ?_); replace H := H1; clear H1) | (refine op_buildSlice_all _ _ _ rfl (by first | exact elem22 | exact elem39 | exact elem76 | exact elem154) (by kernel_rfl) (by kernel_rfl) (by kernel_rfl) H (fun b w' H1 => ?_); replace H := H1; clear H1)); (try clear hc); (try simp only [nrm, splice, Value.cells, Nat.reduceAdd, Act.eval, Act.put] at H); have hc := H.cells; simp only [CellsOf, KnCells, knc, Nat.reduceAdd] at hc; refine hK _ _ (fun _ _ => hS _ (H.sublist (by repeat (first | exact List.Sublist.refl _ | apply List.Sublist.cons))).all) ?_; clear hK K; (try simp only [Act.put, slt]))
  refine plan_e (o := ⟨_, _, _, _, _, _⟩) rfl rfl (fun K hK => ?_)
  first
    | (go_step; refine hK _ _ (fun h => (h (by decide)).elim) ?_; clear hK K; (try simp only [Act.put, slt]))
    | ((first | (go_step; refine Calls.mono (allowed_calls p ⟨x1, x2, x3⟩ hb _ (H.obj (by repeat (first | exact Split.here _ _ | apply Split.there)))) ?_; rintro e w' ⟨qq, rfl, H'⟩; replace H := H.merge (by first | exact Strikes.nil _ | (repeat (first | exact Strikes.nil _ | (apply Strikes.cons; focus (repeat (first | exact Split.here _ _ | apply Split.there)))))) H' rfl; clear H') | (go_step; refine Calls.mono (equal_calls ⟨y1, y2, y3⟩ (vprev ⟨x1, x2, x3⟩) _) ?_; rintro e w' ⟨rfl, H'⟩; replace H := H.of_ext H'; clear H') | (refine op_box _ _ rfl H (fun b w' H1 => ?_); replace H := H1; clear H1) | (refine op_alloc _ rfl (zero_of _ _ rfl) H (fun b w' H1 => ?_); replace H := H1; clear H1) | (refine op_store _ _ _ rfl rfl rfl H (by repeat (first | exact Split.here _ _ | apply Split.there)) (by kernel_rfl) (by kernel_rfl) (by kernel_rfl) (fun w' H1 => ?_); replace H := H1; clear H1) | (refine op_buildSlice_all _ _ _ rfl (by first | exact elem22 | exact elem39 | exact elem76 | exact elem154) (by kernel_rfl) (by kernel_rfl) (by kernel_rfl) H (fun b w' H1 => ?_); replace H := H1; clear H1)); (try clear hc); (try simp only [nrm, splice, Value.cells, Nat.reduceAdd, Act.eval, Act.put] at H); have hc := H.cells; simp only [CellsOf, KnCells, knc, Nat.reduceAdd] at hc; refine hK _ _ (fun h => (h (by decide)).elim) ?_; clear hK K; (try simp only [Act.put, slt]))
  iterate 1 (refine plan_p (o := ⟨_, _, _, _, _, _⟩) rfl (fun N hN => ?_); go_big_quiet_step (fail); refine wpQuiet_nil (hN _ ?_); clear hN N)
  refine plan_p0 ?_
  refine plan_done ?_
  go_wp2_with (first
    | ((first
        | (refine loud_ rfl ?_; refine wpList_plain rfl (fun K hK => ?_); (first | (refine op_box _ _ rfl H (fun b w' H1 => hK _ _ ?_)) | (refine op_alloc _ rfl (zero_of _ _ rfl) H (fun b w' H1 => hK _ _ ?_)) | (refine op_store _ _ _ rfl rfl rfl H (by repeat (first | exact Split.here _ _ | apply Split.there)) (by kernel_rfl) (by kernel_rfl) (by kernel_rfl) (fun w' H1 => hK _ _ ?_)) | (refine op_buildSlice_all _ _ _ rfl (by first | exact elem22 | exact elem39 | exact elem76 | exact elem154) (by kernel_rfl) (by kernel_rfl) (by kernel_rfl) H (fun b w' H1 => hK _ _ ?_))); clear hK K; replace H := H1; clear H1)); (try clear hc); (try simp only [nrm, splice, Value.cells, Nat.reduceAdd, Act.eval, Act.put] at H); have hc := H.cells; simp only [CellsOf, KnCells, knc, Nat.reduceAdd] at hc))
  go_ret
  exact ⟨rfl, H.ext⟩
theorem must_calls (p : Nat) (w : World) :
    Calls Tryd.prog 49 #[.pointer (some ⟨p, 0, none⟩), .nilIface] w fun e w' => e = .returned (.pointer (some ⟨p, 0, none⟩)) ∧ Ext [] w w' := by
  have H := St.init [] w
  go_enter Tryd.func49, Tryd.ntmps49
  go_wp2_with (first
    | ((first
        | (refine loud_ rfl ?_; refine wpList_plain rfl (fun K hK => ?_); (first | (refine op_box _ _ rfl H (fun b w' H1 => hK _ _ ?_)) | (refine op_alloc _ rfl (zero_of _ _ rfl) H (fun b w' H1 => hK _ _ ?_)) | (refine op_store _ _ _ rfl rfl rfl H (by repeat (first | exact Split.here _ _ | apply Split.there)) (by kernel_rfl) (by kernel_rfl) (by kernel_rfl) (fun w' H1 => hK _ _ ?_)) | (refine op_buildSlice_all _ _ _ rfl (by first | exact elem22 | exact elem39 | exact elem76 | exact elem154) (by kernel_rfl) (by kernel_rfl) (by kernel_rfl) H (fun b w' H1 => hK _ _ ?_))); clear hK K; replace H := H1; clear H1)); (try clear hc); (try simp only [nrm, splice, Value.cells, Nat.reduceAdd, Act.eval, Act.put] at H); have hc := H.cells; simp only [CellsOf, KnCells, knc, Nat.reduceAdd] at hc))
  go_ret
  exact ⟨rfl, H.ext⟩

def vup (f t : Vr) : Bool := decide (f.a = t.a) && vless (vbase f) (vbase t)
def vchange (f t : Vr) : Bool := vdown (vbase f) (vbase t) || vup f t
theorem verDown_at (x y : Vr) (d : Bool) (hd : Hid (vdown x y = d)) (hb : 0 ≤ x.b ∧ x.b ≤ 9999) (w : World) :
    Calls Tryd.prog 35 #[x.val, y.val] w fun e w' => e = .returned (.bool d) ∧ Ext [] w w' := by
  obtain rfl := hd.out
  exact verDown_calls x y hb w
theorem isDown_at (p q : Nat) (x y : Vr) (d : Bool) (hd : Hid (vdown x y = d)) (hb : 0 ≤ x.b ∧ x.b ≤ 9999) (w : World) (h : w.heap[p]? = some (x.obj 62)) (h' : w.heap[q]? = some (y.obj 62)) :
    Calls Tryd.prog 57 #[.pointer (some ⟨p, 0, none⟩), .pointer (some ⟨q, 0, none⟩)] w fun e w' => e = .returned (.bool d) ∧ Ext [] w w' := by
  obtain rfl := hd.out
  exact isDown_calls p q x y hb w h h'
theorem verBase_at (a b c : Int) (w : World) : Calls Tryd.prog 16 #[(⟨a, b, c⟩ : Vr).val] w fun e w' => e = .returned (⟨a, b, 0⟩ : Vr).val ∧ Ext [] w w' := verBase_calls ⟨a, b, c⟩ w
set_option maxHeartbeats 1000000 in
set_option maxRecDepth 4000 in
theorem validChange_calls (x y : Vr) (hb : 0 ≤ x.b ∧ x.b ≤ 9999) (w : World) :
    Calls Tryd.prog 36 #[x.val, y.val] w fun e w' => e = .returned (.bool (vchange x y)) ∧ Ext [] w w' := by
  obtain ⟨x1, x2, x3⟩ := x
  obtain ⟨y1, y2, y3⟩ := y
  have H := St.init [] w
  have hb' : 0 ≤ x2 ∧ x2 ≤ 9999 := hb
  have hb := Lib.hid hb'
  by_cases h1 : vdown ⟨x1, x2, 0⟩ ⟨y1, y2, 0⟩ = true
  · have e : vchange ⟨x1, x2, x3⟩ ⟨y1, y2, y3⟩ = true := by show (vdown ⟨x1, x2, 0⟩ ⟨y1, y2, 0⟩ || _) = true; rw [h1]; rfl
    rw [e]
    have hd := Lib.hid h1
    clear h1 e hb'
    go_enter Tryd.func36, Tryd.ntmps36
    go_wp2_with (first
    | ((first
        | (refine loud_ rfl ?_; refine wpList_plain rfl (fun K hK => ?_); (first | (refine op_box _ _ rfl H (fun b w' H1 => hK _ _ ?_)) | (refine op_alloc _ rfl (zero_of _ _ rfl) H (fun b w' H1 => hK _ _ ?_)) | (refine op_store _ _ _ rfl rfl rfl H (by repeat (first | exact Split.here _ _ | apply Split.there)) (by kernel_rfl) (by kernel_rfl) (by kernel_rfl) (fun w' H1 => hK _ _ ?_)) | (refine op_buildSlice_all _ _ _ rfl (by first | exact elem22 | exact elem39 | exact elem76 | exact elem154) (by kernel_rfl) (by kernel_rfl) (by kernel_rfl) H (fun b w' H1 => hK _ _ ?_))); clear hK K; replace H := H1; clear H1)); (try clear hc); (try simp only [nrm, splice, Value.cells, Nat.reduceAdd, Act.eval, Act.put] at H); have hc := H.cells; simp only [CellsOf, KnCells, knc, Nat.reduceAdd] at hc))
    (try simp only [Act.put, slt])
    refine wp_region_plan (.q [0, 2] (.e 1 (.e 3 (.e 4 (.e 5 .done))))) [3, 4, 5] (by kernel_rfl) (by kernel_rfl) (fun _ _ d _ _ h => by cases d <;> exact h) H ?_
    clear H
    (try clear hc)
    intro X nX fX wd hcf hS H
    simp only [CellsOf, KnCells, knc, Nat.reduceAdd] at hcf
    have hc := H.cells
    simp only [CellsOf, KnCells, knc, Nat.reduceAdd] at hc
    iterate 2 (refine plan_q (o := ⟨_, _, _, _, _, _⟩) rfl (fun N hN => ?_); go_big_quiet_step (fail); refine wpQuiet_nil (hN _ ?_); clear hN N)
    refine plan_q0 ?_
    refine plan_e (o := ⟨_, _, _, _, _, _⟩) rfl rfl (fun K hK => ?_)
    (first | (go_step; refine Calls.mono (verBase_at x1 x2 x3 _) ?_; rintro e w' ⟨rfl, H'⟩; replace H := H.of_ext H'; clear H') | (go_step; refine Calls.mono (verBase_at y1 y2 y3 _) ?_; rintro e w' ⟨rfl, H'⟩; replace H := H.of_ext H'; clear H') | (refine op_box _ _ rfl H (fun b w' H1 => ?_); replace H := H1; clear H1) | (refine op_alloc _ rfl (zero_of _ _ rfl) H (fun b w' H1 => ?_); replace H := H1; clear H1) | (refine op_store _ _ _ rfl rfl rfl H (by repeat (first | exact Split.here _ _ | apply Split.there)) (by kernel_rfl) (by kernel_rfl) (by kernel_rfl) (fun w' H1 => ?_); replace H := H1; clear H1) | (refine op_buildSlice_all _ _ _ rfl (by first | exact elem22 | exact elem39 | exact elem76 | exact elem154) (by kernel_rfl) (by kernel_rfl) (by kernel_rfl) H (fun b w' H1 => ?_); replace H := H1; clear H1)); (try clear hc); (try simp only [nrm, splice, Value.cells, Nat.reduceAdd, Act.eval, Act.put] at H); have hc := H.cells; simp only [CellsOf, KnCells, knc, Nat.reduceAdd] at hc; refine hK _ _ (fun _ _ => hS _ (H.sublist (by repeat (first | exact List.Sublist.refl _ | apply List.Sublist.cons))).all) ?_; clear hK K; (try simp only [Act.put, slt])
    refine plan_e (o := ⟨_, _, _, _, _, _⟩) rfl rfl (fun K hK => ?_)
    (first | (go_step; refine Calls.mono (verBase_at x1 x2 x3 _) ?_; rintro e w' ⟨rfl, H'⟩; replace H := H.of_ext H'; clear H') | (go_step; refine Calls.mono (verBase_at y1 y2 y3 _) ?_; rintro e w' ⟨rfl, H'⟩; replace H := H.of_ext H'; clear H') | (refine op_box _ _ rfl H (fun b w' H1 => ?_); replace H := H1; clear H1) | (refine op_alloc _ rfl (zero_of _ _ rfl) H (fun b w' H1 => ?_); replace H := H1; clear H1) | (refine op_store _ _ _ rfl rfl rfl H (by repeat (first | exact Split.here _ _ | apply Split.there)) (by kernel_rfl) (by kernel_rfl) (by kernel_rfl) (fun w' H1 => ?_); replace H := H1; clear H1) | (refine op_buildSlice_all _ _ _ rfl (by first | exact elem22 | exact elem39 | exact elem76 | exact elem154) (by kernel_rfl) (by kernel_rfl) (by kernel_rfl) H (fun b w' H1 => ?_); replace H := H1; clear H1)); (try clear hc); (try simp only [nrm, splice, Value.cells, Nat.reduceAdd, Act.eval, Act.put] at H); have hc := H.cells; simp only [CellsOf, KnCells, knc, Nat.reduceAdd] at hc; refine hK _ _ (fun h => (h (by decide)).elim) ?_; clear hK K; (try simp only [Act.put, slt])
    refine plan_e (o := ⟨_, _, _, _, _, _⟩) rfl rfl (fun K hK => ?_)
    (first | (go_step; refine Calls.mono (verBase_at x1 x2 x3 _) ?_; rintro e w' ⟨rfl, H'⟩; replace H := H.of_ext H'; clear H') | (go_step; refine Calls.mono (verBase_at y1 y2 y3 _) ?_; rintro e w' ⟨rfl, H'⟩; replace H := H.of_ext H'; clear H') | (refine op_box _ _ rfl H (fun b w' H1 => ?_); replace H := H1; clear H1) | (refine op_alloc _ rfl (zero_of _ _ rfl) H (fun b w' H1 => ?_); replace H := H1; clear H1) | (refine op_store _ _ _ rfl rfl rfl H (by repeat (first | exact Split.here _ _ | apply Split.there)) (by kernel_rfl) (by kernel_rfl) (by kernel_rfl) (fun w' H1 => ?_); replace H := H1; clear H1) | (refine op_buildSlice_all _ _ _ rfl (by first | exact elem22 | exact elem39 | exact elem76 | exact elem154) (by kernel_rfl) (by kernel_rfl) (by kernel_rfl) H (fun b w' H1 => ?_); replace H := H1; clear H1)); (try clear hc); (try simp only [nrm, splice, Value.cells, Nat.reduceAdd, Act.eval, Act.put] at H); have hc := H.cells; simp only [CellsOf, KnCells, knc, Nat.reduceAdd] at hc; refine hK _ _ (fun h => (h (by decide)).elim) ?_; clear hK K; (try simp only [Act.put, slt])
    refine plan_e (o := ⟨_, _, _, _, _, _⟩) rfl rfl (fun K hK => ?_)
    (first | (go_step; refine Calls.mono (verBase_at x1 x2 x3 _) ?_; rintro e w' ⟨rfl, H'⟩; replace H := H.of_ext H'; clear H') | (go_step; refine Calls.mono (verBase_at y1 y2 y3 _) ?_; rintro e w' ⟨rfl, H'⟩; replace H := H.of_ext H'; clear H') | (refine op_box _ _ rfl H (fun b w' H1 => ?_); replace H := H1; clear H1) | (refine op_alloc _ rfl (zero_of _ _ rfl) H (fun b w' H1 => ?_); replace H := H1; clear H1) | (refine op_store _ _ _ rfl rfl rfl H (by repeat (first | exact Split.here _ _ | apply Split.there)) (by kernel_rfl) (by kernel_rfl) (by kernel_rfl) (fun w' H1 => ?_); replace H := H1; clear H1) | (refine op_buildSlice_all _ _ _ rfl (by first | exact elem22 | exact elem39 | exact elem76 | exact elem154) (by kernel_rfl) (by kernel_rfl) (by kernel_rfl) H (fun b w' H1 => ?_); replace H := H1; clear H1)); (try clear hc); (try simp only [nrm, splice, Value.cells, Nat.reduceAdd, Act.eval, Act.put] at H); have hc := H.cells; simp only [CellsOf, KnCells, knc, Nat.reduceAdd] at hc; refine hK _ _ (fun h => (h (by decide)).elim) ?_; clear hK K; (try simp only [Act.put, slt])
    refine plan_done ?_
    go_wp2_with (first
    | go_skip
    | ((first
        | (go_at_call 35; refine Calls.mono (verDown_at ⟨x1, x2, 0⟩ ⟨y1, y2, 0⟩ _ hd hb.out _) ?_; rintro e w' ⟨rfl, H'⟩; replace H := H.of_ext H'; clear H')
        | (go_at_call 17; refine Calls.mono (verLess_calls ⟨y1, x2, 0⟩ ⟨y1, y2, 0⟩ _) ?_; rintro e w' ⟨rfl, H'⟩; replace H := H.of_ext H'; clear H')
        | (refine loud_ rfl ?_; refine wpList_plain rfl (fun K hK => ?_); (first | (refine op_box _ _ rfl H (fun b w' H1 => hK _ _ ?_)) | (refine op_alloc _ rfl (zero_of _ _ rfl) H (fun b w' H1 => hK _ _ ?_)) | (refine op_store _ _ _ rfl rfl rfl H (by repeat (first | exact Split.here _ _ | apply Split.there)) (by kernel_rfl) (by kernel_rfl) (by kernel_rfl) (fun w' H1 => hK _ _ ?_)) | (refine op_buildSlice_all _ _ _ rfl (by first | exact elem22 | exact elem39 | exact elem76 | exact elem154) (by kernel_rfl) (by kernel_rfl) (by kernel_rfl) H (fun b w' H1 => hK _ _ ?_))); clear hK K; replace H := H1; clear H1)); (try clear hc); (try simp only [nrm, splice, Value.cells, Nat.reduceAdd, Act.eval, Act.put] at H); have hc := H.cells; simp only [CellsOf, KnCells, knc, Nat.reduceAdd] at hc))
    go_wp2_with (first
    | ((first
        | (refine loud_ rfl ?_; refine wpList_plain rfl (fun K hK => ?_); (first | (refine op_box _ _ rfl H (fun b w' H1 => hK _ _ ?_)) | (refine op_alloc _ rfl (zero_of _ _ rfl) H (fun b w' H1 => hK _ _ ?_)) | (refine op_store _ _ _ rfl rfl rfl H (by repeat (first | exact Split.here _ _ | apply Split.there)) (by kernel_rfl) (by kernel_rfl) (by kernel_rfl) (fun w' H1 => hK _ _ ?_)) | (refine op_buildSlice_all _ _ _ rfl (by first | exact elem22 | exact elem39 | exact elem76 | exact elem154) (by kernel_rfl) (by kernel_rfl) (by kernel_rfl) H (fun b w' H1 => hK _ _ ?_))); clear hK K; replace H := H1; clear H1)); (try clear hc); (try simp only [nrm, splice, Value.cells, Nat.reduceAdd, Act.eval, Act.put] at H); have hc := H.cells; simp only [CellsOf, KnCells, knc, Nat.reduceAdd] at hc))
    go_ret
    exact ⟨rfl, H.ext⟩
  · have h1' : vdown ⟨x1, x2, 0⟩ ⟨y1, y2, 0⟩ = false := by simpa using h1
    by_cases h2 : x1 = y1
    · have e : vchange ⟨x1, x2, x3⟩ ⟨y1, y2, y3⟩ = vless ⟨y1, x2, 0⟩ ⟨y1, y2, 0⟩ := by show (vdown ⟨x1, x2, 0⟩ ⟨y1, y2, 0⟩ || (decide (x1 = y1) && vless ⟨x1, x2, 0⟩ ⟨y1, y2, 0⟩)) = _; rw [h1', h2]; simp
      rw [e]
      subst h2
      have hd := Lib.hid h1'
      clear h1 h1' e hb'
      go_enter Tryd.func36, Tryd.ntmps36
      go_wp2_with (first
    | ((first
        | (refine loud_ rfl ?_; refine wpList_plain rfl (fun K hK => ?_); (first | (refine op_box _ _ rfl H (fun b w' H1 => hK _ _ ?_)) | (refine op_alloc _ rfl (zero_of _ _ rfl) H (fun b w' H1 => hK _ _ ?_)) | (refine op_store _ _ _ rfl rfl rfl H (by repeat (first | exact Split.here _ _ | apply Split.there)) (by kernel_rfl) (by kernel_rfl) (by kernel_rfl) (fun w' H1 => hK _ _ ?_)) | (refine op_buildSlice_all _ _ _ rfl (by first | exact elem22 | exact elem39 | exact elem76 | exact elem154) (by kernel_rfl) (by kernel_rfl) (by kernel_rfl) H (fun b w' H1 => hK _ _ ?_))); clear hK K; replace H := H1; clear H1)); (try clear hc); (try simp only [nrm, splice, Value.cells, Nat.reduceAdd, Act.eval, Act.put] at H); have hc := H.cells; simp only [CellsOf, KnCells, knc, Nat.reduceAdd] at hc))
      (try simp only [Act.put, slt])
      refine wp_region_plan (.q [0, 2] (.e 1 (.e 3 (.e 4 (.e 5 .done))))) [3, 4, 5] (by kernel_rfl) (by kernel_rfl) (fun _ _ d _ _ h => by cases d <;> exact h) H ?_
      clear H
      (try clear hc)
      intro X nX fX wd hcf hS H
      simp only [CellsOf, KnCells, knc, Nat.reduceAdd] at hcf
      have hc := H.cells
      simp only [CellsOf, KnCells, knc, Nat.reduceAdd] at hc
      iterate 2 (refine plan_q (o := ⟨_, _, _, _, _, _⟩) rfl (fun N hN => ?_); go_big_quiet_step (fail); refine wpQuiet_nil (hN _ ?_); clear hN N)
      refine plan_q0 ?_
      refine plan_e (o := ⟨_, _, _, _, _, _⟩) rfl rfl (fun K hK => ?_)
      (first | (go_step; refine Calls.mono (verBase_at x1 x2 x3 _) ?_; rintro e w' ⟨rfl, H'⟩; replace H := H.of_ext H'; clear H') | (go_step; refine Calls.mono (verBase_at x1 y2 y3 _) ?_; rintro e w' ⟨rfl, H'⟩; replace H := H.of_ext H'; clear H') | (refine op_box _ _ rfl H (fun b w' H1 => ?_); replace H := H1; clear H1) | (refine op_alloc _ rfl (zero_of _ _ rfl) H (fun b w' H1 => ?_); replace H := H1; clear H1) | (refine op_store _ _ _ rfl rfl rfl H (by repeat (first | exact Split.here _ _ | apply Split.there)) (by kernel_rfl) (by kernel_rfl) (by kernel_rfl) (fun w' H1 => ?_); replace H := H1; clear H1) | (refine op_buildSlice_all _ _ _ rfl (by first | exact elem22 | exact elem39 | exact elem76 | exact elem154) (by kernel_rfl) (by kernel_rfl) (by kernel_rfl) H (fun b w' H1 => ?_); replace H := H1; clear H1)); (try clear hc); (try simp only [nrm, splice, Value.cells, Nat.reduceAdd, Act.eval, Act.put] at H); have hc := H.cells; simp only [CellsOf, KnCells, knc, Nat.reduceAdd] at hc; refine hK _ _ (fun _ _ => hS _ (H.sublist (by repeat (first | exact List.Sublist.refl _ | apply List.Sublist.cons))).all) ?_; clear hK K; (try simp only [Act.put, slt])
      refine plan_e (o := ⟨_, _, _, _, _, _⟩) rfl rfl (fun K hK => ?_)
      (first | (go_step; refine Calls.mono (verBase_at x1 x2 x3 _) ?_; rintro e w' ⟨rfl, H'⟩; replace H := H.of_ext H'; clear H') | (go_step; refine Calls.mono (verBase_at x1 y2 y3 _) ?_; rintro e w' ⟨rfl, H'⟩; replace H := H.of_ext H'; clear H') | (refine op_box _ _ rfl H (fun b w' H1 => ?_); replace H := H1; clear H1) | (refine op_alloc _ rfl (zero_of _ _ rfl) H (fun b w' H1 => ?_); replace H := H1; clear H1) | (refine op_store _ _ _ rfl rfl rfl H (by repeat (first | exact Split.here _ _ | apply Split.there)) (by kernel_rfl) (by kernel_rfl) (by kernel_rfl) (fun w' H1 => ?_); replace H := H1; clear H1) | (refine op_buildSlice_all _ _ _ rfl (by first | exact elem22 | exact elem39 | exact elem76 | exact elem154) (by kernel_rfl) (by kernel_rfl) (by kernel_rfl) H (fun b w' H1 => ?_); replace H := H1; clear H1)); (try clear hc); (try simp only [nrm, splice, Value.cells, Nat.reduceAdd, Act.eval, Act.put] at H); have hc := H.cells; simp only [CellsOf, KnCells, knc, Nat.reduceAdd] at hc; refine hK _ _ (fun h => (h (by decide)).elim) ?_; clear hK K; (try simp only [Act.put, slt])
      refine plan_e (o := ⟨_, _, _, _, _, _⟩) rfl rfl (fun K hK => ?_)
      (first | (go_step; refine Calls.mono (verBase_at x1 x2 x3 _) ?_; rintro e w' ⟨rfl, H'⟩; replace H := H.of_ext H'; clear H') | (go_step; refine Calls.mono (verBase_at x1 y2 y3 _) ?_; rintro e w' ⟨rfl, H'⟩; replace H := H.of_ext H'; clear H') | (refine op_box _ _ rfl H (fun b w' H1 => ?_); replace H := H1; clear H1) | (refine op_alloc _ rfl (zero_of _ _ rfl) H (fun b w' H1 => ?_); replace H := H1; clear H1) | (refine op_store _ _ _ rfl rfl rfl H (by repeat (first | exact Split.here _ _ | apply Split.there)) (by kernel_rfl) (by kernel_rfl) (by kernel_rfl) (fun w' H1 => ?_); replace H := H1; clear H1) | (refine op_buildSlice_all _ _ _ rfl (by first | exact elem22 | exact elem39 | exact elem76 | exact elem154) (by kernel_rfl) (by kernel_rfl) (by kernel_rfl) H (fun b w' H1 => ?_); replace H := H1; clear H1)); (try clear hc); (try simp only [nrm, splice, Value.cells, Nat.reduceAdd, Act.eval, Act.put] at H); have hc := H.cells; simp only [CellsOf, KnCells, knc, Nat.reduceAdd] at hc; refine hK _ _ (fun h => (h (by decide)).elim) ?_; clear hK K; (try simp only [Act.put, slt])
      refine plan_e (o := ⟨_, _, _, _, _, _⟩) rfl rfl (fun K hK => ?_)
      (first | (go_step; refine Calls.mono (verBase_at x1 x2 x3 _) ?_; rintro e w' ⟨rfl, H'⟩; replace H := H.of_ext H'; clear H') | (go_step; refine Calls.mono (verBase_at x1 y2 y3 _) ?_; rintro e w' ⟨rfl, H'⟩; replace H := H.of_ext H'; clear H') | (refine op_box _ _ rfl H (fun b w' H1 => ?_); replace H := H1; clear H1) | (refine op_alloc _ rfl (zero_of _ _ rfl) H (fun b w' H1 => ?_); replace H := H1; clear H1) | (refine op_store _ _ _ rfl rfl rfl H (by repeat (first | exact Split.here _ _ | apply Split.there)) (by kernel_rfl) (by kernel_rfl) (by kernel_rfl) (fun w' H1 => ?_); replace H := H1; clear H1) | (refine op_buildSlice_all _ _ _ rfl (by first | exact elem22 | exact elem39 | exact elem76 | exact elem154) (by kernel_rfl) (by kernel_rfl) (by kernel_rfl) H (fun b w' H1 => ?_); replace H := H1; clear H1)); (try clear hc); (try simp only [nrm, splice, Value.cells, Nat.reduceAdd, Act.eval, Act.put] at H); have hc := H.cells; simp only [CellsOf, KnCells, knc, Nat.reduceAdd] at hc; refine hK _ _ (fun h => (h (by decide)).elim) ?_; clear hK K; (try simp only [Act.put, slt])
      refine plan_done ?_
      go_wp2_with (first
    | go_skip
    | ((first
        | (go_at_call 35; refine Calls.mono (verDown_at ⟨x1, x2, 0⟩ ⟨x1, y2, 0⟩ _ hd hb.out _) ?_; rintro e w' ⟨rfl, H'⟩; replace H := H.of_ext H'; clear H')
        | (go_at_call 17; refine Calls.mono (verLess_calls ⟨x1, x2, 0⟩ ⟨x1, y2, 0⟩ _) ?_; rintro e w' ⟨rfl, H'⟩; replace H := H.of_ext H'; clear H')
        | (refine loud_ rfl ?_; refine wpList_plain rfl (fun K hK => ?_); (first | (refine op_box _ _ rfl H (fun b w' H1 => hK _ _ ?_)) | (refine op_alloc _ rfl (zero_of _ _ rfl) H (fun b w' H1 => hK _ _ ?_)) | (refine op_store _ _ _ rfl rfl rfl H (by repeat (first | exact Split.here _ _ | apply Split.there)) (by kernel_rfl) (by kernel_rfl) (by kernel_rfl) (fun w' H1 => hK _ _ ?_)) | (refine op_buildSlice_all _ _ _ rfl (by first | exact elem22 | exact elem39 | exact elem76 | exact elem154) (by kernel_rfl) (by kernel_rfl) (by kernel_rfl) H (fun b w' H1 => hK _ _ ?_))); clear hK K; replace H := H1; clear H1)); (try clear hc); (try simp only [nrm, splice, Value.cells, Nat.reduceAdd, Act.eval, Act.put] at H); have hc := H.cells; simp only [CellsOf, KnCells, knc, Nat.reduceAdd] at hc))
      go_ret
      exact ⟨rfl, H.ext⟩
    · have e : vchange ⟨x1, x2, x3⟩ ⟨y1, y2, y3⟩ = false := by show (vdown ⟨x1, x2, 0⟩ ⟨y1, y2, 0⟩ || (decide (x1 = y1) && vless ⟨x1, x2, 0⟩ ⟨y1, y2, 0⟩)) = _; rw [h1']; simp [h2]
      rw [e]
      have hgd2 : (x1 == y1) = false := by simpa using h2
      have hd := Lib.hid h1'
      clear h1 h1' e hb' h2
      go_enter Tryd.func36, Tryd.ntmps36
      go_wp2_with (first
    | ((first
        | (refine loud_ rfl ?_; refine wpList_plain rfl (fun K hK => ?_); (first | (refine op_box _ _ rfl H (fun b w' H1 => hK _ _ ?_)) | (refine op_alloc _ rfl (zero_of _ _ rfl) H (fun b w' H1 => hK _ _ ?_)) | (refine op_store _ _ _ rfl rfl rfl H (by repeat (first | exact Split.here _ _ | apply Split.there)) (by kernel_rfl) (by kernel_rfl) (by kernel_rfl) (fun w' H1 => hK _ _ ?_)) | (refine op_buildSlice_all _ _ _ rfl (by first | exact elem22 | exact elem39 | exact elem76 | exact elem154) (by kernel_rfl) (by kernel_rfl) (by kernel_rfl) H (fun b w' H1 => hK _ _ ?_))); clear hK K; replace H := H1; clear H1)); (try clear hc); (try simp only [nrm, splice, Value.cells, Nat.reduceAdd, Act.eval, Act.put] at H); have hc := H.cells; simp only [CellsOf, KnCells, knc, Nat.reduceAdd] at hc))
      (try simp only [Act.put, slt])
      refine wp_region_plan (.q [0, 2] (.e 1 (.e 3 (.e 4 (.e 5 .done))))) [3, 4, 5] (by kernel_rfl) (by kernel_rfl) (fun _ _ d _ _ h => by cases d <;> exact h) H ?_
      clear H
      (try clear hc)
      intro X nX fX wd hcf hS H
      simp only [CellsOf, KnCells, knc, Nat.reduceAdd] at hcf
      have hc := H.cells
      simp only [CellsOf, KnCells, knc, Nat.reduceAdd] at hc
      iterate 2 (refine plan_q (o := ⟨_, _, _, _, _, _⟩) rfl (fun N hN => ?_); go_big_quiet_step (fail); refine wpQuiet_nil (hN _ ?_); clear hN N)
      refine plan_q0 ?_
      refine plan_e (o := ⟨_, _, _, _, _, _⟩) rfl rfl (fun K hK => ?_)
      (first | (go_step; refine Calls.mono (verBase_at x1 x2 x3 _) ?_; rintro e w' ⟨rfl, H'⟩; replace H := H.of_ext H'; clear H') | (go_step; refine Calls.mono (verBase_at y1 y2 y3 _) ?_; rintro e w' ⟨rfl, H'⟩; replace H := H.of_ext H'; clear H') | (refine op_box _ _ rfl H (fun b w' H1 => ?_); replace H := H1; clear H1) | (refine op_alloc _ rfl (zero_of _ _ rfl) H (fun b w' H1 => ?_); replace H := H1; clear H1) | (refine op_store _ _ _ rfl rfl rfl H (by repeat (first | exact Split.here _ _ | apply Split.there)) (by kernel_rfl) (by kernel_rfl) (by kernel_rfl) (fun w' H1 => ?_); replace H := H1; clear H1) | (refine op_buildSlice_all _ _ _ rfl (by first | exact elem22 | exact elem39 | exact elem76 | exact elem154) (by kernel_rfl) (by kernel_rfl) (by kernel_rfl) H (fun b w' H1 => ?_); replace H := H1; clear H1)); (try clear hc); (try simp only [nrm, splice, Value.cells, Nat.reduceAdd, Act.eval, Act.put] at H); have hc := H.cells; simp only [CellsOf, KnCells, knc, Nat.reduceAdd] at hc; refine hK _ _ (fun _ _ => hS _ (H.sublist (by repeat (first | exact List.Sublist.refl _ | apply List.Sublist.cons))).all) ?_; clear hK K; (try simp only [Act.put, slt])
      refine plan_e (o := ⟨_, _, _, _, _, _⟩) rfl rfl (fun K hK => ?_)
      (first | (go_step; refine Calls.mono (verBase_at x1 x2 x3 _) ?_; rintro e w' ⟨rfl, H'⟩; replace H := H.of_ext H'; clear H') | (go_step; refine Calls.mono (verBase_at y1 y2 y3 _) ?_; rintro e w' ⟨rfl, H'⟩; replace H := H.of_ext H'; clear H') | (refine op_box _ _ rfl H (fun b w' H1 => ?_); replace H := H1; clear H1) | (refine op_alloc _ rfl (zero_of _ _ rfl) H (fun b w' H1 => ?_); replace H := H1; clear H1) | (refine op_store _ _ _ rfl rfl rfl H (by repeat (first | exact Split.here _ _ | apply Split.there)) (by kernel_rfl) (by kernel_rfl) (by kernel_rfl) (fun w' H1 => ?_); replace H := H1; clear H1) | (refine op_buildSlice_all _ _ _ rfl (by first | exact elem22 | exact elem39 | exact elem76 | exact elem154) (by kernel_rfl) (by kernel_rfl) (by kernel_rfl) H (fun b w' H1 => ?_); replace H := H1; clear H1)); (try clear hc); (try simp only [nrm, splice, Value.cells, Nat.reduceAdd, Act.eval, Act.put] at H); have hc := H.cells; simp only [CellsOf, KnCells, knc, Nat.reduceAdd] at hc; refine hK _ _ (fun h => (h (by decide)).elim) ?_; clear hK K; (try simp only [Act.put, slt])
      refine plan_e (o := ⟨_, _, _, _, _, _⟩) rfl rfl (fun K hK => ?_)
      (first | (go_step; refine Calls.mono (verBase_at x1 x2 x3 _) ?_; rintro e w' ⟨rfl, H'⟩; replace H := H.of_ext H'; clear H') | (go_step; refine Calls.mono (verBase_at y1 y2 y3 _) ?_; rintro e w' ⟨rfl, H'⟩; replace H := H.of_ext H'; clear H') | (refine op_box _ _ rfl H (fun b w' H1 => ?_); replace H := H1; clear H1) | (refine op_alloc _ rfl (zero_of _ _ rfl) H (fun b w' H1 => ?_); replace H := H1; clear H1) | (refine op_store _ _ _ rfl rfl rfl H (by repeat (first | exact Split.here _ _ | apply Split.there)) (by kernel_rfl) (by kernel_rfl) (by kernel_rfl) (fun w' H1 => ?_); replace H := H1; clear H1) | (refine op_buildSlice_all _ _ _ rfl (by first | exact elem22 | exact elem39 | exact elem76 | exact elem154) (by kernel_rfl) (by kernel_rfl) (by kernel_rfl) H (fun b w' H1 => ?_); replace H := H1; clear H1)); (try clear hc); (try simp only [nrm, splice, Value.cells, Nat.reduceAdd, Act.eval, Act.put] at H); have hc := H.cells; simp only [CellsOf, KnCells, knc, Nat.reduceAdd] at hc; refine hK _ _ (fun h => (h (by decide)).elim) ?_; clear hK K; (try simp only [Act.put, slt])
      refine plan_e (o := ⟨_, _, _, _, _, _⟩) rfl rfl (fun K hK => ?_)
      (first | (go_step; refine Calls.mono (verBase_at x1 x2 x3 _) ?_; rintro e w' ⟨rfl, H'⟩; replace H := H.of_ext H'; clear H') | (go_step; refine Calls.mono (verBase_at y1 y2 y3 _) ?_; rintro e w' ⟨rfl, H'⟩; replace H := H.of_ext H'; clear H') | (refine op_box _ _ rfl H (fun b w' H1 => ?_); replace H := H1; clear H1) | (refine op_alloc _ rfl (zero_of _ _ rfl) H (fun b w' H1 => ?_); replace H := H1; clear H1) | (refine op_store _ _ _ rfl rfl rfl H (by repeat (first | exact Split.here _ _ | apply Split.there)) (by kernel_rfl) (by kernel_rfl) (by kernel_rfl) (fun w' H1 => ?_); replace H := H1; clear H1) | (refine op_buildSlice_all _ _ _ rfl (by first | exact elem22 | exact elem39 | exact elem76 | exact elem154) (by kernel_rfl) (by kernel_rfl) (by kernel_rfl) H (fun b w' H1 => ?_); replace H := H1; clear H1)); (try clear hc); (try simp only [nrm, splice, Value.cells, Nat.reduceAdd, Act.eval, Act.put] at H); have hc := H.cells; simp only [CellsOf, KnCells, knc, Nat.reduceAdd] at hc; refine hK _ _ (fun h => (h (by decide)).elim) ?_; clear hK K; (try simp only [Act.put, slt])
      refine plan_done ?_
      go_wp2_with (first
    | go_skip
    | ((first
        | (go_at_call 35; refine Calls.mono (verDown_at ⟨x1, x2, 0⟩ ⟨y1, y2, 0⟩ _ hd hb.out _) ?_; rintro e w' ⟨rfl, H'⟩; replace H := H.of_ext H'; clear H')
        | (go_at_call 17; refine Calls.mono (verLess_calls ⟨y1, x2, 0⟩ ⟨y1, y2, 0⟩ _) ?_; rintro e w' ⟨rfl, H'⟩; replace H := H.of_ext H'; clear H')
        | (refine loud_ rfl ?_; refine wpList_plain rfl (fun K hK => ?_); (first | (refine op_box _ _ rfl H (fun b w' H1 => hK _ _ ?_)) | (refine op_alloc _ rfl (zero_of _ _ rfl) H (fun b w' H1 => hK _ _ ?_)) | (refine op_store _ _ _ rfl rfl rfl H (by repeat (first | exact Split.here _ _ | apply Split.there)) (by kernel_rfl) (by kernel_rfl) (by kernel_rfl) (fun w' H1 => hK _ _ ?_)) | (refine op_buildSlice_all _ _ _ rfl (by first | exact elem22 | exact elem39 | exact elem76 | exact elem154) (by kernel_rfl) (by kernel_rfl) (by kernel_rfl) H (fun b w' H1 => hK _ _ ?_))); clear hK K; replace H := H1; clear H1)); (try clear hc); (try simp only [nrm, splice, Value.cells, Nat.reduceAdd, Act.eval, Act.put] at H); have hc := H.cells; simp only [CellsOf, KnCells, knc, Nat.reduceAdd] at hc))
      go_ret
      exact ⟨rfl, H.ext⟩
end Go.Proofs.YtdcijhdjddiboaaDoor
