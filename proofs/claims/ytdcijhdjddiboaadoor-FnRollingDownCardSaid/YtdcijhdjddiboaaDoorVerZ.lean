import Derived.Test.YtdcijhdjddiboaaDoorVerX
import Derived.Test.YtdcijhdjddiboaaDoorVSkip
-- MORE
namespace Go.Proofs.YtdcijhdjddiboaaDoor
set_option linter.unusedVariables false
set_option linter.unusedSimpArgs false
set_option linter.unnecessarySimpa false
open Go.RowKit Go.V

set_option maxRecDepth 8000 in
theorem mCancel_no (d : VD) (hhd : d.hd = true) (hdn : d.dn = false) (p g : Nat) (o : Vo) (cx : Value) (S : List Nat) (w : World) (H : St S w w [(false, .is p (man g)), (true, .is g (guard d o))]) :
    Calls Tryd.prog 39 #[.pointer (some ⟨p, 0, none⟩), cx] w fun e w' => e = .returned (.iface 75 (.string errNoJob)) ∧ St S w w' [(true, .is g (guard d o))] := by
  have hmeLinearizableReadNotify : ∀ (w : World), (method 256 45 (.pointer (some ⟨g, 0, none⟩)) "LinearizableReadNotify").run Tryd.prog w = .ok (108, .pointer (some ⟨g, 0, none⟩)) w := fun w => by kernel_rfl
  have hnaLinearizableReadNotify : ∀ (w : World), (nilAhead 256 45 (.pointer (some ⟨g, 0, none⟩)) "LinearizableReadNotify").run Tryd.prog w = .ok (some false) w := fun w => by kernel_rfl
  have hmeGetDowngradeInfo : ∀ (w : World), (method 256 45 (.pointer (some ⟨g, 0, none⟩)) "GetDowngradeInfo").run Tryd.prog w = .ok (105, .pointer (some ⟨g, 0, none⟩)) w := fun w => by kernel_rfl
  have hnaGetDowngradeInfo : ∀ (w : World), (nilAhead 256 45 (.pointer (some ⟨g, 0, none⟩)) "GetDowngradeInfo").run Tryd.prog w = .ok (some false) w := fun w => by kernel_rfl
  have hmeDowngradeCancel : ∀ (w : World), (method 256 45 (.pointer (some ⟨g, 0, none⟩)) "DowngradeCancel").run Tryd.prog w = .ok (102, .pointer (some ⟨g, 0, none⟩)) w := fun w => by kernel_rfl
  have hnaDowngradeCancel : ∀ (w : World), (nilAhead 256 45 (.pointer (some ⟨g, 0, none⟩)) "DowngradeCancel").run Tryd.prog w = .ok (some false) w := fun w => by kernel_rfl
  obtain ⟨cl, st, tg, dn, hd, at', n, cap⟩ := d
  simp only at hhd hdn
  subst hhd hdn
  have hc := H.cells; simp only [CellsOf, KnCells, knc, Nat.reduceAdd] at hc
  go_enter Tryd.func39, Tryd.ntmps39
  repeat' (first | (go_big_may; (first
    | go_skip
    | ((first
        | (go_at_call 108; refine Calls.mono (gNotify g _ _) ?_; rintro e w' ⟨rfl, H'⟩; replace H := H.of_ext H'; clear H')
        | (go_at_call 105; refine Calls.mono (gInfo_ok g _ _ rfl _ (H.obj (by repeat (first | exact Split.here _ _ | apply Split.there)))) ?_; rintro e w' ⟨qi, rfl, H'⟩; replace H := H.merge (by first | exact Strikes.nil _ | (repeat (first | exact Strikes.nil _ | (apply Strikes.cons; focus (repeat (first | exact Split.here _ _ | apply Split.there)))))) H' rfl; clear H')
        | (refine loud_ rfl ?_; refine wpList_plain rfl (fun K hK => ?_); (first | (refine op_box _ _ rfl H (fun b w' H1 => hK _ _ ?_)) | (refine op_alloc _ rfl (zero_of _ _ rfl) H (fun b w' H1 => hK _ _ ?_)) | (refine op_store _ _ _ rfl rfl rfl H (by repeat (first | exact Split.here _ _ | apply Split.there)) (by kernel_rfl) (by kernel_rfl) (by kernel_rfl) (fun w' H1 => hK _ _ ?_)) | (refine op_buildSlice_all _ _ _ rfl (by first | exact elem22 | exact elem39 | exact elem76 | exact elem154) (by kernel_rfl) (by kernel_rfl) (by kernel_rfl) H (fun b w' H1 => hK _ _ ?_))); clear hK K; replace H := H1; clear H1)); (try clear hc); (try simp only [nrm, splice, Value.cells, Nat.reduceAdd, Act.eval, Act.put] at H); have hc := H.cells; simp only [CellsOf, KnCells, knc, Nat.reduceAdd] at hc))) | go_values | go_skip | go_guarded | go_step | go_upon | go_back | dsimp only)
  go_ret
  exact ⟨rfl, H.sel (by repeat (first | exact Sel.nil _ | (apply Sel.cons; focus (repeat (first | exact Split.here _ _ | apply Split.there)))))⟩
set_option maxRecDepth 8000 in
theorem mCancel_ok (d : VD) (hhd : d.hd = true) (hdn : d.dn = true) (p g : Nat) (o : Vo) (cx : Value) (S : List Nat) (w : World) (H : St S w w [(false, .is p (man g)), (true, .is g (guard d o))]) :
    Calls Tryd.prog 39 #[.pointer (some ⟨p, 0, none⟩), cx] w fun e w' => e = .returned .nilIface ∧ St S w w' [(true, .is g (guard d { o with canc := true }))] := by
  have hmeLinearizableReadNotify : ∀ (w : World), (method 256 45 (.pointer (some ⟨g, 0, none⟩)) "LinearizableReadNotify").run Tryd.prog w = .ok (108, .pointer (some ⟨g, 0, none⟩)) w := fun w => by kernel_rfl
  have hnaLinearizableReadNotify : ∀ (w : World), (nilAhead 256 45 (.pointer (some ⟨g, 0, none⟩)) "LinearizableReadNotify").run Tryd.prog w = .ok (some false) w := fun w => by kernel_rfl
  have hmeGetDowngradeInfo : ∀ (w : World), (method 256 45 (.pointer (some ⟨g, 0, none⟩)) "GetDowngradeInfo").run Tryd.prog w = .ok (105, .pointer (some ⟨g, 0, none⟩)) w := fun w => by kernel_rfl
  have hnaGetDowngradeInfo : ∀ (w : World), (nilAhead 256 45 (.pointer (some ⟨g, 0, none⟩)) "GetDowngradeInfo").run Tryd.prog w = .ok (some false) w := fun w => by kernel_rfl
  have hmeDowngradeCancel : ∀ (w : World), (method 256 45 (.pointer (some ⟨g, 0, none⟩)) "DowngradeCancel").run Tryd.prog w = .ok (102, .pointer (some ⟨g, 0, none⟩)) w := fun w => by kernel_rfl
  have hnaDowngradeCancel : ∀ (w : World), (nilAhead 256 45 (.pointer (some ⟨g, 0, none⟩)) "DowngradeCancel").run Tryd.prog w = .ok (some false) w := fun w => by kernel_rfl
  obtain ⟨cl, st, tg, dn, hd, at', n, cap⟩ := d
  simp only at hhd hdn
  subst hhd hdn
  have hc := H.cells; simp only [CellsOf, KnCells, knc, Nat.reduceAdd] at hc
  go_enter Tryd.func39, Tryd.ntmps39
  repeat' (first | (go_big_may; (first
    | go_skip
    | ((first
        | (go_at_call 108; refine Calls.mono (gNotify g _ _) ?_; rintro e w' ⟨rfl, H'⟩; replace H := H.of_ext H'; clear H')
        | (go_at_call 105; refine Calls.mono (gInfo_ok g _ _ rfl _ (H.obj (by repeat (first | exact Split.here _ _ | apply Split.there)))) ?_; rintro e w' ⟨qi, rfl, H'⟩; replace H := H.merge (by first | exact Strikes.nil _ | (repeat (first | exact Strikes.nil _ | (apply Strikes.cons; focus (repeat (first | exact Split.here _ _ | apply Split.there)))))) H' rfl; clear H')
        | (go_at_call 102; refine Calls.mono (gCancel g _ o _ _ _ (H.pick (by repeat (first | exact Picks.nil _ | (apply Picks.wr; focus (repeat (first | exact Split.here _ _ | apply Split.there))) | (apply Picks.rd; focus (repeat (first | exact Split.here _ _ | apply Split.there))))))) ?_; rintro e w' ⟨rfl, H'⟩; replace H := H.merge (by first | exact Strikes.nil _ | (repeat (first | exact Strikes.nil _ | (apply Strikes.cons; focus (repeat (first | exact Split.here _ _ | apply Split.there)))))) H' rfl; clear H')
        | (refine loud_ rfl ?_; refine wpList_plain rfl (fun K hK => ?_); (first | (refine op_box _ _ rfl H (fun b w' H1 => hK _ _ ?_)) | (refine op_alloc _ rfl (zero_of _ _ rfl) H (fun b w' H1 => hK _ _ ?_)) | (refine op_store _ _ _ rfl rfl rfl H (by repeat (first | exact Split.here _ _ | apply Split.there)) (by kernel_rfl) (by kernel_rfl) (by kernel_rfl) (fun w' H1 => hK _ _ ?_)) | (refine op_buildSlice_all _ _ _ rfl (by first | exact elem22 | exact elem39 | exact elem76 | exact elem154) (by kernel_rfl) (by kernel_rfl) (by kernel_rfl) H (fun b w' H1 => hK _ _ ?_))); clear hK K; replace H := H1; clear H1)); (try clear hc); (try simp only [nrm, splice, Value.cells, Nat.reduceAdd, Act.eval, Act.put] at H); have hc := H.cells; simp only [CellsOf, KnCells, knc, Nat.reduceAdd] at hc))) | go_values | go_skip | go_guarded | go_step | go_upon | go_back | dsimp only)
  go_ret
  exact ⟨rfl, H.sel (by repeat (first | exact Sel.nil _ | (apply Sel.cons; focus (repeat (first | exact Split.here _ _ | apply Split.there)))))⟩
set_option maxRecDepth 8000 in
theorem mVal_bad (d : VD) (c t : Vr) (hcv : Hid (VText d.cl c)) (heq : Hid (veq t (vprev c) = false))  (q : Nat) (p g : Nat) (o : Vo) (cx : Value) (w : World) (H : St [] w w [(false, .is p (man g)), (false, .is g (guard d o)), (false, .is q (t.obj 62))]) :
    Calls Tryd.prog 46 #[.pointer (some ⟨p, 0, none⟩), cx, .pointer (some ⟨q, 0, none⟩)] w fun e w' => e = .returned (.iface 75 (.string errTarget)) ∧ Ext [] w w' := by
  have hmeLinearizableReadNotify : ∀ (w : World), (method 256 45 (.pointer (some ⟨g, 0, none⟩)) "LinearizableReadNotify").run Tryd.prog w = .ok (108, .pointer (some ⟨g, 0, none⟩)) w := fun w => by kernel_rfl
  have hnaLinearizableReadNotify : ∀ (w : World), (nilAhead 256 45 (.pointer (some ⟨g, 0, none⟩)) "LinearizableReadNotify").run Tryd.prog w = .ok (some false) w := fun w => by kernel_rfl
  have hmeGetDowngradeInfo : ∀ (w : World), (method 256 45 (.pointer (some ⟨g, 0, none⟩)) "GetDowngradeInfo").run Tryd.prog w = .ok (105, .pointer (some ⟨g, 0, none⟩)) w := fun w => by kernel_rfl
  have hnaGetDowngradeInfo : ∀ (w : World), (nilAhead 256 45 (.pointer (some ⟨g, 0, none⟩)) "GetDowngradeInfo").run Tryd.prog w = .ok (some false) w := fun w => by kernel_rfl
  have hmeGetClusterVersion : ∀ (w : World), (method 256 45 (.pointer (some ⟨g, 0, none⟩)) "GetClusterVersion").run Tryd.prog w = .ok (104, .pointer (some ⟨g, 0, none⟩)) w := fun w => by kernel_rfl
  have hnaGetClusterVersion : ∀ (w : World), (nilAhead 256 45 (.pointer (some ⟨g, 0, none⟩)) "GetClusterVersion").run Tryd.prog w = .ok (some false) w := fun w => by kernel_rfl
  have hcb : Hid (0 ≤ c.b ∧ c.b ≤ 9999) := hcv.out.1.b
  obtain ⟨cl, st, tg, dn, hd, at', n, cap⟩ := d
  have hc := H.cells; simp only [CellsOf, KnCells, knc, Nat.reduceAdd] at hc
  go_enter Tryd.func46, Tryd.ntmps46
  repeat' (first | (go_big_may; (first
    | go_skip
    | ((first
        | (go_at_call 108; refine Calls.mono (gNotify g _ _) ?_; rintro e w' ⟨rfl, H'⟩; replace H := H.of_ext H'; clear H')
        | (go_at_call 104; refine Calls.mono (gGetClusterVersion_ok g _ o c hcv _ (H.obj (by repeat (first | exact Split.here _ _ | apply Split.there)))) ?_; rintro e w' ⟨qc, rfl, H'⟩; replace H := H.merge (by first | exact Strikes.nil _ | (repeat (first | exact Strikes.nil _ | (apply Strikes.cons; focus (repeat (first | exact Split.here _ _ | apply Split.there)))))) H' rfl; clear H')
        | (go_at_call 52; refine Calls.mono (allowed_calls _ c hcb.out _ (H.obj (by repeat (first | exact Split.here _ _ | apply Split.there)))) ?_; rintro e w' ⟨qa, rfl, H'⟩; replace H := H.merge (by first | exact Strikes.nil _ | (repeat (first | exact Strikes.nil _ | (apply Strikes.cons; focus (repeat (first | exact Split.here _ _ | apply Split.there)))))) H' rfl; clear H')
        | (refine loud_ rfl ?_; refine wpList_plain rfl (fun K hK => ?_); (first | (refine op_box _ _ rfl H (fun b w' H1 => hK _ _ ?_)) | (refine op_alloc _ rfl (zero_of _ _ rfl) H (fun b w' H1 => hK _ _ ?_)) | (refine op_store _ _ _ rfl rfl rfl H (by repeat (first | exact Split.here _ _ | apply Split.there)) (by kernel_rfl) (by kernel_rfl) (by kernel_rfl) (fun w' H1 => hK _ _ ?_)) | (refine op_buildSlice_all _ _ _ rfl (by first | exact elem22 | exact elem39 | exact elem76 | exact elem154) (by kernel_rfl) (by kernel_rfl) (by kernel_rfl) H (fun b w' H1 => hK _ _ ?_))); clear hK K; replace H := H1; clear H1)); (try clear hc); (try simp only [nrm, splice, Value.cells, Nat.reduceAdd, Act.eval, Act.put] at H); have hc := H.cells; simp only [CellsOf, KnCells, knc, Nat.reduceAdd] at hc))) | go_values | go_skip | go_guarded | go_step | go_upon | go_back | dsimp only)
  (try simp only [Act.put, slt])
  refine wp_region_plan (.p [0, 1] (.q [2] (.p [3, 4] (.q [5] (.e 6 (.p [7] .done)))))) [6] (by kernel_rfl) (by kernel_rfl) (fun _ _ d _ _ h => by cases d <;> exact h) H ?_
  clear H
  (try clear hc)
  intro X nX fX wd hcf hS H
  simp only [CellsOf, KnCells, knc, Nat.reduceAdd] at hcf
  have hc := H.cells
  simp only [CellsOf, KnCells, knc, Nat.reduceAdd] at hc
  iterate 2 (refine plan_p (o := ⟨_, _, _, _, _, _⟩) rfl (fun N hN => ?_); go_big_quiet_step (fail); refine wpQuiet_nil (hN _ ?_); clear hN N)
  refine plan_p0 ?_
  iterate 1 (refine plan_q (o := ⟨_, _, _, _, _, _⟩) rfl (fun N hN => ?_); go_big_quiet_step (fail); refine wpQuiet_nil (hN _ ?_); clear hN N)
  refine plan_q0 ?_
  iterate 2 (refine plan_p (o := ⟨_, _, _, _, _, _⟩) rfl (fun N hN => ?_); go_big_quiet_step (fail); refine wpQuiet_nil (hN _ ?_); clear hN N)
  refine plan_p0 ?_
  iterate 1 (refine plan_q (o := ⟨_, _, _, _, _, _⟩) rfl (fun N hN => ?_); go_big_quiet_step (fail); refine wpQuiet_nil (hN _ ?_); clear hN N)
  refine plan_q0 ?_
  refine plan_e (o := ⟨_, _, _, _, _, _⟩) rfl rfl (fun K hK => ?_)
  (first | (go_step; refine Calls.mono (equal_at t (vprev c) _ heq _) ?_; rintro e w' ⟨rfl, H'⟩; replace H := H.of_ext H'; clear H') | (refine op_box _ _ rfl H (fun b w' H1 => ?_); replace H := H1; clear H1) | (refine op_alloc _ rfl (zero_of _ _ rfl) H (fun b w' H1 => ?_); replace H := H1; clear H1) | (refine op_store _ _ _ rfl rfl rfl H (by repeat (first | exact Split.here _ _ | apply Split.there)) (by kernel_rfl) (by kernel_rfl) (by kernel_rfl) (fun w' H1 => ?_); replace H := H1; clear H1) | (refine op_buildSlice_all _ _ _ rfl (by first | exact elem22 | exact elem39 | exact elem76 | exact elem154) (by kernel_rfl) (by kernel_rfl) (by kernel_rfl) H (fun b w' H1 => ?_); replace H := H1; clear H1)); (try clear hc); (try simp only [nrm, splice, Value.cells, Nat.reduceAdd, Act.eval, Act.put] at H); have hc := H.cells; simp only [CellsOf, KnCells, knc, Nat.reduceAdd] at hc; refine hK _ _ (fun h => (h (by decide)).elim) ?_; clear hK K; (try simp only [Act.put, slt])
  iterate 1 (refine plan_p (o := ⟨_, _, _, _, _, _⟩) rfl (fun N hN => ?_); go_big_quiet_step (fail); refine wpQuiet_nil (hN _ ?_); clear hN N)
  refine plan_p0 ?_
  refine plan_done ?_
  repeat' (first | (go_big_may; (first
    | ((first
        | (refine loud_ rfl ?_; refine wpList_plain rfl (fun K hK => ?_); (first | (refine op_box _ _ rfl H (fun b w' H1 => hK _ _ ?_)) | (refine op_alloc _ rfl (zero_of _ _ rfl) H (fun b w' H1 => hK _ _ ?_)) | (refine op_store _ _ _ rfl rfl rfl H (by repeat (first | exact Split.here _ _ | apply Split.there)) (by kernel_rfl) (by kernel_rfl) (by kernel_rfl) (fun w' H1 => hK _ _ ?_)) | (refine op_buildSlice_all _ _ _ rfl (by first | exact elem22 | exact elem39 | exact elem76 | exact elem154) (by kernel_rfl) (by kernel_rfl) (by kernel_rfl) H (fun b w' H1 => hK _ _ ?_))); clear hK K; replace H := H1; clear H1)); (try clear hc); (try simp only [nrm, splice, Value.cells, Nat.reduceAdd, Act.eval, Act.put] at H); have hc := H.cells; simp only [CellsOf, KnCells, knc, Nat.reduceAdd] at hc))) | go_values | go_skip | go_guarded | go_step | go_upon | go_back | dsimp only)
  go_ret
  exact ⟨rfl, H.ext⟩
set_option maxRecDepth 8000 in
theorem mVal_job (d : VD) (c t : Vr) (hcv : Hid (VText d.cl c)) (heq : Hid (veq t (vprev c) = true)) (hhd : d.hd = true) (hdn : d.dn = true) (q : Nat) (p g : Nat) (o : Vo) (cx : Value) (w : World) (H : St [] w w [(false, .is p (man g)), (false, .is g (guard d o)), (false, .is q (t.obj 62))]) :
    Calls Tryd.prog 46 #[.pointer (some ⟨p, 0, none⟩), cx, .pointer (some ⟨q, 0, none⟩)] w fun e w' => e = .returned (.iface 75 (.string errJob)) ∧ Ext [] w w' := by
  have hmeLinearizableReadNotify : ∀ (w : World), (method 256 45 (.pointer (some ⟨g, 0, none⟩)) "LinearizableReadNotify").run Tryd.prog w = .ok (108, .pointer (some ⟨g, 0, none⟩)) w := fun w => by kernel_rfl
  have hnaLinearizableReadNotify : ∀ (w : World), (nilAhead 256 45 (.pointer (some ⟨g, 0, none⟩)) "LinearizableReadNotify").run Tryd.prog w = .ok (some false) w := fun w => by kernel_rfl
  have hmeGetDowngradeInfo : ∀ (w : World), (method 256 45 (.pointer (some ⟨g, 0, none⟩)) "GetDowngradeInfo").run Tryd.prog w = .ok (105, .pointer (some ⟨g, 0, none⟩)) w := fun w => by kernel_rfl
  have hnaGetDowngradeInfo : ∀ (w : World), (nilAhead 256 45 (.pointer (some ⟨g, 0, none⟩)) "GetDowngradeInfo").run Tryd.prog w = .ok (some false) w := fun w => by kernel_rfl
  have hmeGetClusterVersion : ∀ (w : World), (method 256 45 (.pointer (some ⟨g, 0, none⟩)) "GetClusterVersion").run Tryd.prog w = .ok (104, .pointer (some ⟨g, 0, none⟩)) w := fun w => by kernel_rfl
  have hnaGetClusterVersion : ∀ (w : World), (nilAhead 256 45 (.pointer (some ⟨g, 0, none⟩)) "GetClusterVersion").run Tryd.prog w = .ok (some false) w := fun w => by kernel_rfl
  have hcb : Hid (0 ≤ c.b ∧ c.b ≤ 9999) := hcv.out.1.b
  obtain ⟨cl, st, tg, dn, hd, at', n, cap⟩ := d
  simp only at hhd hdn
  subst hhd hdn
  have hc := H.cells; simp only [CellsOf, KnCells, knc, Nat.reduceAdd] at hc
  go_enter Tryd.func46, Tryd.ntmps46
  repeat' (first | (go_big_may; (first
    | go_skip
    | ((first
        | (go_at_call 108; refine Calls.mono (gNotify g _ _) ?_; rintro e w' ⟨rfl, H'⟩; replace H := H.of_ext H'; clear H')
        | (go_at_call 104; refine Calls.mono (gGetClusterVersion_ok g _ o c hcv _ (H.obj (by repeat (first | exact Split.here _ _ | apply Split.there)))) ?_; rintro e w' ⟨qc, rfl, H'⟩; replace H := H.merge (by first | exact Strikes.nil _ | (repeat (first | exact Strikes.nil _ | (apply Strikes.cons; focus (repeat (first | exact Split.here _ _ | apply Split.there)))))) H' rfl; clear H')
        | (go_at_call 52; refine Calls.mono (allowed_calls _ c hcb.out _ (H.obj (by repeat (first | exact Split.here _ _ | apply Split.there)))) ?_; rintro e w' ⟨qa, rfl, H'⟩; replace H := H.merge (by first | exact Strikes.nil _ | (repeat (first | exact Strikes.nil _ | (apply Strikes.cons; focus (repeat (first | exact Split.here _ _ | apply Split.there)))))) H' rfl; clear H')
        | (refine loud_ rfl ?_; refine wpList_plain rfl (fun K hK => ?_); (first | (refine op_box _ _ rfl H (fun b w' H1 => hK _ _ ?_)) | (refine op_alloc _ rfl (zero_of _ _ rfl) H (fun b w' H1 => hK _ _ ?_)) | (refine op_store _ _ _ rfl rfl rfl H (by repeat (first | exact Split.here _ _ | apply Split.there)) (by kernel_rfl) (by kernel_rfl) (by kernel_rfl) (fun w' H1 => hK _ _ ?_)) | (refine op_buildSlice_all _ _ _ rfl (by first | exact elem22 | exact elem39 | exact elem76 | exact elem154) (by kernel_rfl) (by kernel_rfl) (by kernel_rfl) H (fun b w' H1 => hK _ _ ?_))); clear hK K; replace H := H1; clear H1)); (try clear hc); (try simp only [nrm, splice, Value.cells, Nat.reduceAdd, Act.eval, Act.put] at H); have hc := H.cells; simp only [CellsOf, KnCells, knc, Nat.reduceAdd] at hc))) | go_values | go_skip | go_guarded | go_step | go_upon | go_back | dsimp only)
  (try simp only [Act.put, slt])
  refine wp_region_plan (.p [0, 1] (.q [2] (.p [3, 4] (.q [5] (.e 6 (.p [7] .done)))))) [6] (by kernel_rfl) (by kernel_rfl) (fun _ _ d _ _ h => by cases d <;> exact h) H ?_
  clear H
  (try clear hc)
  intro X nX fX wd hcf hS H
  simp only [CellsOf, KnCells, knc, Nat.reduceAdd] at hcf
  have hc := H.cells
  simp only [CellsOf, KnCells, knc, Nat.reduceAdd] at hc
  iterate 2 (refine plan_p (o := ⟨_, _, _, _, _, _⟩) rfl (fun N hN => ?_); go_big_quiet_step (fail); refine wpQuiet_nil (hN _ ?_); clear hN N)
  refine plan_p0 ?_
  iterate 1 (refine plan_q (o := ⟨_, _, _, _, _, _⟩) rfl (fun N hN => ?_); go_big_quiet_step (fail); refine wpQuiet_nil (hN _ ?_); clear hN N)
  refine plan_q0 ?_
  iterate 2 (refine plan_p (o := ⟨_, _, _, _, _, _⟩) rfl (fun N hN => ?_); go_big_quiet_step (fail); refine wpQuiet_nil (hN _ ?_); clear hN N)
  refine plan_p0 ?_
  iterate 1 (refine plan_q (o := ⟨_, _, _, _, _, _⟩) rfl (fun N hN => ?_); go_big_quiet_step (fail); refine wpQuiet_nil (hN _ ?_); clear hN N)
  refine plan_q0 ?_
  refine plan_e (o := ⟨_, _, _, _, _, _⟩) rfl rfl (fun K hK => ?_)
  (first | (go_step; refine Calls.mono (equal_at t (vprev c) _ heq _) ?_; rintro e w' ⟨rfl, H'⟩; replace H := H.of_ext H'; clear H') | (refine op_box _ _ rfl H (fun b w' H1 => ?_); replace H := H1; clear H1) | (refine op_alloc _ rfl (zero_of _ _ rfl) H (fun b w' H1 => ?_); replace H := H1; clear H1) | (refine op_store _ _ _ rfl rfl rfl H (by repeat (first | exact Split.here _ _ | apply Split.there)) (by kernel_rfl) (by kernel_rfl) (by kernel_rfl) (fun w' H1 => ?_); replace H := H1; clear H1) | (refine op_buildSlice_all _ _ _ rfl (by first | exact elem22 | exact elem39 | exact elem76 | exact elem154) (by kernel_rfl) (by kernel_rfl) (by kernel_rfl) H (fun b w' H1 => ?_); replace H := H1; clear H1)); (try clear hc); (try simp only [nrm, splice, Value.cells, Nat.reduceAdd, Act.eval, Act.put] at H); have hc := H.cells; simp only [CellsOf, KnCells, knc, Nat.reduceAdd] at hc; refine hK _ _ (fun h => (h (by decide)).elim) ?_; clear hK K; (try simp only [Act.put, slt])
  iterate 1 (refine plan_p (o := ⟨_, _, _, _, _, _⟩) rfl (fun N hN => ?_); go_big_quiet_step (fail); refine wpQuiet_nil (hN _ ?_); clear hN N)
  refine plan_p0 ?_
  refine plan_done ?_
  repeat' (first | (go_big_may; (first
    | go_skip
    | ((first
        | (go_at_call 105; refine Calls.mono (gInfo_ok g _ _ rfl _ (H.obj (by repeat (first | exact Split.here _ _ | apply Split.there)))) ?_; rintro e w' ⟨qi, rfl, H'⟩; replace H := H.merge (by first | exact Strikes.nil _ | (repeat (first | exact Strikes.nil _ | (apply Strikes.cons; focus (repeat (first | exact Split.here _ _ | apply Split.there)))))) H' rfl; clear H')
        | (refine loud_ rfl ?_; refine wpList_plain rfl (fun K hK => ?_); (first | (refine op_box _ _ rfl H (fun b w' H1 => hK _ _ ?_)) | (refine op_alloc _ rfl (zero_of _ _ rfl) H (fun b w' H1 => hK _ _ ?_)) | (refine op_store _ _ _ rfl rfl rfl H (by repeat (first | exact Split.here _ _ | apply Split.there)) (by kernel_rfl) (by kernel_rfl) (by kernel_rfl) (fun w' H1 => hK _ _ ?_)) | (refine op_buildSlice_all _ _ _ rfl (by first | exact elem22 | exact elem39 | exact elem76 | exact elem154) (by kernel_rfl) (by kernel_rfl) (by kernel_rfl) H (fun b w' H1 => hK _ _ ?_))); clear hK K; replace H := H1; clear H1)); (try clear hc); (try simp only [nrm, splice, Value.cells, Nat.reduceAdd, Act.eval, Act.put] at H); have hc := H.cells; simp only [CellsOf, KnCells, knc, Nat.reduceAdd] at hc))) | go_values | go_skip | go_guarded | go_step | go_upon | go_back | dsimp only)
  go_ret
  exact ⟨rfl, H.ext⟩
set_option maxRecDepth 8000 in
theorem mVal_oka (d : VD) (c t : Vr) (hcv : Hid (VText d.cl c)) (heq : Hid (veq t (vprev c) = true)) (hhd : d.hd = false) (q : Nat) (p g : Nat) (o : Vo) (cx : Value) (w : World) (H : St [] w w [(false, .is p (man g)), (false, .is g (guard d o)), (false, .is q (t.obj 62))]) :
    Calls Tryd.prog 46 #[.pointer (some ⟨p, 0, none⟩), cx, .pointer (some ⟨q, 0, none⟩)] w fun e w' => e = .returned .nilIface ∧ Ext [] w w' := by
  have hmeLinearizableReadNotify : ∀ (w : World), (method 256 45 (.pointer (some ⟨g, 0, none⟩)) "LinearizableReadNotify").run Tryd.prog w = .ok (108, .pointer (some ⟨g, 0, none⟩)) w := fun w => by kernel_rfl
  have hnaLinearizableReadNotify : ∀ (w : World), (nilAhead 256 45 (.pointer (some ⟨g, 0, none⟩)) "LinearizableReadNotify").run Tryd.prog w = .ok (some false) w := fun w => by kernel_rfl
  have hmeGetDowngradeInfo : ∀ (w : World), (method 256 45 (.pointer (some ⟨g, 0, none⟩)) "GetDowngradeInfo").run Tryd.prog w = .ok (105, .pointer (some ⟨g, 0, none⟩)) w := fun w => by kernel_rfl
  have hnaGetDowngradeInfo : ∀ (w : World), (nilAhead 256 45 (.pointer (some ⟨g, 0, none⟩)) "GetDowngradeInfo").run Tryd.prog w = .ok (some false) w := fun w => by kernel_rfl
  have hmeGetClusterVersion : ∀ (w : World), (method 256 45 (.pointer (some ⟨g, 0, none⟩)) "GetClusterVersion").run Tryd.prog w = .ok (104, .pointer (some ⟨g, 0, none⟩)) w := fun w => by kernel_rfl
  have hnaGetClusterVersion : ∀ (w : World), (nilAhead 256 45 (.pointer (some ⟨g, 0, none⟩)) "GetClusterVersion").run Tryd.prog w = .ok (some false) w := fun w => by kernel_rfl
  have hcb : Hid (0 ≤ c.b ∧ c.b ≤ 9999) := hcv.out.1.b
  obtain ⟨cl, st, tg, dn, hd, at', n, cap⟩ := d
  simp only at hhd
  subst hhd
  have hc := H.cells; simp only [CellsOf, KnCells, knc, Nat.reduceAdd] at hc
  go_enter Tryd.func46, Tryd.ntmps46
  repeat' (first | (go_big_may; (first
    | go_skip
    | ((first
        | (go_at_call 108; refine Calls.mono (gNotify g _ _) ?_; rintro e w' ⟨rfl, H'⟩; replace H := H.of_ext H'; clear H')
        | (go_at_call 104; refine Calls.mono (gGetClusterVersion_ok g _ o c hcv _ (H.obj (by repeat (first | exact Split.here _ _ | apply Split.there)))) ?_; rintro e w' ⟨qc, rfl, H'⟩; replace H := H.merge (by first | exact Strikes.nil _ | (repeat (first | exact Strikes.nil _ | (apply Strikes.cons; focus (repeat (first | exact Split.here _ _ | apply Split.there)))))) H' rfl; clear H')
        | (go_at_call 52; refine Calls.mono (allowed_calls _ c hcb.out _ (H.obj (by repeat (first | exact Split.here _ _ | apply Split.there)))) ?_; rintro e w' ⟨qa, rfl, H'⟩; replace H := H.merge (by first | exact Strikes.nil _ | (repeat (first | exact Strikes.nil _ | (apply Strikes.cons; focus (repeat (first | exact Split.here _ _ | apply Split.there)))))) H' rfl; clear H')
        | (refine loud_ rfl ?_; refine wpList_plain rfl (fun K hK => ?_); (first | (refine op_box _ _ rfl H (fun b w' H1 => hK _ _ ?_)) | (refine op_alloc _ rfl (zero_of _ _ rfl) H (fun b w' H1 => hK _ _ ?_)) | (refine op_store _ _ _ rfl rfl rfl H (by repeat (first | exact Split.here _ _ | apply Split.there)) (by kernel_rfl) (by kernel_rfl) (by kernel_rfl) (fun w' H1 => hK _ _ ?_)) | (refine op_buildSlice_all _ _ _ rfl (by first | exact elem22 | exact elem39 | exact elem76 | exact elem154) (by kernel_rfl) (by kernel_rfl) (by kernel_rfl) H (fun b w' H1 => hK _ _ ?_))); clear hK K; replace H := H1; clear H1)); (try clear hc); (try simp only [nrm, splice, Value.cells, Nat.reduceAdd, Act.eval, Act.put] at H); have hc := H.cells; simp only [CellsOf, KnCells, knc, Nat.reduceAdd] at hc))) | go_values | go_skip | go_guarded | go_step | go_upon | go_back | dsimp only)
  (try simp only [Act.put, slt])
  refine wp_region_plan (.p [0, 1] (.q [2] (.p [3, 4] (.q [5] (.e 6 (.p [7] .done)))))) [6] (by kernel_rfl) (by kernel_rfl) (fun _ _ d _ _ h => by cases d <;> exact h) H ?_
  clear H
  (try clear hc)
  intro X nX fX wd hcf hS H
  simp only [CellsOf, KnCells, knc, Nat.reduceAdd] at hcf
  have hc := H.cells
  simp only [CellsOf, KnCells, knc, Nat.reduceAdd] at hc
  iterate 2 (refine plan_p (o := ⟨_, _, _, _, _, _⟩) rfl (fun N hN => ?_); go_big_quiet_step (fail); refine wpQuiet_nil (hN _ ?_); clear hN N)
  refine plan_p0 ?_
  iterate 1 (refine plan_q (o := ⟨_, _, _, _, _, _⟩) rfl (fun N hN => ?_); go_big_quiet_step (fail); refine wpQuiet_nil (hN _ ?_); clear hN N)
  refine plan_q0 ?_
  iterate 2 (refine plan_p (o := ⟨_, _, _, _, _, _⟩) rfl (fun N hN => ?_); go_big_quiet_step (fail); refine wpQuiet_nil (hN _ ?_); clear hN N)
  refine plan_p0 ?_
  iterate 1 (refine plan_q (o := ⟨_, _, _, _, _, _⟩) rfl (fun N hN => ?_); go_big_quiet_step (fail); refine wpQuiet_nil (hN _ ?_); clear hN N)
  refine plan_q0 ?_
  refine plan_e (o := ⟨_, _, _, _, _, _⟩) rfl rfl (fun K hK => ?_)
  (first | (go_step; refine Calls.mono (equal_at t (vprev c) _ heq _) ?_; rintro e w' ⟨rfl, H'⟩; replace H := H.of_ext H'; clear H') | (refine op_box _ _ rfl H (fun b w' H1 => ?_); replace H := H1; clear H1) | (refine op_alloc _ rfl (zero_of _ _ rfl) H (fun b w' H1 => ?_); replace H := H1; clear H1) | (refine op_store _ _ _ rfl rfl rfl H (by repeat (first | exact Split.here _ _ | apply Split.there)) (by kernel_rfl) (by kernel_rfl) (by kernel_rfl) (fun w' H1 => ?_); replace H := H1; clear H1) | (refine op_buildSlice_all _ _ _ rfl (by first | exact elem22 | exact elem39 | exact elem76 | exact elem154) (by kernel_rfl) (by kernel_rfl) (by kernel_rfl) H (fun b w' H1 => ?_); replace H := H1; clear H1)); (try clear hc); (try simp only [nrm, splice, Value.cells, Nat.reduceAdd, Act.eval, Act.put] at H); have hc := H.cells; simp only [CellsOf, KnCells, knc, Nat.reduceAdd] at hc; refine hK _ _ (fun h => (h (by decide)).elim) ?_; clear hK K; (try simp only [Act.put, slt])
  iterate 1 (refine plan_p (o := ⟨_, _, _, _, _, _⟩) rfl (fun N hN => ?_); go_big_quiet_step (fail); refine wpQuiet_nil (hN _ ?_); clear hN N)
  refine plan_p0 ?_
  refine plan_done ?_
  repeat' (first | (go_big_may; (first
    | go_skip
    | ((first
        | (go_at_call 105; refine Calls.mono (gInfo_no g _ _ rfl _ (H.obj (by repeat (first | exact Split.here _ _ | apply Split.there)))) ?_; rintro e w' ⟨rfl, H'⟩; replace H := H.of_ext H'; clear H')
        | (refine loud_ rfl ?_; refine wpList_plain rfl (fun K hK => ?_); (first | (refine op_box _ _ rfl H (fun b w' H1 => hK _ _ ?_)) | (refine op_alloc _ rfl (zero_of _ _ rfl) H (fun b w' H1 => hK _ _ ?_)) | (refine op_store _ _ _ rfl rfl rfl H (by repeat (first | exact Split.here _ _ | apply Split.there)) (by kernel_rfl) (by kernel_rfl) (by kernel_rfl) (fun w' H1 => hK _ _ ?_)) | (refine op_buildSlice_all _ _ _ rfl (by first | exact elem22 | exact elem39 | exact elem76 | exact elem154) (by kernel_rfl) (by kernel_rfl) (by kernel_rfl) H (fun b w' H1 => hK _ _ ?_))); clear hK K; replace H := H1; clear H1)); (try clear hc); (try simp only [nrm, splice, Value.cells, Nat.reduceAdd, Act.eval, Act.put] at H); have hc := H.cells; simp only [CellsOf, KnCells, knc, Nat.reduceAdd] at hc))) | go_values | go_skip | go_guarded | go_step | go_upon | go_back | dsimp only)
  go_ret
  exact ⟨rfl, H.ext⟩
set_option maxRecDepth 8000 in
theorem mVal_okb (d : VD) (c t : Vr) (hcv : Hid (VText d.cl c)) (heq : Hid (veq t (vprev c) = true)) (hhd : d.hd = true) (hdn : d.dn = false) (q : Nat) (p g : Nat) (o : Vo) (cx : Value) (w : World) (H : St [] w w [(false, .is p (man g)), (false, .is g (guard d o)), (false, .is q (t.obj 62))]) :
    Calls Tryd.prog 46 #[.pointer (some ⟨p, 0, none⟩), cx, .pointer (some ⟨q, 0, none⟩)] w fun e w' => e = .returned .nilIface ∧ Ext [] w w' := by
  have hmeLinearizableReadNotify : ∀ (w : World), (method 256 45 (.pointer (some ⟨g, 0, none⟩)) "LinearizableReadNotify").run Tryd.prog w = .ok (108, .pointer (some ⟨g, 0, none⟩)) w := fun w => by kernel_rfl
  have hnaLinearizableReadNotify : ∀ (w : World), (nilAhead 256 45 (.pointer (some ⟨g, 0, none⟩)) "LinearizableReadNotify").run Tryd.prog w = .ok (some false) w := fun w => by kernel_rfl
  have hmeGetDowngradeInfo : ∀ (w : World), (method 256 45 (.pointer (some ⟨g, 0, none⟩)) "GetDowngradeInfo").run Tryd.prog w = .ok (105, .pointer (some ⟨g, 0, none⟩)) w := fun w => by kernel_rfl
  have hnaGetDowngradeInfo : ∀ (w : World), (nilAhead 256 45 (.pointer (some ⟨g, 0, none⟩)) "GetDowngradeInfo").run Tryd.prog w = .ok (some false) w := fun w => by kernel_rfl
  have hmeGetClusterVersion : ∀ (w : World), (method 256 45 (.pointer (some ⟨g, 0, none⟩)) "GetClusterVersion").run Tryd.prog w = .ok (104, .pointer (some ⟨g, 0, none⟩)) w := fun w => by kernel_rfl
  have hnaGetClusterVersion : ∀ (w : World), (nilAhead 256 45 (.pointer (some ⟨g, 0, none⟩)) "GetClusterVersion").run Tryd.prog w = .ok (some false) w := fun w => by kernel_rfl
  have hcb : Hid (0 ≤ c.b ∧ c.b ≤ 9999) := hcv.out.1.b
  obtain ⟨cl, st, tg, dn, hd, at', n, cap⟩ := d
  simp only at hhd hdn
  subst hhd hdn
  have hc := H.cells; simp only [CellsOf, KnCells, knc, Nat.reduceAdd] at hc
  go_enter Tryd.func46, Tryd.ntmps46
  repeat' (first | (go_big_may; (first
    | go_skip
    | ((first
        | (go_at_call 108; refine Calls.mono (gNotify g _ _) ?_; rintro e w' ⟨rfl, H'⟩; replace H := H.of_ext H'; clear H')
        | (go_at_call 104; refine Calls.mono (gGetClusterVersion_ok g _ o c hcv _ (H.obj (by repeat (first | exact Split.here _ _ | apply Split.there)))) ?_; rintro e w' ⟨qc, rfl, H'⟩; replace H := H.merge (by first | exact Strikes.nil _ | (repeat (first | exact Strikes.nil _ | (apply Strikes.cons; focus (repeat (first | exact Split.here _ _ | apply Split.there)))))) H' rfl; clear H')
        | (go_at_call 52; refine Calls.mono (allowed_calls _ c hcb.out _ (H.obj (by repeat (first | exact Split.here _ _ | apply Split.there)))) ?_; rintro e w' ⟨qa, rfl, H'⟩; replace H := H.merge (by first | exact Strikes.nil _ | (repeat (first | exact Strikes.nil _ | (apply Strikes.cons; focus (repeat (first | exact Split.here _ _ | apply Split.there)))))) H' rfl; clear H')
        | (refine loud_ rfl ?_; refine wpList_plain rfl (fun K hK => ?_); (first | (refine op_box _ _ rfl H (fun b w' H1 => hK _ _ ?_)) | (refine op_alloc _ rfl (zero_of _ _ rfl) H (fun b w' H1 => hK _ _ ?_)) | (refine op_store _ _ _ rfl rfl rfl H (by repeat (first | exact Split.here _ _ | apply Split.there)) (by kernel_rfl) (by kernel_rfl) (by kernel_rfl) (fun w' H1 => hK _ _ ?_)) | (refine op_buildSlice_all _ _ _ rfl (by first | exact elem22 | exact elem39 | exact elem76 | exact elem154) (by kernel_rfl) (by kernel_rfl) (by kernel_rfl) H (fun b w' H1 => hK _ _ ?_))); clear hK K; replace H := H1; clear H1)); (try clear hc); (try simp only [nrm, splice, Value.cells, Nat.reduceAdd, Act.eval, Act.put] at H); have hc := H.cells; simp only [CellsOf, KnCells, knc, Nat.reduceAdd] at hc))) | go_values | go_skip | go_guarded | go_step | go_upon | go_back | dsimp only)
  (try simp only [Act.put, slt])
  refine wp_region_plan (.p [0, 1] (.q [2] (.p [3, 4] (.q [5] (.e 6 (.p [7] .done)))))) [6] (by kernel_rfl) (by kernel_rfl) (fun _ _ d _ _ h => by cases d <;> exact h) H ?_
  clear H
  (try clear hc)
  intro X nX fX wd hcf hS H
  simp only [CellsOf, KnCells, knc, Nat.reduceAdd] at hcf
  have hc := H.cells
  simp only [CellsOf, KnCells, knc, Nat.reduceAdd] at hc
  iterate 2 (refine plan_p (o := ⟨_, _, _, _, _, _⟩) rfl (fun N hN => ?_); go_big_quiet_step (fail); refine wpQuiet_nil (hN _ ?_); clear hN N)
  refine plan_p0 ?_
  iterate 1 (refine plan_q (o := ⟨_, _, _, _, _, _⟩) rfl (fun N hN => ?_); go_big_quiet_step (fail); refine wpQuiet_nil (hN _ ?_); clear hN N)
  refine plan_q0 ?_
  iterate 2 (refine plan_p (o := ⟨_, _, _, _, _, _⟩) rfl (fun N hN => ?_); go_big_quiet_step (fail); refine wpQuiet_nil (hN _ ?_); clear hN N)
  refine plan_p0 ?_
  iterate 1 (refine plan_q (o := ⟨_, _, _, _, _, _⟩) rfl (fun N hN => ?_); go_big_quiet_step (fail); refine wpQuiet_nil (hN _ ?_); clear hN N)
  refine plan_q0 ?_
  refine plan_e (o := ⟨_, _, _, _, _, _⟩) rfl rfl (fun K hK => ?_)
  (first | (go_step; refine Calls.mono (equal_at t (vprev c) _ heq _) ?_; rintro e w' ⟨rfl, H'⟩; replace H := H.of_ext H'; clear H') | (refine op_box _ _ rfl H (fun b w' H1 => ?_); replace H := H1; clear H1) | (refine op_alloc _ rfl (zero_of _ _ rfl) H (fun b w' H1 => ?_); replace H := H1; clear H1) | (refine op_store _ _ _ rfl rfl rfl H (by repeat (first | exact Split.here _ _ | apply Split.there)) (by kernel_rfl) (by kernel_rfl) (by kernel_rfl) (fun w' H1 => ?_); replace H := H1; clear H1) | (refine op_buildSlice_all _ _ _ rfl (by first | exact elem22 | exact elem39 | exact elem76 | exact elem154) (by kernel_rfl) (by kernel_rfl) (by kernel_rfl) H (fun b w' H1 => ?_); replace H := H1; clear H1)); (try clear hc); (try simp only [nrm, splice, Value.cells, Nat.reduceAdd, Act.eval, Act.put] at H); have hc := H.cells; simp only [CellsOf, KnCells, knc, Nat.reduceAdd] at hc; refine hK _ _ (fun h => (h (by decide)).elim) ?_; clear hK K; (try simp only [Act.put, slt])
  iterate 1 (refine plan_p (o := ⟨_, _, _, _, _, _⟩) rfl (fun N hN => ?_); go_big_quiet_step (fail); refine wpQuiet_nil (hN _ ?_); clear hN N)
  refine plan_p0 ?_
  refine plan_done ?_
  repeat' (first | (go_big_may; (first
    | go_skip
    | ((first
        | (go_at_call 105; refine Calls.mono (gInfo_ok g _ _ rfl _ (H.obj (by repeat (first | exact Split.here _ _ | apply Split.there)))) ?_; rintro e w' ⟨qi, rfl, H'⟩; replace H := H.merge (by first | exact Strikes.nil _ | (repeat (first | exact Strikes.nil _ | (apply Strikes.cons; focus (repeat (first | exact Split.here _ _ | apply Split.there)))))) H' rfl; clear H')
        | (refine loud_ rfl ?_; refine wpList_plain rfl (fun K hK => ?_); (first | (refine op_box _ _ rfl H (fun b w' H1 => hK _ _ ?_)) | (refine op_alloc _ rfl (zero_of _ _ rfl) H (fun b w' H1 => hK _ _ ?_)) | (refine op_store _ _ _ rfl rfl rfl H (by repeat (first | exact Split.here _ _ | apply Split.there)) (by kernel_rfl) (by kernel_rfl) (by kernel_rfl) (fun w' H1 => hK _ _ ?_)) | (refine op_buildSlice_all _ _ _ rfl (by first | exact elem22 | exact elem39 | exact elem76 | exact elem154) (by kernel_rfl) (by kernel_rfl) (by kernel_rfl) H (fun b w' H1 => hK _ _ ?_))); clear hK K; replace H := H1; clear H1)); (try clear hc); (try simp only [nrm, splice, Value.cells, Nat.reduceAdd, Act.eval, Act.put] at H); have hc := H.cells; simp only [CellsOf, KnCells, knc, Nat.reduceAdd] at hc))) | go_values | go_skip | go_guarded | go_step | go_upon | go_back | dsimp only)
  go_ret
  exact ⟨rfl, H.ext⟩
end Go.Proofs.YtdcijhdjddiboaaDoor
