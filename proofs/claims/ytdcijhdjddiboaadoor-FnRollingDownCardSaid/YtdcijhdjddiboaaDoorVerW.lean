import Derived.Test.YtdcijhdjddiboaaDoorVerU
-- MORE
namespace Go.Proofs.YtdcijhdjddiboaaDoor
set_option linter.unusedVariables false
set_option linter.unusedSimpArgs false
set_option linter.unnecessarySimpa false
open Go.RowKit Go.V

theorem versMatch_at (p g q : Nat) (d : VD) (o : Vo) (ts : List ByteArray) (os : List (Option Vr)) (hm : Mem d ts os) (x : Vr) (b : Bool) (hb : matchAll os x = b) (w : World)
    (H : St [] w w [(false, .is p (mon g)), (false, .is g (guard d o)), (false, .arr d.at' (strs ts)), (false, .is q (x.obj 62)), genv]) :
    Calls Tryd.prog 51 #[.pointer (some ⟨p, 0, none⟩), .pointer (some ⟨q, 0, none⟩)] w fun e w' => e = .returned (.bool b) ∧ Ext [] w w' := by
  have := versMatch p g q d o ts os hm.reads hm.n hm.small x w H
  rw [hb] at this
  exact this
theorem bg_calls (w : World) : Calls Tryd.prog 40 #[] w fun e w' => ∃ T v, e = .returned (.iface T v) ∧ Ext [] w w' := by
  have H := St.init [] w
  go_enter Tryd.func40, Tryd.ntmps40
  go_wp2_with (first
    | ((first
        | (refine loud_ rfl ?_; refine wpList_plain rfl (fun K hK => ?_); (first | (refine op_box _ _ rfl H (fun b w' H1 => hK _ _ ?_)) | (refine op_alloc _ rfl (zero_of _ _ rfl) H (fun b w' H1 => hK _ _ ?_)) | (refine op_store _ _ _ rfl rfl rfl H (by repeat (first | exact Split.here _ _ | apply Split.there)) (by kernel_rfl) (by kernel_rfl) (by kernel_rfl) (fun w' H1 => hK _ _ ?_)) | (refine op_buildSlice_all _ _ _ rfl (by first | exact elem22 | exact elem39 | exact elem76 | exact elem154) (by kernel_rfl) (by kernel_rfl) (by kernel_rfl) H (fun b w' H1 => hK _ _ ?_))); clear hK K; replace H := H1; clear H1)); (try clear hc); (try simp only [nrm, splice, Value.cells, Nat.reduceAdd, Act.eval, Act.put] at H); have hc := H.cells; simp only [CellsOf, KnCells, knc, Nat.reduceAdd] at hc))
  go_ret
  exact ⟨_, _, rfl, H.ext⟩
set_option maxRecDepth 8000 in
theorem cancel_0a (d : VD) (ts : List ByteArray) (hhd : d.hd = false) (p g : Nat) (o : Vo) (S : List Nat) (w : World) (H : St S w w (mentsW p g d o ts)) :
    Calls Tryd.prog 41 #[.pointer (some ⟨p, 0, none⟩)] w fun e w' => e = .returned (.tuple #[]) ∧ St S w w' [(true, .is g (guard d o))] := by
  have hmeGetDowngradeInfo : ∀ (w : World), (method 256 45 (.pointer (some ⟨g, 0, none⟩)) "GetDowngradeInfo").run Tryd.prog w = .ok (105, .pointer (some ⟨g, 0, none⟩)) w := fun w => by kernel_rfl
  have hnaGetDowngradeInfo : ∀ (w : World), (nilAhead 256 45 (.pointer (some ⟨g, 0, none⟩)) "GetDowngradeInfo").run Tryd.prog w = .ok (some false) w := fun w => by kernel_rfl
  have hmeDowngradeCancel : ∀ (w : World), (method 256 45 (.pointer (some ⟨g, 0, none⟩)) "DowngradeCancel").run Tryd.prog w = .ok (102, .pointer (some ⟨g, 0, none⟩)) w := fun w => by kernel_rfl
  have hnaDowngradeCancel : ∀ (w : World), (nilAhead 256 45 (.pointer (some ⟨g, 0, none⟩)) "DowngradeCancel").run Tryd.prog w = .ok (some false) w := fun w => by kernel_rfl
  obtain ⟨cl, st, tg, dn, hd, at', n, cap⟩ := d
  simp only at hhd
  subst hhd
  have hc := H.cells; simp only [CellsOf, KnCells, knc, Nat.reduceAdd] at hc
  go_enter Tryd.func41, Tryd.ntmps41
  repeat' (first | (go_big_may; (first
    | go_skip
    | ((first
        | (go_at_call 105; refine Calls.mono (gInfo_no g _ _ rfl _ (H.obj (by repeat (first | exact Split.here _ _ | apply Split.there)))) ?_; rintro e w' ⟨rfl, H'⟩; replace H := H.of_ext H'; clear H')
        | (refine loud_ rfl ?_; refine wpList_plain rfl (fun K hK => ?_); (first | (refine op_box _ _ rfl H (fun b w' H1 => hK _ _ ?_)) | (refine op_alloc _ rfl (zero_of _ _ rfl) H (fun b w' H1 => hK _ _ ?_)) | (refine op_store _ _ _ rfl rfl rfl H (by repeat (first | exact Split.here _ _ | apply Split.there)) (by kernel_rfl) (by kernel_rfl) (by kernel_rfl) (fun w' H1 => hK _ _ ?_)) | (refine op_buildSlice_all _ _ _ rfl (by first | exact elem22 | exact elem39 | exact elem76 | exact elem154) (by kernel_rfl) (by kernel_rfl) (by kernel_rfl) H (fun b w' H1 => hK _ _ ?_))); clear hK K; replace H := H1; clear H1)); (try clear hc); (try simp only [nrm, splice, Value.cells, Nat.reduceAdd, Act.eval, Act.put] at H); have hc := H.cells; simp only [CellsOf, KnCells, knc, Nat.reduceAdd] at hc))) | go_values | go_skip | go_guarded | go_step | go_upon | go_back | dsimp only)
  (try simp only [Exit.inBlock, Exit.then])
  refine bodyPost_ret_by (results_none rfl _ _ _) rfl ?_
  exact ⟨rfl, H.sel (by repeat (first | exact Sel.nil _ | (apply Sel.cons; focus (repeat (first | exact Split.here _ _ | apply Split.there)))))⟩
set_option maxRecDepth 8000 in
theorem cancel_0b (d : VD) (ts : List ByteArray) (hhd : d.hd = true) (hdn : d.dn = false) (p g : Nat) (o : Vo) (S : List Nat) (w : World) (H : St S w w (mentsW p g d o ts)) :
    Calls Tryd.prog 41 #[.pointer (some ⟨p, 0, none⟩)] w fun e w' => e = .returned (.tuple #[]) ∧ St S w w' [(true, .is g (guard d o))] := by
  have hmeGetDowngradeInfo : ∀ (w : World), (method 256 45 (.pointer (some ⟨g, 0, none⟩)) "GetDowngradeInfo").run Tryd.prog w = .ok (105, .pointer (some ⟨g, 0, none⟩)) w := fun w => by kernel_rfl
  have hnaGetDowngradeInfo : ∀ (w : World), (nilAhead 256 45 (.pointer (some ⟨g, 0, none⟩)) "GetDowngradeInfo").run Tryd.prog w = .ok (some false) w := fun w => by kernel_rfl
  have hmeDowngradeCancel : ∀ (w : World), (method 256 45 (.pointer (some ⟨g, 0, none⟩)) "DowngradeCancel").run Tryd.prog w = .ok (102, .pointer (some ⟨g, 0, none⟩)) w := fun w => by kernel_rfl
  have hnaDowngradeCancel : ∀ (w : World), (nilAhead 256 45 (.pointer (some ⟨g, 0, none⟩)) "DowngradeCancel").run Tryd.prog w = .ok (some false) w := fun w => by kernel_rfl
  obtain ⟨cl, st, tg, dn, hd, at', n, cap⟩ := d
  simp only at hhd hdn
  subst hhd hdn
  have hc := H.cells; simp only [CellsOf, KnCells, knc, Nat.reduceAdd] at hc
  go_enter Tryd.func41, Tryd.ntmps41
  repeat' (first | (go_big_may; (first
    | go_skip
    | ((first
        | (go_at_call 105; refine Calls.mono (gInfo_ok g _ _ rfl _ (H.obj (by repeat (first | exact Split.here _ _ | apply Split.there)))) ?_; rintro e w' ⟨qi, rfl, H'⟩; replace H := H.merge (by first | exact Strikes.nil _ | (repeat (first | exact Strikes.nil _ | (apply Strikes.cons; focus (repeat (first | exact Split.here _ _ | apply Split.there)))))) H' rfl; clear H')
        | (refine loud_ rfl ?_; refine wpList_plain rfl (fun K hK => ?_); (first | (refine op_box _ _ rfl H (fun b w' H1 => hK _ _ ?_)) | (refine op_alloc _ rfl (zero_of _ _ rfl) H (fun b w' H1 => hK _ _ ?_)) | (refine op_store _ _ _ rfl rfl rfl H (by repeat (first | exact Split.here _ _ | apply Split.there)) (by kernel_rfl) (by kernel_rfl) (by kernel_rfl) (fun w' H1 => hK _ _ ?_)) | (refine op_buildSlice_all _ _ _ rfl (by first | exact elem22 | exact elem39 | exact elem76 | exact elem154) (by kernel_rfl) (by kernel_rfl) (by kernel_rfl) H (fun b w' H1 => hK _ _ ?_))); clear hK K; replace H := H1; clear H1)); (try clear hc); (try simp only [nrm, splice, Value.cells, Nat.reduceAdd, Act.eval, Act.put] at H); have hc := H.cells; simp only [CellsOf, KnCells, knc, Nat.reduceAdd] at hc))) | go_values | go_skip | go_guarded | go_step | go_upon | go_back | dsimp only)
  (try simp only [Exit.inBlock, Exit.then])
  refine bodyPost_ret_by (results_none rfl _ _ _) rfl ?_
  exact ⟨rfl, H.sel (by repeat (first | exact Sel.nil _ | (apply Sel.cons; focus (repeat (first | exact Split.here _ _ | apply Split.there)))))⟩
set_option maxRecDepth 8000 in
theorem cancel_1 (d : VD) (ts : List ByteArray) (os : List (Option Vr)) (hm' : Hid (Mem d ts os)) (hhd : d.hd = true) (hdn : d.dn = true) (t : Vr) (ht : Hid (VText d.tg t)) (hb : Hid (matchAll os t = false)) (p g : Nat) (o : Vo) (S : List Nat) (w : World) (H : St S w w (mentsW p g d o ts)) :
    Calls Tryd.prog 41 #[.pointer (some ⟨p, 0, none⟩)] w fun e w' => e = .returned (.tuple #[]) ∧ St S w w' [(true, .is g (guard d o))] := by
  have hmeGetDowngradeInfo : ∀ (w : World), (method 256 45 (.pointer (some ⟨g, 0, none⟩)) "GetDowngradeInfo").run Tryd.prog w = .ok (105, .pointer (some ⟨g, 0, none⟩)) w := fun w => by kernel_rfl
  have hnaGetDowngradeInfo : ∀ (w : World), (nilAhead 256 45 (.pointer (some ⟨g, 0, none⟩)) "GetDowngradeInfo").run Tryd.prog w = .ok (some false) w := fun w => by kernel_rfl
  have hmeDowngradeCancel : ∀ (w : World), (method 256 45 (.pointer (some ⟨g, 0, none⟩)) "DowngradeCancel").run Tryd.prog w = .ok (102, .pointer (some ⟨g, 0, none⟩)) w := fun w => by kernel_rfl
  have hnaDowngradeCancel : ∀ (w : World), (nilAhead 256 45 (.pointer (some ⟨g, 0, none⟩)) "DowngradeCancel").run Tryd.prog w = .ok (some false) w := fun w => by kernel_rfl
  obtain ⟨cl, st, tg, dn, hd, at', n, cap⟩ := d
  simp only at hhd hdn ht
  subst hhd hdn
  have hc := H.cells; simp only [CellsOf, KnCells, knc, Nat.reduceAdd] at hc
  go_enter Tryd.func41, Tryd.ntmps41
  repeat' (first | (go_big_may; (first
    | go_skip
    | ((first
        | (go_at_call 105; refine Calls.mono (gInfo_ok g _ _ rfl _ (H.obj (by repeat (first | exact Split.here _ _ | apply Split.there)))) ?_; rintro e w' ⟨qi, rfl, H'⟩; replace H := H.merge (by first | exact Strikes.nil _ | (repeat (first | exact Strikes.nil _ | (apply Strikes.cons; focus (repeat (first | exact Split.here _ _ | apply Split.there)))))) H' rfl; clear H')
        | (go_at_call 50; refine Calls.mono (newVersion_ok _ t ht.out _) ?_; rintro e w' ⟨qt, rfl, H'⟩; replace H := H.merge (by first | exact Strikes.nil _ | (repeat (first | exact Strikes.nil _ | (apply Strikes.cons; focus (repeat (first | exact Split.here _ _ | apply Split.there)))))) H' rfl; clear H')
        | (go_at_call 49; refine Calls.mono (must_calls _ _) ?_; rintro e w' ⟨rfl, H'⟩; replace H := H.of_ext H'; clear H')
        | (go_at_call 51; refine Calls.mono (versMatch_at p g _ _ o ts os hm'.out t _ hb.out _ (H.pick (by repeat (first | exact Picks.nil _ | (apply Picks.wr; focus (repeat (first | exact Split.here _ _ | apply Split.there))) | (apply Picks.rd; focus (repeat (first | exact Split.here _ _ | apply Split.there))))))) ?_; rintro e w' ⟨rfl, H'⟩; replace H := H.of_ext H'; clear H')
        | (refine loud_ rfl ?_; refine wpList_plain rfl (fun K hK => ?_); (first | (refine op_box _ _ rfl H (fun b w' H1 => hK _ _ ?_)) | (refine op_alloc _ rfl (zero_of _ _ rfl) H (fun b w' H1 => hK _ _ ?_)) | (refine op_store _ _ _ rfl rfl rfl H (by repeat (first | exact Split.here _ _ | apply Split.there)) (by kernel_rfl) (by kernel_rfl) (by kernel_rfl) (fun w' H1 => hK _ _ ?_)) | (refine op_buildSlice_all _ _ _ rfl (by first | exact elem22 | exact elem39 | exact elem76 | exact elem154) (by kernel_rfl) (by kernel_rfl) (by kernel_rfl) H (fun b w' H1 => hK _ _ ?_))); clear hK K; replace H := H1; clear H1)); (try clear hc); (try simp only [nrm, splice, Value.cells, Nat.reduceAdd, Act.eval, Act.put] at H); have hc := H.cells; simp only [CellsOf, KnCells, knc, Nat.reduceAdd] at hc))) | go_values | go_skip | go_guarded | go_step | go_upon | go_back | dsimp only)
  go_end0
  exact ⟨rfl, H.sel (by repeat (first | exact Sel.nil _ | (apply Sel.cons; focus (repeat (first | exact Split.here _ _ | apply Split.there)))))⟩
set_option maxRecDepth 8000 in
theorem cancel_2 (d : VD) (ts : List ByteArray) (os : List (Option Vr)) (hm' : Hid (Mem d ts os)) (hhd : d.hd = true) (hdn : d.dn = true) (t : Vr) (ht : Hid (VText d.tg t)) (hb : Hid (matchAll os t = true)) (p g : Nat) (o : Vo) (S : List Nat) (w : World) (H : St S w w (mentsW p g d o ts)) :
    Calls Tryd.prog 41 #[.pointer (some ⟨p, 0, none⟩)] w fun e w' => e = .returned (.tuple #[]) ∧ St S w w' [(true, .is g (guard d { o with canc := true }))] := by
  have hmeGetDowngradeInfo : ∀ (w : World), (method 256 45 (.pointer (some ⟨g, 0, none⟩)) "GetDowngradeInfo").run Tryd.prog w = .ok (105, .pointer (some ⟨g, 0, none⟩)) w := fun w => by kernel_rfl
  have hnaGetDowngradeInfo : ∀ (w : World), (nilAhead 256 45 (.pointer (some ⟨g, 0, none⟩)) "GetDowngradeInfo").run Tryd.prog w = .ok (some false) w := fun w => by kernel_rfl
  have hmeDowngradeCancel : ∀ (w : World), (method 256 45 (.pointer (some ⟨g, 0, none⟩)) "DowngradeCancel").run Tryd.prog w = .ok (102, .pointer (some ⟨g, 0, none⟩)) w := fun w => by kernel_rfl
  have hnaDowngradeCancel : ∀ (w : World), (nilAhead 256 45 (.pointer (some ⟨g, 0, none⟩)) "DowngradeCancel").run Tryd.prog w = .ok (some false) w := fun w => by kernel_rfl
  obtain ⟨cl, st, tg, dn, hd, at', n, cap⟩ := d
  simp only at hhd hdn ht
  subst hhd hdn
  have hc := H.cells; simp only [CellsOf, KnCells, knc, Nat.reduceAdd] at hc
  go_enter Tryd.func41, Tryd.ntmps41
  repeat' (first | (go_big_may; (first
    | go_skip
    | ((first
        | (go_at_call 105; refine Calls.mono (gInfo_ok g _ _ rfl _ (H.obj (by repeat (first | exact Split.here _ _ | apply Split.there)))) ?_; rintro e w' ⟨qi, rfl, H'⟩; replace H := H.merge (by first | exact Strikes.nil _ | (repeat (first | exact Strikes.nil _ | (apply Strikes.cons; focus (repeat (first | exact Split.here _ _ | apply Split.there)))))) H' rfl; clear H')
        | (go_at_call 50; refine Calls.mono (newVersion_ok _ t ht.out _) ?_; rintro e w' ⟨qt, rfl, H'⟩; replace H := H.merge (by first | exact Strikes.nil _ | (repeat (first | exact Strikes.nil _ | (apply Strikes.cons; focus (repeat (first | exact Split.here _ _ | apply Split.there)))))) H' rfl; clear H')
        | (go_at_call 49; refine Calls.mono (must_calls _ _) ?_; rintro e w' ⟨rfl, H'⟩; replace H := H.of_ext H'; clear H')
        | (go_at_call 51; refine Calls.mono (versMatch_at p g _ _ o ts os hm'.out t _ hb.out _ (H.pick (by repeat (first | exact Picks.nil _ | (apply Picks.wr; focus (repeat (first | exact Split.here _ _ | apply Split.there))) | (apply Picks.rd; focus (repeat (first | exact Split.here _ _ | apply Split.there))))))) ?_; rintro e w' ⟨rfl, H'⟩; replace H := H.of_ext H'; clear H')
        | (refine loud_ rfl ?_; refine wpList_plain rfl (fun K hK => ?_); (first | (refine op_box _ _ rfl H (fun b w' H1 => hK _ _ ?_)) | (refine op_alloc _ rfl (zero_of _ _ rfl) H (fun b w' H1 => hK _ _ ?_)) | (refine op_store _ _ _ rfl rfl rfl H (by repeat (first | exact Split.here _ _ | apply Split.there)) (by kernel_rfl) (by kernel_rfl) (by kernel_rfl) (fun w' H1 => hK _ _ ?_)) | (refine op_buildSlice_all _ _ _ rfl (by first | exact elem22 | exact elem39 | exact elem76 | exact elem154) (by kernel_rfl) (by kernel_rfl) (by kernel_rfl) H (fun b w' H1 => hK _ _ ?_))); clear hK K; replace H := H1; clear H1)); (try clear hc); (try simp only [nrm, splice, Value.cells, Nat.reduceAdd, Act.eval, Act.put] at H); have hc := H.cells; simp only [CellsOf, KnCells, knc, Nat.reduceAdd] at hc))) | go_values | go_skip | go_guarded | go_step | go_upon | go_back | dsimp only)
  (try simp only [Act.put, slt])
  refine wp_region_plan (.p [0, 1, 2] (.q [3] (.p [5, 6] (.e 4 (.e 7 (.p [8] .done)))))) [7] (by kernel_rfl) (by kernel_rfl) (fun _ _ d _ _ h => by cases d <;> exact h) H ?_
  clear H
  (try clear hc)
  intro X nX fX wd hcf hS H
  simp only [CellsOf, KnCells, knc, Nat.reduceAdd] at hcf
  have hc := H.cells
  simp only [CellsOf, KnCells, knc, Nat.reduceAdd] at hc
  iterate 3 (refine plan_p (o := ⟨_, _, _, _, _, _⟩) rfl (fun N hN => ?_); go_big_quiet_step (fail); refine wpQuiet_nil (hN _ ?_); clear hN N)
  refine plan_p0 ?_
  iterate 1 (refine plan_q (o := ⟨_, _, _, _, _, _⟩) rfl (fun N hN => ?_); go_big_quiet_step (fail); refine wpQuiet_nil (hN _ ?_); clear hN N)
  refine plan_q0 ?_
  iterate 2 (refine plan_p (o := ⟨_, _, _, _, _, _⟩) rfl (fun N hN => ?_); go_big_quiet_step (fail); refine wpQuiet_nil (hN _ ?_); clear hN N)
  refine plan_p0 ?_
  refine plan_e (o := ⟨_, _, _, _, _, _⟩) rfl rfl (fun K hK => ?_)
  (first | (go_step; refine Calls.mono (bg_calls _) ?_; rintro e w' ⟨T, v, rfl, H'⟩; replace H := H.of_ext H'; clear H') | (go_step; refine Calls.mono (gCancel g _ o _ _ _ (H.pick (by repeat (first | exact Picks.nil _ | (apply Picks.wr; focus (repeat (first | exact Split.here _ _ | apply Split.there))) | (apply Picks.rd; focus (repeat (first | exact Split.here _ _ | apply Split.there))))))) ?_; rintro e w' ⟨rfl, H'⟩; replace H := H.merge (by first | exact Strikes.nil _ | (repeat (first | exact Strikes.nil _ | (apply Strikes.cons; focus (repeat (first | exact Split.here _ _ | apply Split.there)))))) H' rfl; clear H') | (refine op_box _ _ rfl H (fun b w' H1 => ?_); replace H := H1; clear H1) | (refine op_alloc _ rfl (zero_of _ _ rfl) H (fun b w' H1 => ?_); replace H := H1; clear H1) | (refine op_store _ _ _ rfl rfl rfl H (by repeat (first | exact Split.here _ _ | apply Split.there)) (by kernel_rfl) (by kernel_rfl) (by kernel_rfl) (fun w' H1 => ?_); replace H := H1; clear H1) | (refine op_buildSlice_all _ _ _ rfl (by first | exact elem22 | exact elem39 | exact elem76 | exact elem154) (by kernel_rfl) (by kernel_rfl) (by kernel_rfl) H (fun b w' H1 => ?_); replace H := H1; clear H1)); (try clear hc); (try simp only [nrm, splice, Value.cells, Nat.reduceAdd, Act.eval, Act.put] at H); have hc := H.cells; simp only [CellsOf, KnCells, knc, Nat.reduceAdd] at hc; refine hK _ _ (fun _ _ => hS _ (H.sublist (by repeat (first | exact List.Sublist.refl _ | apply List.Sublist.cons))).all) ?_; clear hK K; (try simp only [Act.put, slt])
  refine plan_e (o := ⟨_, _, _, _, _, _⟩) rfl rfl (fun K hK => ?_)
  (first | (go_step; refine Calls.mono (bg_calls _) ?_; rintro e w' ⟨T, v, rfl, H'⟩; replace H := H.of_ext H'; clear H') | (go_step; refine Calls.mono (gCancel g _ o _ _ _ (H.pick (by repeat (first | exact Picks.nil _ | (apply Picks.wr; focus (repeat (first | exact Split.here _ _ | apply Split.there))) | (apply Picks.rd; focus (repeat (first | exact Split.here _ _ | apply Split.there))))))) ?_; rintro e w' ⟨rfl, H'⟩; replace H := H.merge (by first | exact Strikes.nil _ | (repeat (first | exact Strikes.nil _ | (apply Strikes.cons; focus (repeat (first | exact Split.here _ _ | apply Split.there)))))) H' rfl; clear H') | (refine op_box _ _ rfl H (fun b w' H1 => ?_); replace H := H1; clear H1) | (refine op_alloc _ rfl (zero_of _ _ rfl) H (fun b w' H1 => ?_); replace H := H1; clear H1) | (refine op_store _ _ _ rfl rfl rfl H (by repeat (first | exact Split.here _ _ | apply Split.there)) (by kernel_rfl) (by kernel_rfl) (by kernel_rfl) (fun w' H1 => ?_); replace H := H1; clear H1) | (refine op_buildSlice_all _ _ _ rfl (by first | exact elem22 | exact elem39 | exact elem76 | exact elem154) (by kernel_rfl) (by kernel_rfl) (by kernel_rfl) H (fun b w' H1 => ?_); replace H := H1; clear H1)); (try clear hc); (try simp only [nrm, splice, Value.cells, Nat.reduceAdd, Act.eval, Act.put] at H); have hc := H.cells; simp only [CellsOf, KnCells, knc, Nat.reduceAdd] at hc; refine hK _ _ (fun h => (h (by decide)).elim) ?_; clear hK K; (try simp only [Act.put, slt])
  iterate 1 (refine plan_p (o := ⟨_, _, _, _, _, _⟩) rfl (fun N hN => ?_); go_big_quiet_step (fail); refine wpQuiet_nil (hN _ ?_); clear hN N)
  refine plan_p0 ?_
  refine plan_done ?_
  repeat' (first | (go_big_may; (first
    | ((first
        | (refine loud_ rfl ?_; refine wpList_plain rfl (fun K hK => ?_); (first | (refine op_box _ _ rfl H (fun b w' H1 => hK _ _ ?_)) | (refine op_alloc _ rfl (zero_of _ _ rfl) H (fun b w' H1 => hK _ _ ?_)) | (refine op_store _ _ _ rfl rfl rfl H (by repeat (first | exact Split.here _ _ | apply Split.there)) (by kernel_rfl) (by kernel_rfl) (by kernel_rfl) (fun w' H1 => hK _ _ ?_)) | (refine op_buildSlice_all _ _ _ rfl (by first | exact elem22 | exact elem39 | exact elem76 | exact elem154) (by kernel_rfl) (by kernel_rfl) (by kernel_rfl) H (fun b w' H1 => hK _ _ ?_))); clear hK K; replace H := H1; clear H1)); (try clear hc); (try simp only [nrm, splice, Value.cells, Nat.reduceAdd, Act.eval, Act.put] at H); have hc := H.cells; simp only [CellsOf, KnCells, knc, Nat.reduceAdd] at hc))) | go_values | go_skip | go_guarded | go_step | go_upon | go_back | dsimp only)
  go_end0
  exact ⟨rfl, H.sel (by repeat (first | exact Sel.nil _ | (apply Sel.cons; focus (repeat (first | exact Split.here _ _ | apply Split.there)))))⟩
end Go.Proofs.YtdcijhdjddiboaaDoor
