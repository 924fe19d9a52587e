import Derived.Test.YtdcijhdjddiboaaDoorVerU
-- MORE
namespace Go.Proofs.YtdcijhdjddiboaaDoor
set_option linter.unusedVariables false
set_option linter.unusedSimpArgs false
set_option linter.unnecessarySimpa false
open Go.RowKit Go.V

set_option maxRecDepth 8000 in
theorem updSt_0 (d : VD) (hcv : Hid (VOpt d.cl none)) (p g : Nat) (o : Vo) (S : List Nat) (w : World) (H : St S w w [(false, .is p (mon g)), (true, .is g (guard d o)), genv]) :
    Calls Tryd.prog 42 #[.pointer (some ⟨p, 0, none⟩)] w fun e w' => e = .returned (.tuple #[]) ∧ St S w w' [(true, .is g (guard d o))] := by
  have hmeGetClusterVersion : ∀ (w : World), (method 256 45 (.pointer (some ⟨g, 0, none⟩)) "GetClusterVersion").run Tryd.prog w = .ok (104, .pointer (some ⟨g, 0, none⟩)) w := fun w => by kernel_rfl
  have hnaGetClusterVersion : ∀ (w : World), (nilAhead 256 45 (.pointer (some ⟨g, 0, none⟩)) "GetClusterVersion").run Tryd.prog w = .ok (some false) w := fun w => by kernel_rfl
  have hmeGetStorageVersion : ∀ (w : World), (method 256 45 (.pointer (some ⟨g, 0, none⟩)) "GetStorageVersion").run Tryd.prog w = .ok (107, .pointer (some ⟨g, 0, none⟩)) w := fun w => by kernel_rfl
  have hnaGetStorageVersion : ∀ (w : World), (nilAhead 256 45 (.pointer (some ⟨g, 0, none⟩)) "GetStorageVersion").run Tryd.prog w = .ok (some false) w := fun w => by kernel_rfl
  have hmeGetDowngradeInfo : ∀ (w : World), (method 256 45 (.pointer (some ⟨g, 0, none⟩)) "GetDowngradeInfo").run Tryd.prog w = .ok (105, .pointer (some ⟨g, 0, none⟩)) w := fun w => by kernel_rfl
  have hnaGetDowngradeInfo : ∀ (w : World), (nilAhead 256 45 (.pointer (some ⟨g, 0, none⟩)) "GetDowngradeInfo").run Tryd.prog w = .ok (some false) w := fun w => by kernel_rfl
  have hmeUpdateStorageVersion : ∀ (w : World), (method 256 45 (.pointer (some ⟨g, 0, none⟩)) "UpdateStorageVersion").run Tryd.prog w = .ok (110, .pointer (some ⟨g, 0, none⟩)) w := fun w => by kernel_rfl
  have hnaUpdateStorageVersion : ∀ (w : World), (nilAhead 256 45 (.pointer (some ⟨g, 0, none⟩)) "UpdateStorageVersion").run Tryd.prog w = .ok (some false) w := fun w => by kernel_rfl
  have hc := H.cells; simp only [CellsOf, KnCells, knc, Nat.reduceAdd] at hc
  go_enter Tryd.func42, Tryd.ntmps42
  repeat' (first | (go_big_may; (first
    | go_skip
    | ((first
        | (go_at_call 104; refine Calls.mono (gGetClusterVersion_no g _ o hcv _ (H.rep (R := GEnv) (by repeat (first | exact Split.here _ _ | apply Split.there))).2 (H.obj (by repeat (first | exact Split.here _ _ | apply Split.there)))) ?_; rintro e w' ⟨rfl, H'⟩; replace H := H.of_ext H'; clear H')
        | (refine loud_ rfl ?_; refine wpList_plain rfl (fun K hK => ?_); (first | (refine op_box _ _ rfl H (fun b w' H1 => hK _ _ ?_)) | (refine op_alloc _ rfl (zero_of _ _ rfl) H (fun b w' H1 => hK _ _ ?_)) | (refine op_store _ _ _ rfl rfl rfl H (by repeat (first | exact Split.here _ _ | apply Split.there)) (by kernel_rfl) (by kernel_rfl) (by kernel_rfl) (fun w' H1 => hK _ _ ?_)) | (refine op_buildSlice_all _ _ _ rfl (by first | exact elem22 | exact elem39 | exact elem76 | exact elem154) (by kernel_rfl) (by kernel_rfl) (by kernel_rfl) H (fun b w' H1 => hK _ _ ?_))); clear hK K; replace H := H1; clear H1)); (try clear hc); (try simp only [nrm, splice, Value.cells, Nat.reduceAdd, Act.eval, Act.put] at H); have hc := H.cells; simp only [CellsOf, KnCells, knc, Nat.reduceAdd] at hc))) | go_values | go_skip | go_guarded | go_step | go_upon | go_back | dsimp only)
  (try simp only [Exit.inBlock, Exit.then])
  refine bodyPost_ret_by (results_none rfl _ _ _) rfl ?_
  exact ⟨rfl, H.sel (by repeat (first | exact Sel.nil _ | (apply Sel.cons; focus (repeat (first | exact Split.here _ _ | apply Split.there)))))⟩
set_option maxRecDepth 8000 in
theorem updSt_1 (d : VD) (c : Vr) (hcv : Hid (VText d.cl c)) (h3 : ((vstr c).toList == [51, 46, 48, 46, 48]) = true) (p g : Nat) (o : Vo) (S : List Nat) (w : World) (H : St S w w [(false, .is p (mon g)), (true, .is g (guard d o)), genv]) :
    Calls Tryd.prog 42 #[.pointer (some ⟨p, 0, none⟩)] w fun e w' => e = .returned (.tuple #[]) ∧ St S w w' [(true, .is g (guard d o))] := by
  have hmeGetClusterVersion : ∀ (w : World), (method 256 45 (.pointer (some ⟨g, 0, none⟩)) "GetClusterVersion").run Tryd.prog w = .ok (104, .pointer (some ⟨g, 0, none⟩)) w := fun w => by kernel_rfl
  have hnaGetClusterVersion : ∀ (w : World), (nilAhead 256 45 (.pointer (some ⟨g, 0, none⟩)) "GetClusterVersion").run Tryd.prog w = .ok (some false) w := fun w => by kernel_rfl
  have hmeGetStorageVersion : ∀ (w : World), (method 256 45 (.pointer (some ⟨g, 0, none⟩)) "GetStorageVersion").run Tryd.prog w = .ok (107, .pointer (some ⟨g, 0, none⟩)) w := fun w => by kernel_rfl
  have hnaGetStorageVersion : ∀ (w : World), (nilAhead 256 45 (.pointer (some ⟨g, 0, none⟩)) "GetStorageVersion").run Tryd.prog w = .ok (some false) w := fun w => by kernel_rfl
  have hmeGetDowngradeInfo : ∀ (w : World), (method 256 45 (.pointer (some ⟨g, 0, none⟩)) "GetDowngradeInfo").run Tryd.prog w = .ok (105, .pointer (some ⟨g, 0, none⟩)) w := fun w => by kernel_rfl
  have hnaGetDowngradeInfo : ∀ (w : World), (nilAhead 256 45 (.pointer (some ⟨g, 0, none⟩)) "GetDowngradeInfo").run Tryd.prog w = .ok (some false) w := fun w => by kernel_rfl
  have hmeUpdateStorageVersion : ∀ (w : World), (method 256 45 (.pointer (some ⟨g, 0, none⟩)) "UpdateStorageVersion").run Tryd.prog w = .ok (110, .pointer (some ⟨g, 0, none⟩)) w := fun w => by kernel_rfl
  have hnaUpdateStorageVersion : ∀ (w : World), (nilAhead 256 45 (.pointer (some ⟨g, 0, none⟩)) "UpdateStorageVersion").run Tryd.prog w = .ok (some false) w := fun w => by kernel_rfl
  have hcok := Lib.hid hcv.out.1
  obtain ⟨c1, c2, c3⟩ := c
  have hc := H.cells; simp only [CellsOf, KnCells, knc, Nat.reduceAdd] at hc
  go_enter Tryd.func42, Tryd.ntmps42
  repeat' (first | (go_big_may; (first
    | go_skip
    | ((first
        | (go_at_call 104; refine Calls.mono (gGetClusterVersion_ok g _ o _ hcv _ (H.obj (by repeat (first | exact Split.here _ _ | apply Split.there)))) ?_; rintro e w' ⟨qc, rfl, H'⟩; replace H := H.merge (by first | exact Strikes.nil _ | (repeat (first | exact Strikes.nil _ | (apply Strikes.cons; focus (repeat (first | exact Split.here _ _ | apply Split.there)))))) H' rfl; clear H')
        | (go_at_call 48; refine Calls.mono (string_calls _ hcok.out _ (H.rep (R := GEnv) (by repeat (first | exact Split.here _ _ | apply Split.there))).1) ?_; rintro e w' ⟨rfl, H'⟩; replace H := H.of_ext H'; clear H')
        | (refine loud_ rfl ?_; refine wpList_plain rfl (fun K hK => ?_); (first | (refine op_box _ _ rfl H (fun b w' H1 => hK _ _ ?_)) | (refine op_alloc _ rfl (zero_of _ _ rfl) H (fun b w' H1 => hK _ _ ?_)) | (refine op_store _ _ _ rfl rfl rfl H (by repeat (first | exact Split.here _ _ | apply Split.there)) (by kernel_rfl) (by kernel_rfl) (by kernel_rfl) (fun w' H1 => hK _ _ ?_)) | (refine op_buildSlice_all _ _ _ rfl (by first | exact elem22 | exact elem39 | exact elem76 | exact elem154) (by kernel_rfl) (by kernel_rfl) (by kernel_rfl) H (fun b w' H1 => hK _ _ ?_))); clear hK K; replace H := H1; clear H1)); (try clear hc); (try simp only [nrm, splice, Value.cells, Nat.reduceAdd, Act.eval, Act.put] at H); have hc := H.cells; simp only [CellsOf, KnCells, knc, Nat.reduceAdd] at hc))) | go_values | go_skip | go_guarded | go_step | go_upon | go_back | dsimp only)
  (try simp only [Exit.inBlock, Exit.then])
  refine bodyPost_ret_by (results_none rfl _ _ _) rfl ?_
  exact ⟨rfl, H.sel (by repeat (first | exact Sel.nil _ | (apply Sel.cons; focus (repeat (first | exact Split.here _ _ | apply Split.there)))))⟩
set_option maxRecDepth 8000 in
theorem updSt_2a (d : VD) (c : Vr) (hcv : Hid (VText d.cl c)) (h3 : ((vstr c).toList == [51, 46, 48, 46, 48]) = false) (hsv : Hid (VOpt d.st none)) (hhd : d.hd = false) (p g : Nat) (o : Vo) (S : List Nat) (w : World) (H : St S w w [(false, .is p (mon g)), (true, .is g (guard d o)), genv]) :
    Calls Tryd.prog 42 #[.pointer (some ⟨p, 0, none⟩)] w fun e w' => e = .returned (.tuple #[]) ∧ St S w w' [(true, .is g (guard d { o with st := vstr ⟨c.a, c.b, 0⟩ }))] := by
  have hmeGetClusterVersion : ∀ (w : World), (method 256 45 (.pointer (some ⟨g, 0, none⟩)) "GetClusterVersion").run Tryd.prog w = .ok (104, .pointer (some ⟨g, 0, none⟩)) w := fun w => by kernel_rfl
  have hnaGetClusterVersion : ∀ (w : World), (nilAhead 256 45 (.pointer (some ⟨g, 0, none⟩)) "GetClusterVersion").run Tryd.prog w = .ok (some false) w := fun w => by kernel_rfl
  have hmeGetStorageVersion : ∀ (w : World), (method 256 45 (.pointer (some ⟨g, 0, none⟩)) "GetStorageVersion").run Tryd.prog w = .ok (107, .pointer (some ⟨g, 0, none⟩)) w := fun w => by kernel_rfl
  have hnaGetStorageVersion : ∀ (w : World), (nilAhead 256 45 (.pointer (some ⟨g, 0, none⟩)) "GetStorageVersion").run Tryd.prog w = .ok (some false) w := fun w => by kernel_rfl
  have hmeGetDowngradeInfo : ∀ (w : World), (method 256 45 (.pointer (some ⟨g, 0, none⟩)) "GetDowngradeInfo").run Tryd.prog w = .ok (105, .pointer (some ⟨g, 0, none⟩)) w := fun w => by kernel_rfl
  have hnaGetDowngradeInfo : ∀ (w : World), (nilAhead 256 45 (.pointer (some ⟨g, 0, none⟩)) "GetDowngradeInfo").run Tryd.prog w = .ok (some false) w := fun w => by kernel_rfl
  have hmeUpdateStorageVersion : ∀ (w : World), (method 256 45 (.pointer (some ⟨g, 0, none⟩)) "UpdateStorageVersion").run Tryd.prog w = .ok (110, .pointer (some ⟨g, 0, none⟩)) w := fun w => by kernel_rfl
  have hnaUpdateStorageVersion : ∀ (w : World), (nilAhead 256 45 (.pointer (some ⟨g, 0, none⟩)) "UpdateStorageVersion").run Tryd.prog w = .ok (some false) w := fun w => by kernel_rfl
  have hcok := Lib.hid hcv.out.1
  obtain ⟨c1, c2, c3⟩ := c
  have hcs : Hid ((⟨c1, c2, 0⟩ : Vr).Ok) := ⟨hcok.out.a, hcok.out.b, (by show (0 : Int) ≤ 0 ∧ (0 : Int) ≤ 9999; omega)⟩
  obtain ⟨cl, st, tg, dn, hd, at', n, cap⟩ := d
  simp only at hhd
  subst hhd
  have hc := H.cells; simp only [CellsOf, KnCells, knc, Nat.reduceAdd] at hc
  go_enter Tryd.func42, Tryd.ntmps42
  repeat' (first | (go_big_may; (first
    | go_skip
    | ((first
        | (go_at_call 104; refine Calls.mono (gGetClusterVersion_ok g _ o _ hcv _ (H.obj (by repeat (first | exact Split.here _ _ | apply Split.there)))) ?_; rintro e w' ⟨qc, rfl, H'⟩; replace H := H.merge (by first | exact Strikes.nil _ | (repeat (first | exact Strikes.nil _ | (apply Strikes.cons; focus (repeat (first | exact Split.here _ _ | apply Split.there)))))) H' rfl; clear H')
        | (go_at_call 48; refine Calls.mono (string_calls _ hcok.out _ (H.rep (R := GEnv) (by repeat (first | exact Split.here _ _ | apply Split.there))).1) ?_; rintro e w' ⟨rfl, H'⟩; replace H := H.of_ext H'; clear H')
        | (go_at_call 107; refine Calls.mono (gGetStorageVersion_no g _ o hsv _ (H.rep (R := GEnv) (by repeat (first | exact Split.here _ _ | apply Split.there))).2 (H.obj (by repeat (first | exact Split.here _ _ | apply Split.there)))) ?_; rintro e w' ⟨rfl, H'⟩; replace H := H.of_ext H'; clear H')
        | (refine loud_ rfl ?_; refine wpList_plain rfl (fun K hK => ?_); (first | (refine op_box _ _ rfl H (fun b w' H1 => hK _ _ ?_)) | (refine op_alloc _ rfl (zero_of _ _ rfl) H (fun b w' H1 => hK _ _ ?_)) | (refine op_store _ _ _ rfl rfl rfl H (by repeat (first | exact Split.here _ _ | apply Split.there)) (by kernel_rfl) (by kernel_rfl) (by kernel_rfl) (fun w' H1 => hK _ _ ?_)) | (refine op_buildSlice_all _ _ _ rfl (by first | exact elem22 | exact elem39 | exact elem76 | exact elem154) (by kernel_rfl) (by kernel_rfl) (by kernel_rfl) H (fun b w' H1 => hK _ _ ?_))); clear hK K; replace H := H1; clear H1)); (try clear hc); (try simp only [nrm, splice, Value.cells, Nat.reduceAdd, Act.eval, Act.put] at H); have hc := H.cells; simp only [CellsOf, KnCells, knc, Nat.reduceAdd] at hc))) | go_values | go_skip | go_guarded | go_step | go_upon | go_back | dsimp only)
  (try simp only [Act.put, slt])
  refine wp_region_plan (.p [0, 1, 2, 3, 4, 5] (.q [6] (.p [7, 8, 9] (.q [10] (.p [11, 12, 13, 14, 15, 16] (.q [17] (.p [18, 19, 20] (.q [21] (.p [22, 23] .done))))))))) [] (by kernel_rfl) (by kernel_rfl) (fun _ _ d _ _ h => by cases d <;> exact h) H ?_
  clear H
  (try clear hc)
  intro X nX fX wd hcf hS H
  simp only [CellsOf, KnCells, knc, Nat.reduceAdd] at hcf
  have hc := H.cells
  simp only [CellsOf, KnCells, knc, Nat.reduceAdd] at hc
  iterate 3 (refine plan_p (o := ⟨_, _, _, _, _, _⟩) rfl (fun N hN => ?_); go_big_quiet_step (fail); refine wpQuiet_nil (hN _ ?_); clear hN N)
  first | (refine plan_p_no (o := ⟨_, _, _, _, _, _⟩) rfl rfl rfl rfl (rfl) ?_; (try simp only [Act.put, slt])) | (iterate 1 (refine plan_p (o := ⟨_, _, _, _, _, _⟩) rfl (fun N hN => ?_); go_big_quiet_step (fail); refine wpQuiet_nil (hN _ ?_); clear hN N))
  first | (refine plan_p_no (o := ⟨_, _, _, _, _, _⟩) rfl rfl rfl rfl (rfl) ?_; (try simp only [Act.put, slt])) | (iterate 1 (refine plan_p (o := ⟨_, _, _, _, _, _⟩) rfl (fun N hN => ?_); go_big_quiet_step (fail); refine wpQuiet_nil (hN _ ?_); clear hN N))
  first | (refine plan_p_no (o := ⟨_, _, _, _, _, _⟩) rfl rfl rfl rfl (rfl) ?_; (try simp only [Act.put, slt])) | (iterate 1 (refine plan_p (o := ⟨_, _, _, _, _, _⟩) rfl (fun N hN => ?_); go_big_quiet_step (fail); refine wpQuiet_nil (hN _ ?_); clear hN N))
  refine plan_p0 ?_
  first | (refine plan_q_no (o := ⟨_, _, _, _, _, _⟩) rfl rfl rfl rfl (rfl) ?_; (try simp only [Act.put, slt])) | (iterate 1 (refine plan_q (o := ⟨_, _, _, _, _, _⟩) rfl (fun N hN => ?_); go_big_quiet_step (fail); refine wpQuiet_nil (hN _ ?_); clear hN N))
  refine plan_q0 ?_
  first | (refine plan_p_no (o := ⟨_, _, _, _, _, _⟩) rfl rfl rfl rfl (rfl) ?_; (try simp only [Act.put, slt])) | (iterate 1 (refine plan_p (o := ⟨_, _, _, _, _, _⟩) rfl (fun N hN => ?_); go_big_quiet_step (fail); refine wpQuiet_nil (hN _ ?_); clear hN N))
  first | (refine plan_p_no (o := ⟨_, _, _, _, _, _⟩) rfl rfl rfl rfl (rfl) ?_; (try simp only [Act.put, slt])) | (iterate 1 (refine plan_p (o := ⟨_, _, _, _, _, _⟩) rfl (fun N hN => ?_); go_big_quiet_step (fail); refine wpQuiet_nil (hN _ ?_); clear hN N))
  first | (refine plan_p_no (o := ⟨_, _, _, _, _, _⟩) rfl rfl rfl rfl (rfl) ?_; (try simp only [Act.put, slt])) | (iterate 1 (refine plan_p (o := ⟨_, _, _, _, _, _⟩) rfl (fun N hN => ?_); go_big_quiet_step (fail); refine wpQuiet_nil (hN _ ?_); clear hN N))
  refine plan_p0 ?_
  first | (refine plan_q_no (o := ⟨_, _, _, _, _, _⟩) rfl rfl rfl rfl (rfl) ?_; (try simp only [Act.put, slt])) | (iterate 1 (refine plan_q (o := ⟨_, _, _, _, _, _⟩) rfl (fun N hN => ?_); go_big_quiet_step (fail); refine wpQuiet_nil (hN _ ?_); clear hN N))
  refine plan_q0 ?_
  first | (refine plan_p_no (o := ⟨_, _, _, _, _, _⟩) rfl rfl rfl rfl (rfl) ?_; (try simp only [Act.put, slt])) | (iterate 1 (refine plan_p (o := ⟨_, _, _, _, _, _⟩) rfl (fun N hN => ?_); go_big_quiet_step (fail); refine wpQuiet_nil (hN _ ?_); clear hN N))
  iterate 2 (refine plan_p (o := ⟨_, _, _, _, _, _⟩) rfl (fun N hN => ?_); go_big_quiet_step (fail); refine wpQuiet_nil (hN _ ?_); clear hN N)
  first | (refine plan_p_no (o := ⟨_, _, _, _, _, _⟩) rfl rfl rfl rfl (rfl) ?_; (try simp only [Act.put, slt])) | (iterate 1 (refine plan_p (o := ⟨_, _, _, _, _, _⟩) rfl (fun N hN => ?_); go_big_quiet_step (fail); refine wpQuiet_nil (hN _ ?_); clear hN N))
  first | (refine plan_p_no (o := ⟨_, _, _, _, _, _⟩) rfl rfl rfl rfl (rfl) ?_; (try simp only [Act.put, slt])) | (iterate 1 (refine plan_p (o := ⟨_, _, _, _, _, _⟩) rfl (fun N hN => ?_); go_big_quiet_step (fail); refine wpQuiet_nil (hN _ ?_); clear hN N))
  first | (refine plan_p_no (o := ⟨_, _, _, _, _, _⟩) rfl rfl rfl rfl (rfl) ?_; (try simp only [Act.put, slt])) | (iterate 1 (refine plan_p (o := ⟨_, _, _, _, _, _⟩) rfl (fun N hN => ?_); go_big_quiet_step (fail); refine wpQuiet_nil (hN _ ?_); clear hN N))
  refine plan_p0 ?_
  first | (refine plan_q_no (o := ⟨_, _, _, _, _, _⟩) rfl rfl rfl rfl (rfl) ?_; (try simp only [Act.put, slt])) | (iterate 1 (refine plan_q (o := ⟨_, _, _, _, _, _⟩) rfl (fun N hN => ?_); go_big_quiet_step (fail); refine wpQuiet_nil (hN _ ?_); clear hN N))
  refine plan_q0 ?_
  first | (refine plan_p_no (o := ⟨_, _, _, _, _, _⟩) rfl rfl rfl rfl (rfl) ?_; (try simp only [Act.put, slt])) | (iterate 1 (refine plan_p (o := ⟨_, _, _, _, _, _⟩) rfl (fun N hN => ?_); go_big_quiet_step (fail); refine wpQuiet_nil (hN _ ?_); clear hN N))
  first | (refine plan_p_no (o := ⟨_, _, _, _, _, _⟩) rfl rfl rfl rfl (rfl) ?_; (try simp only [Act.put, slt])) | (iterate 1 (refine plan_p (o := ⟨_, _, _, _, _, _⟩) rfl (fun N hN => ?_); go_big_quiet_step (fail); refine wpQuiet_nil (hN _ ?_); clear hN N))
  first | (refine plan_p_no (o := ⟨_, _, _, _, _, _⟩) rfl rfl rfl rfl (rfl) ?_; (try simp only [Act.put, slt])) | (iterate 1 (refine plan_p (o := ⟨_, _, _, _, _, _⟩) rfl (fun N hN => ?_); go_big_quiet_step (fail); refine wpQuiet_nil (hN _ ?_); clear hN N))
  refine plan_p0 ?_
  first | (refine plan_q_no (o := ⟨_, _, _, _, _, _⟩) rfl rfl rfl rfl (rfl) ?_; (try simp only [Act.put, slt])) | (iterate 1 (refine plan_q (o := ⟨_, _, _, _, _, _⟩) rfl (fun N hN => ?_); go_big_quiet_step (fail); refine wpQuiet_nil (hN _ ?_); clear hN N))
  refine plan_q0 ?_
  first | (refine plan_p_no (o := ⟨_, _, _, _, _, _⟩) rfl rfl rfl rfl (rfl) ?_; (try simp only [Act.put, slt])) | (iterate 1 (refine plan_p (o := ⟨_, _, _, _, _, _⟩) rfl (fun N hN => ?_); go_big_quiet_step (fail); refine wpQuiet_nil (hN _ ?_); clear hN N))
  iterate 1 (refine plan_p (o := ⟨_, _, _, _, _, _⟩) rfl (fun N hN => ?_); go_big_quiet_step (fail); refine wpQuiet_nil (hN _ ?_); clear hN N)
  refine plan_p0 ?_
  refine plan_done ?_
  repeat' (first | (go_big_may; (first
    | ((first
        | (refine loud_ rfl ?_; refine wpList_plain rfl (fun K hK => ?_); (first | (refine op_box _ _ rfl H (fun b w' H1 => hK _ _ ?_)) | (refine op_alloc _ rfl (zero_of _ _ rfl) H (fun b w' H1 => hK _ _ ?_)) | (refine op_store _ _ _ rfl rfl rfl H (by repeat (first | exact Split.here _ _ | apply Split.there)) (by kernel_rfl) (by kernel_rfl) (by kernel_rfl) (fun w' H1 => hK _ _ ?_)) | (refine op_buildSlice_all _ _ _ rfl (by first | exact elem22 | exact elem39 | exact elem76 | exact elem154) (by kernel_rfl) (by kernel_rfl) (by kernel_rfl) H (fun b w' H1 => hK _ _ ?_))); clear hK K; replace H := H1; clear H1)); (try clear hc); (try simp only [nrm, splice, Value.cells, Nat.reduceAdd, Act.eval, Act.put] at H); have hc := H.cells; simp only [CellsOf, KnCells, knc, Nat.reduceAdd] at hc))) | go_values | go_skip | go_guarded | go_step | go_upon | go_back | dsimp only)
  (try simp only [Act.put, slt])
  refine wp_region_plan (.p [0, 1, 2] (.q [3] (.p [4, 5, 6] (.q [7] (.p [8, 9, 10] (.q [11] (.p [12, 13, 14] (.e 15 (.p [16] .done))))))))) [15] (by kernel_rfl) (by kernel_rfl) (fun _ _ d _ _ h => by cases d <;> exact h) H ?_
  clear H
  (try clear hc)
  intro X nX fX wd hcf hS H
  simp only [CellsOf, KnCells, knc, Nat.reduceAdd] at hcf
  have hc := H.cells
  simp only [CellsOf, KnCells, knc, Nat.reduceAdd] at hc
  iterate 3 (refine plan_p (o := ⟨_, _, _, _, _, _⟩) rfl (fun N hN => ?_); go_big_quiet_step (fail); refine wpQuiet_nil (hN _ ?_); clear hN N)
  refine plan_p0 ?_
  iterate 1 (refine plan_q (o := ⟨_, _, _, _, _, _⟩) rfl (fun N hN => ?_); go_big_quiet_step (fail); refine wpQuiet_nil (hN _ ?_); clear hN N)
  refine plan_q0 ?_
  iterate 3 (refine plan_p (o := ⟨_, _, _, _, _, _⟩) rfl (fun N hN => ?_); go_big_quiet_step (fail); refine wpQuiet_nil (hN _ ?_); clear hN N)
  refine plan_p0 ?_
  iterate 1 (refine plan_q (o := ⟨_, _, _, _, _, _⟩) rfl (fun N hN => ?_); go_big_quiet_step (fail); refine wpQuiet_nil (hN _ ?_); clear hN N)
  refine plan_q0 ?_
  iterate 3 (refine plan_p (o := ⟨_, _, _, _, _, _⟩) rfl (fun N hN => ?_); go_big_quiet_step (fail); refine wpQuiet_nil (hN _ ?_); clear hN N)
  refine plan_p0 ?_
  iterate 1 (refine plan_q (o := ⟨_, _, _, _, _, _⟩) rfl (fun N hN => ?_); go_big_quiet_step (fail); refine wpQuiet_nil (hN _ ?_); clear hN N)
  refine plan_q0 ?_
  iterate 3 (refine plan_p (o := ⟨_, _, _, _, _, _⟩) rfl (fun N hN => ?_); go_big_quiet_step (fail); refine wpQuiet_nil (hN _ ?_); clear hN N)
  refine plan_p0 ?_
  refine plan_e (o := ⟨_, _, _, _, _, _⟩) rfl rfl (fun K hK => ?_)
  (first | (go_step; refine Calls.mono (gUpdSt g _ o ⟨c1, c2, 0⟩ hcs.out _ _ (H.pick (by repeat (first | exact Picks.nil _ | (apply Picks.wr; focus (repeat (first | exact Split.here _ _ | apply Split.there))) | (apply Picks.rd; focus (repeat (first | exact Split.here _ _ | apply Split.there))))))) ?_; rintro e w' ⟨rfl, H'⟩; replace H := H.merge (by first | exact Strikes.nil _ | (repeat (first | exact Strikes.nil _ | (apply Strikes.cons; focus (repeat (first | exact Split.here _ _ | apply Split.there)))))) H' rfl; clear H') | (refine op_box _ _ rfl H (fun b w' H1 => ?_); replace H := H1; clear H1) | (refine op_alloc _ rfl (zero_of _ _ rfl) H (fun b w' H1 => ?_); replace H := H1; clear H1) | (refine op_store _ _ _ rfl rfl rfl H (by repeat (first | exact Split.here _ _ | apply Split.there)) (by kernel_rfl) (by kernel_rfl) (by kernel_rfl) (fun w' H1 => ?_); replace H := H1; clear H1) | (refine op_buildSlice_all _ _ _ rfl (by first | exact elem22 | exact elem39 | exact elem76 | exact elem154) (by kernel_rfl) (by kernel_rfl) (by kernel_rfl) H (fun b w' H1 => ?_); replace H := H1; clear H1)); (try clear hc); (try simp only [nrm, splice, Value.cells, Nat.reduceAdd, Act.eval, Act.put] at H); have hc := H.cells; simp only [CellsOf, KnCells, knc, Nat.reduceAdd] at hc; refine hK _ _ (fun h => (h (by decide)).elim) ?_; clear hK K; (try simp only [Act.put, slt])
  iterate 1 (refine plan_p (o := ⟨_, _, _, _, _, _⟩) rfl (fun N hN => ?_); go_big_quiet_step (fail); refine wpQuiet_nil (hN _ ?_); clear hN N)
  refine plan_p0 ?_
  refine plan_done ?_
  repeat' (first | (go_big_may; (first
    | go_skip
    | ((first
        | (go_at_call 105; refine Calls.mono (gInfo_no g _ _ rfl _ (H.obj (by repeat (first | exact Split.here _ _ | apply Split.there)))) ?_; rintro e w' ⟨rfl, H'⟩; replace H := H.of_ext H'; clear H')
        | (refine loud_ rfl ?_; refine wpList_plain rfl (fun K hK => ?_); (first | (refine op_box _ _ rfl H (fun b w' H1 => hK _ _ ?_)) | (refine op_alloc _ rfl (zero_of _ _ rfl) H (fun b w' H1 => hK _ _ ?_)) | (refine op_store _ _ _ rfl rfl rfl H (by repeat (first | exact Split.here _ _ | apply Split.there)) (by kernel_rfl) (by kernel_rfl) (by kernel_rfl) (fun w' H1 => hK _ _ ?_)) | (refine op_buildSlice_all _ _ _ rfl (by first | exact elem22 | exact elem39 | exact elem76 | exact elem154) (by kernel_rfl) (by kernel_rfl) (by kernel_rfl) H (fun b w' H1 => hK _ _ ?_))); clear hK K; replace H := H1; clear H1)); (try clear hc); (try simp only [nrm, splice, Value.cells, Nat.reduceAdd, Act.eval, Act.put] at H); have hc := H.cells; simp only [CellsOf, KnCells, knc, Nat.reduceAdd] at hc))) | go_values | go_skip | go_guarded | go_step | go_upon | go_back | dsimp only)
  go_end0
  exact ⟨rfl, H.sel (by repeat (first | exact Sel.nil _ | (apply Sel.cons; focus (repeat (first | exact Split.here _ _ | apply Split.there)))))⟩
set_option maxRecDepth 8000 in
theorem updSt_3a (d : VD) (c : Vr) (hcv : Hid (VText d.cl c)) (h3 : ((vstr c).toList == [51, 46, 48, 46, 48]) = false) (s : Vr) (hsv : Hid (VText d.st s)) (ha : s.a ≠ c.a) (hhd : d.hd = false) (p g : Nat) (o : Vo) (S : List Nat) (w : World) (H : St S w w [(false, .is p (mon g)), (true, .is g (guard d o)), genv]) :
    Calls Tryd.prog 42 #[.pointer (some ⟨p, 0, none⟩)] w fun e w' => e = .returned (.tuple #[]) ∧ St S w w' [(true, .is g (guard d { o with st := vstr ⟨c.a, c.b, 0⟩ }))] := by
  have hmeGetClusterVersion : ∀ (w : World), (method 256 45 (.pointer (some ⟨g, 0, none⟩)) "GetClusterVersion").run Tryd.prog w = .ok (104, .pointer (some ⟨g, 0, none⟩)) w := fun w => by kernel_rfl
  have hnaGetClusterVersion : ∀ (w : World), (nilAhead 256 45 (.pointer (some ⟨g, 0, none⟩)) "GetClusterVersion").run Tryd.prog w = .ok (some false) w := fun w => by kernel_rfl
  have hmeGetStorageVersion : ∀ (w : World), (method 256 45 (.pointer (some ⟨g, 0, none⟩)) "GetStorageVersion").run Tryd.prog w = .ok (107, .pointer (some ⟨g, 0, none⟩)) w := fun w => by kernel_rfl
  have hnaGetStorageVersion : ∀ (w : World), (nilAhead 256 45 (.pointer (some ⟨g, 0, none⟩)) "GetStorageVersion").run Tryd.prog w = .ok (some false) w := fun w => by kernel_rfl
  have hmeGetDowngradeInfo : ∀ (w : World), (method 256 45 (.pointer (some ⟨g, 0, none⟩)) "GetDowngradeInfo").run Tryd.prog w = .ok (105, .pointer (some ⟨g, 0, none⟩)) w := fun w => by kernel_rfl
  have hnaGetDowngradeInfo : ∀ (w : World), (nilAhead 256 45 (.pointer (some ⟨g, 0, none⟩)) "GetDowngradeInfo").run Tryd.prog w = .ok (some false) w := fun w => by kernel_rfl
  have hmeUpdateStorageVersion : ∀ (w : World), (method 256 45 (.pointer (some ⟨g, 0, none⟩)) "UpdateStorageVersion").run Tryd.prog w = .ok (110, .pointer (some ⟨g, 0, none⟩)) w := fun w => by kernel_rfl
  have hnaUpdateStorageVersion : ∀ (w : World), (nilAhead 256 45 (.pointer (some ⟨g, 0, none⟩)) "UpdateStorageVersion").run Tryd.prog w = .ok (some false) w := fun w => by kernel_rfl
  have hcok := Lib.hid hcv.out.1
  obtain ⟨c1, c2, c3⟩ := c
  obtain ⟨s1, s2, s3⟩ := s
  have ha2 : ¬ s1 = c1 := ha
  have hx4 : Hid (¬ s1 = c1) := ha
  have hx1 : Hid ((s1 != c1) = !false) := (by simp [ha2] : (s1 != c1) = !false)
  clear ha ha2
  have hcs : Hid ((⟨c1, c2, 0⟩ : Vr).Ok) := ⟨hcok.out.a, hcok.out.b, (by show (0 : Int) ≤ 0 ∧ (0 : Int) ≤ 9999; omega)⟩
  obtain ⟨cl, st, tg, dn, hd, at', n, cap⟩ := d
  simp only at hhd
  subst hhd
  have hc := H.cells; simp only [CellsOf, KnCells, knc, Nat.reduceAdd] at hc
  go_enter Tryd.func42, Tryd.ntmps42
  repeat' (first | (go_big_may; (first
    | go_skip
    | ((first
        | (go_at_call 104; refine Calls.mono (gGetClusterVersion_ok g _ o _ hcv _ (H.obj (by repeat (first | exact Split.here _ _ | apply Split.there)))) ?_; rintro e w' ⟨qc, rfl, H'⟩; replace H := H.merge (by first | exact Strikes.nil _ | (repeat (first | exact Strikes.nil _ | (apply Strikes.cons; focus (repeat (first | exact Split.here _ _ | apply Split.there)))))) H' rfl; clear H')
        | (go_at_call 48; refine Calls.mono (string_calls _ hcok.out _ (H.rep (R := GEnv) (by repeat (first | exact Split.here _ _ | apply Split.there))).1) ?_; rintro e w' ⟨rfl, H'⟩; replace H := H.of_ext H'; clear H')
        | (go_at_call 107; refine Calls.mono (gGetStorageVersion_ok g _ o _ hsv _ (H.obj (by repeat (first | exact Split.here _ _ | apply Split.there)))) ?_; rintro e w' ⟨qs, rfl, H'⟩; replace H := H.merge (by first | exact Strikes.nil _ | (repeat (first | exact Strikes.nil _ | (apply Strikes.cons; focus (repeat (first | exact Split.here _ _ | apply Split.there)))))) H' rfl; clear H')
        | (refine loud_ rfl ?_; refine wpList_plain rfl (fun K hK => ?_); (first | (refine op_box _ _ rfl H (fun b w' H1 => hK _ _ ?_)) | (refine op_alloc _ rfl (zero_of _ _ rfl) H (fun b w' H1 => hK _ _ ?_)) | (refine op_store _ _ _ rfl rfl rfl H (by repeat (first | exact Split.here _ _ | apply Split.there)) (by kernel_rfl) (by kernel_rfl) (by kernel_rfl) (fun w' H1 => hK _ _ ?_)) | (refine op_buildSlice_all _ _ _ rfl (by first | exact elem22 | exact elem39 | exact elem76 | exact elem154) (by kernel_rfl) (by kernel_rfl) (by kernel_rfl) H (fun b w' H1 => hK _ _ ?_))); clear hK K; replace H := H1; clear H1)); (try clear hc); (try simp only [nrm, splice, Value.cells, Nat.reduceAdd, Act.eval, Act.put] at H); have hc := H.cells; simp only [CellsOf, KnCells, knc, Nat.reduceAdd] at hc))) | go_values | go_skip | go_guarded | go_step | go_upon | go_back | dsimp only)
  (try simp only [Act.put, slt])
  refine wp_region_plan (.p [0, 1, 2, 3, 4, 5] (.q [6] (.p [7, 8, 9] (.q [10] (.p [11, 12, 13, 14, 15, 16] (.q [17] (.p [18, 19, 20] (.q [21] (.p [22, 23] .done))))))))) [] (by kernel_rfl) (by kernel_rfl) (fun _ _ d _ _ h => by cases d <;> exact h) H ?_
  clear H
  (try clear hc)
  intro X nX fX wd hcf hS H
  simp only [CellsOf, KnCells, knc, Nat.reduceAdd] at hcf
  have hc := H.cells
  simp only [CellsOf, KnCells, knc, Nat.reduceAdd] at hc
  iterate 3 (refine plan_p (o := ⟨_, _, _, _, _, _⟩) rfl (fun N hN => ?_); go_big_quiet_step (fail); refine wpQuiet_nil (hN _ ?_); clear hN N)
  first | (refine plan_p_no (o := ⟨_, _, _, _, _, _⟩) rfl rfl rfl rfl (by first | rfl | exact hx1.out) ?_; (try simp only [Act.put, slt])) | (iterate 1 (refine plan_p (o := ⟨_, _, _, _, _, _⟩) rfl (fun N hN => ?_); go_big_quiet_step (fail); refine wpQuiet_nil (hN _ ?_); clear hN N))
  first | (refine plan_p_no (o := ⟨_, _, _, _, _, _⟩) rfl rfl rfl rfl (by first | rfl | exact hx1.out) ?_; (try simp only [Act.put, slt])) | (iterate 1 (refine plan_p (o := ⟨_, _, _, _, _, _⟩) rfl (fun N hN => ?_); go_big_quiet_step (fail); refine wpQuiet_nil (hN _ ?_); clear hN N))
  first | (refine plan_p_no (o := ⟨_, _, _, _, _, _⟩) rfl rfl rfl rfl (by first | rfl | exact hx1.out) ?_; (try simp only [Act.put, slt])) | (iterate 1 (refine plan_p (o := ⟨_, _, _, _, _, _⟩) rfl (fun N hN => ?_); go_big_quiet_step (fail); refine wpQuiet_nil (hN _ ?_); clear hN N))
  refine plan_p0 ?_
  first | (refine plan_q_no (o := ⟨_, _, _, _, _, _⟩) rfl rfl rfl rfl (by first | rfl | exact hx1.out) ?_; (try simp only [Act.put, slt])) | (iterate 1 (refine plan_q (o := ⟨_, _, _, _, _, _⟩) rfl (fun N hN => ?_); go_big_quiet_step (fail); refine wpQuiet_nil (hN _ ?_); clear hN N))
  refine plan_q0 ?_
  first | (refine plan_p_no (o := ⟨_, _, _, _, _, _⟩) rfl rfl rfl rfl (by first | rfl | exact hx1.out) ?_; (try simp only [Act.put, slt])) | (iterate 1 (refine plan_p (o := ⟨_, _, _, _, _, _⟩) rfl (fun N hN => ?_); go_big_quiet_step (fail); refine wpQuiet_nil (hN _ ?_); clear hN N))
  first | (refine plan_p_no (o := ⟨_, _, _, _, _, _⟩) rfl rfl rfl rfl (by first | rfl | exact hx1.out) ?_; (try simp only [Act.put, slt])) | (iterate 1 (refine plan_p (o := ⟨_, _, _, _, _, _⟩) rfl (fun N hN => ?_); go_big_quiet_step (fail); refine wpQuiet_nil (hN _ ?_); clear hN N))
  first | (refine plan_p_no (o := ⟨_, _, _, _, _, _⟩) rfl rfl rfl rfl (by first | rfl | exact hx1.out) ?_; (try simp only [Act.put, slt])) | (iterate 1 (refine plan_p (o := ⟨_, _, _, _, _, _⟩) rfl (fun N hN => ?_); go_big_quiet_step (fail); refine wpQuiet_nil (hN _ ?_); clear hN N))
  refine plan_p0 ?_
  first | (refine plan_q_no (o := ⟨_, _, _, _, _, _⟩) rfl rfl rfl rfl (by first | rfl | exact hx1.out) ?_; (try simp only [Act.put, slt])) | (iterate 1 (refine plan_q (o := ⟨_, _, _, _, _, _⟩) rfl (fun N hN => ?_); go_big_quiet_step (fail); refine wpQuiet_nil (hN _ ?_); clear hN N))
  refine plan_q0 ?_
  first | (refine plan_p_no (o := ⟨_, _, _, _, _, _⟩) rfl rfl rfl rfl (by first | rfl | exact hx1.out) ?_; (try simp only [Act.put, slt])) | (iterate 1 (refine plan_p (o := ⟨_, _, _, _, _, _⟩) rfl (fun N hN => ?_); go_big_quiet_step (fail); refine wpQuiet_nil (hN _ ?_); clear hN N))
  iterate 2 (refine plan_p (o := ⟨_, _, _, _, _, _⟩) rfl (fun N hN => ?_); go_big_quiet_step (fail); refine wpQuiet_nil (hN _ ?_); clear hN N)
  first | (refine plan_p_no (o := ⟨_, _, _, _, _, _⟩) rfl rfl rfl rfl (by first | rfl | exact hx1.out) ?_; (try simp only [Act.put, slt])) | (iterate 1 (refine plan_p (o := ⟨_, _, _, _, _, _⟩) rfl (fun N hN => ?_); go_big_quiet_step (fail); refine wpQuiet_nil (hN _ ?_); clear hN N))
  first | (refine plan_p_no (o := ⟨_, _, _, _, _, _⟩) rfl rfl rfl rfl (by first | rfl | exact hx1.out) ?_; (try simp only [Act.put, slt])) | (iterate 1 (refine plan_p (o := ⟨_, _, _, _, _, _⟩) rfl (fun N hN => ?_); go_big_quiet_step (fail); refine wpQuiet_nil (hN _ ?_); clear hN N))
  first | (refine plan_p_no (o := ⟨_, _, _, _, _, _⟩) rfl rfl rfl rfl (by first | rfl | exact hx1.out) ?_; (try simp only [Act.put, slt])) | (iterate 1 (refine plan_p (o := ⟨_, _, _, _, _, _⟩) rfl (fun N hN => ?_); go_big_quiet_step (fail); refine wpQuiet_nil (hN _ ?_); clear hN N))
  refine plan_p0 ?_
  first | (refine plan_q_no (o := ⟨_, _, _, _, _, _⟩) rfl rfl rfl rfl (by first | rfl | exact hx1.out) ?_; (try simp only [Act.put, slt])) | (iterate 1 (refine plan_q (o := ⟨_, _, _, _, _, _⟩) rfl (fun N hN => ?_); go_big_quiet_step (fail); refine wpQuiet_nil (hN _ ?_); clear hN N))
  refine plan_q0 ?_
  first | (refine plan_p_no (o := ⟨_, _, _, _, _, _⟩) rfl rfl rfl rfl (by first | rfl | exact hx1.out) ?_; (try simp only [Act.put, slt])) | (iterate 1 (refine plan_p (o := ⟨_, _, _, _, _, _⟩) rfl (fun N hN => ?_); go_big_quiet_step (fail); refine wpQuiet_nil (hN _ ?_); clear hN N))
  first | (refine plan_p_no (o := ⟨_, _, _, _, _, _⟩) rfl rfl rfl rfl (by first | rfl | exact hx1.out) ?_; (try simp only [Act.put, slt])) | (iterate 1 (refine plan_p (o := ⟨_, _, _, _, _, _⟩) rfl (fun N hN => ?_); go_big_quiet_step (fail); refine wpQuiet_nil (hN _ ?_); clear hN N))
  first | (refine plan_p_no (o := ⟨_, _, _, _, _, _⟩) rfl rfl rfl rfl (by first | rfl | exact hx1.out) ?_; (try simp only [Act.put, slt])) | (iterate 1 (refine plan_p (o := ⟨_, _, _, _, _, _⟩) rfl (fun N hN => ?_); go_big_quiet_step (fail); refine wpQuiet_nil (hN _ ?_); clear hN N))
  refine plan_p0 ?_
  first | (refine plan_q_no (o := ⟨_, _, _, _, _, _⟩) rfl rfl rfl rfl (by first | rfl | exact hx1.out) ?_; (try simp only [Act.put, slt])) | (iterate 1 (refine plan_q (o := ⟨_, _, _, _, _, _⟩) rfl (fun N hN => ?_); go_big_quiet_step (fail); refine wpQuiet_nil (hN _ ?_); clear hN N))
  refine plan_q0 ?_
  first | (refine plan_p_no (o := ⟨_, _, _, _, _, _⟩) rfl rfl rfl rfl (by first | rfl | exact hx1.out) ?_; (try simp only [Act.put, slt])) | (iterate 1 (refine plan_p (o := ⟨_, _, _, _, _, _⟩) rfl (fun N hN => ?_); go_big_quiet_step (fail); refine wpQuiet_nil (hN _ ?_); clear hN N))
  iterate 1 (refine plan_p (o := ⟨_, _, _, _, _, _⟩) rfl (fun N hN => ?_); go_big_quiet_step (fail); refine wpQuiet_nil (hN _ ?_); clear hN N)
  refine plan_p0 ?_
  refine plan_done ?_
  simp only [if_neg hx4.out]
  repeat' (first | (go_big_may; (first
    | ((first
        | (refine loud_ rfl ?_; refine wpList_plain rfl (fun K hK => ?_); (first | (refine op_box _ _ rfl H (fun b w' H1 => hK _ _ ?_)) | (refine op_alloc _ rfl (zero_of _ _ rfl) H (fun b w' H1 => hK _ _ ?_)) | (refine op_store _ _ _ rfl rfl rfl H (by repeat (first | exact Split.here _ _ | apply Split.there)) (by kernel_rfl) (by kernel_rfl) (by kernel_rfl) (fun w' H1 => hK _ _ ?_)) | (refine op_buildSlice_all _ _ _ rfl (by first | exact elem22 | exact elem39 | exact elem76 | exact elem154) (by kernel_rfl) (by kernel_rfl) (by kernel_rfl) H (fun b w' H1 => hK _ _ ?_))); clear hK K; replace H := H1; clear H1)); (try clear hc); (try simp only [nrm, splice, Value.cells, Nat.reduceAdd, Act.eval, Act.put] at H); have hc := H.cells; simp only [CellsOf, KnCells, knc, Nat.reduceAdd] at hc))) | go_values | go_skip | go_guarded | go_step | go_upon | go_back | dsimp only)
  (try simp only [Act.put, slt])
  refine wp_region_plan (.p [0, 1, 2] (.q [3] (.p [4, 5, 6] (.q [7] (.p [8, 9, 10] (.q [11] (.p [12, 13, 14] (.e 15 (.p [16] .done))))))))) [15] (by kernel_rfl) (by kernel_rfl) (fun _ _ d _ _ h => by cases d <;> exact h) H ?_
  clear H
  (try clear hc)
  intro X nX fX wd hcf hS H
  simp only [CellsOf, KnCells, knc, Nat.reduceAdd] at hcf
  have hc := H.cells
  simp only [CellsOf, KnCells, knc, Nat.reduceAdd] at hc
  iterate 3 (refine plan_p (o := ⟨_, _, _, _, _, _⟩) rfl (fun N hN => ?_); go_big_quiet_step (fail); refine wpQuiet_nil (hN _ ?_); clear hN N)
  refine plan_p0 ?_
  iterate 1 (refine plan_q (o := ⟨_, _, _, _, _, _⟩) rfl (fun N hN => ?_); go_big_quiet_step (fail); refine wpQuiet_nil (hN _ ?_); clear hN N)
  refine plan_q0 ?_
  iterate 3 (refine plan_p (o := ⟨_, _, _, _, _, _⟩) rfl (fun N hN => ?_); go_big_quiet_step (fail); refine wpQuiet_nil (hN _ ?_); clear hN N)
  refine plan_p0 ?_
  iterate 1 (refine plan_q (o := ⟨_, _, _, _, _, _⟩) rfl (fun N hN => ?_); go_big_quiet_step (fail); refine wpQuiet_nil (hN _ ?_); clear hN N)
  refine plan_q0 ?_
  iterate 3 (refine plan_p (o := ⟨_, _, _, _, _, _⟩) rfl (fun N hN => ?_); go_big_quiet_step (fail); refine wpQuiet_nil (hN _ ?_); clear hN N)
  refine plan_p0 ?_
  iterate 1 (refine plan_q (o := ⟨_, _, _, _, _, _⟩) rfl (fun N hN => ?_); go_big_quiet_step (fail); refine wpQuiet_nil (hN _ ?_); clear hN N)
  refine plan_q0 ?_
  iterate 3 (refine plan_p (o := ⟨_, _, _, _, _, _⟩) rfl (fun N hN => ?_); go_big_quiet_step (fail); refine wpQuiet_nil (hN _ ?_); clear hN N)
  refine plan_p0 ?_
  refine plan_e (o := ⟨_, _, _, _, _, _⟩) rfl rfl (fun K hK => ?_)
  (first | (go_step; refine Calls.mono (gUpdSt g _ o ⟨c1, c2, 0⟩ hcs.out _ _ (H.pick (by repeat (first | exact Picks.nil _ | (apply Picks.wr; focus (repeat (first | exact Split.here _ _ | apply Split.there))) | (apply Picks.rd; focus (repeat (first | exact Split.here _ _ | apply Split.there))))))) ?_; rintro e w' ⟨rfl, H'⟩; replace H := H.merge (by first | exact Strikes.nil _ | (repeat (first | exact Strikes.nil _ | (apply Strikes.cons; focus (repeat (first | exact Split.here _ _ | apply Split.there)))))) H' rfl; clear H') | (refine op_box _ _ rfl H (fun b w' H1 => ?_); replace H := H1; clear H1) | (refine op_alloc _ rfl (zero_of _ _ rfl) H (fun b w' H1 => ?_); replace H := H1; clear H1) | (refine op_store _ _ _ rfl rfl rfl H (by repeat (first | exact Split.here _ _ | apply Split.there)) (by kernel_rfl) (by kernel_rfl) (by kernel_rfl) (fun w' H1 => ?_); replace H := H1; clear H1) | (refine op_buildSlice_all _ _ _ rfl (by first | exact elem22 | exact elem39 | exact elem76 | exact elem154) (by kernel_rfl) (by kernel_rfl) (by kernel_rfl) H (fun b w' H1 => ?_); replace H := H1; clear H1)); (try clear hc); (try simp only [nrm, splice, Value.cells, Nat.reduceAdd, Act.eval, Act.put] at H); have hc := H.cells; simp only [CellsOf, KnCells, knc, Nat.reduceAdd] at hc; refine hK _ _ (fun h => (h (by decide)).elim) ?_; clear hK K; (try simp only [Act.put, slt])
  iterate 1 (refine plan_p (o := ⟨_, _, _, _, _, _⟩) rfl (fun N hN => ?_); go_big_quiet_step (fail); refine wpQuiet_nil (hN _ ?_); clear hN N)
  refine plan_p0 ?_
  refine plan_done ?_
  repeat' (first | (go_big_may; (first
    | go_skip
    | ((first
        | (go_at_call 105; refine Calls.mono (gInfo_no g _ _ rfl _ (H.obj (by repeat (first | exact Split.here _ _ | apply Split.there)))) ?_; rintro e w' ⟨rfl, H'⟩; replace H := H.of_ext H'; clear H')
        | (refine loud_ rfl ?_; refine wpList_plain rfl (fun K hK => ?_); (first | (refine op_box _ _ rfl H (fun b w' H1 => hK _ _ ?_)) | (refine op_alloc _ rfl (zero_of _ _ rfl) H (fun b w' H1 => hK _ _ ?_)) | (refine op_store _ _ _ rfl rfl rfl H (by repeat (first | exact Split.here _ _ | apply Split.there)) (by kernel_rfl) (by kernel_rfl) (by kernel_rfl) (fun w' H1 => hK _ _ ?_)) | (refine op_buildSlice_all _ _ _ rfl (by first | exact elem22 | exact elem39 | exact elem76 | exact elem154) (by kernel_rfl) (by kernel_rfl) (by kernel_rfl) H (fun b w' H1 => hK _ _ ?_))); clear hK K; replace H := H1; clear H1)); (try clear hc); (try simp only [nrm, splice, Value.cells, Nat.reduceAdd, Act.eval, Act.put] at H); have hc := H.cells; simp only [CellsOf, KnCells, knc, Nat.reduceAdd] at hc))) | go_values | go_skip | go_guarded | go_step | go_upon | go_back | dsimp only)
  go_end0
  exact ⟨rfl, H.sel (by repeat (first | exact Sel.nil _ | (apply Sel.cons; focus (repeat (first | exact Split.here _ _ | apply Split.there)))))⟩
set_option maxRecDepth 8000 in
theorem updSt_4a (d : VD) (c : Vr) (hcv : Hid (VText d.cl c)) (h3 : ((vstr c).toList == [51, 46, 48, 46, 48]) = false) (s : Vr) (hsv : Hid (VText d.st s)) (ha : s.a = c.a) (hb : s.b ≠ c.b) (hhd : d.hd = false) (p g : Nat) (o : Vo) (S : List Nat) (w : World) (H : St S w w [(false, .is p (mon g)), (true, .is g (guard d o)), genv]) :
    Calls Tryd.prog 42 #[.pointer (some ⟨p, 0, none⟩)] w fun e w' => e = .returned (.tuple #[]) ∧ St S w w' [(true, .is g (guard d { o with st := vstr ⟨c.a, c.b, 0⟩ }))] := by
  have hmeGetClusterVersion : ∀ (w : World), (method 256 45 (.pointer (some ⟨g, 0, none⟩)) "GetClusterVersion").run Tryd.prog w = .ok (104, .pointer (some ⟨g, 0, none⟩)) w := fun w => by kernel_rfl
  have hnaGetClusterVersion : ∀ (w : World), (nilAhead 256 45 (.pointer (some ⟨g, 0, none⟩)) "GetClusterVersion").run Tryd.prog w = .ok (some false) w := fun w => by kernel_rfl
  have hmeGetStorageVersion : ∀ (w : World), (method 256 45 (.pointer (some ⟨g, 0, none⟩)) "GetStorageVersion").run Tryd.prog w = .ok (107, .pointer (some ⟨g, 0, none⟩)) w := fun w => by kernel_rfl
  have hnaGetStorageVersion : ∀ (w : World), (nilAhead 256 45 (.pointer (some ⟨g, 0, none⟩)) "GetStorageVersion").run Tryd.prog w = .ok (some false) w := fun w => by kernel_rfl
  have hmeGetDowngradeInfo : ∀ (w : World), (method 256 45 (.pointer (some ⟨g, 0, none⟩)) "GetDowngradeInfo").run Tryd.prog w = .ok (105, .pointer (some ⟨g, 0, none⟩)) w := fun w => by kernel_rfl
  have hnaGetDowngradeInfo : ∀ (w : World), (nilAhead 256 45 (.pointer (some ⟨g, 0, none⟩)) "GetDowngradeInfo").run Tryd.prog w = .ok (some false) w := fun w => by kernel_rfl
  have hmeUpdateStorageVersion : ∀ (w : World), (method 256 45 (.pointer (some ⟨g, 0, none⟩)) "UpdateStorageVersion").run Tryd.prog w = .ok (110, .pointer (some ⟨g, 0, none⟩)) w := fun w => by kernel_rfl
  have hnaUpdateStorageVersion : ∀ (w : World), (nilAhead 256 45 (.pointer (some ⟨g, 0, none⟩)) "UpdateStorageVersion").run Tryd.prog w = .ok (some false) w := fun w => by kernel_rfl
  have hcok := Lib.hid hcv.out.1
  obtain ⟨c1, c2, c3⟩ := c
  obtain ⟨s1, s2, s3⟩ := s
  simp only at ha
  subst ha
  have ha2 : ¬ s2 = c2 := hb
  have hx1 : Hid ((s2 != c2) = true) := (by simp [ha2] : (s2 != c2) = true)
  clear hb ha2
  have hcs : Hid ((⟨s1, c2, 0⟩ : Vr).Ok) := ⟨hcok.out.a, hcok.out.b, (by show (0 : Int) ≤ 0 ∧ (0 : Int) ≤ 9999; omega)⟩
  obtain ⟨cl, st, tg, dn, hd, at', n, cap⟩ := d
  simp only at hhd
  subst hhd
  have hc := H.cells; simp only [CellsOf, KnCells, knc, Nat.reduceAdd] at hc
  go_enter Tryd.func42, Tryd.ntmps42
  repeat' (first | (go_big_may; (first
    | go_skip
    | ((first
        | (go_at_call 104; refine Calls.mono (gGetClusterVersion_ok g _ o _ hcv _ (H.obj (by repeat (first | exact Split.here _ _ | apply Split.there)))) ?_; rintro e w' ⟨qc, rfl, H'⟩; replace H := H.merge (by first | exact Strikes.nil _ | (repeat (first | exact Strikes.nil _ | (apply Strikes.cons; focus (repeat (first | exact Split.here _ _ | apply Split.there)))))) H' rfl; clear H')
        | (go_at_call 48; refine Calls.mono (string_calls _ hcok.out _ (H.rep (R := GEnv) (by repeat (first | exact Split.here _ _ | apply Split.there))).1) ?_; rintro e w' ⟨rfl, H'⟩; replace H := H.of_ext H'; clear H')
        | (go_at_call 107; refine Calls.mono (gGetStorageVersion_ok g _ o _ hsv _ (H.obj (by repeat (first | exact Split.here _ _ | apply Split.there)))) ?_; rintro e w' ⟨qs, rfl, H'⟩; replace H := H.merge (by first | exact Strikes.nil _ | (repeat (first | exact Strikes.nil _ | (apply Strikes.cons; focus (repeat (first | exact Split.here _ _ | apply Split.there)))))) H' rfl; clear H')
        | (refine loud_ rfl ?_; refine wpList_plain rfl (fun K hK => ?_); (first | (refine op_box _ _ rfl H (fun b w' H1 => hK _ _ ?_)) | (refine op_alloc _ rfl (zero_of _ _ rfl) H (fun b w' H1 => hK _ _ ?_)) | (refine op_store _ _ _ rfl rfl rfl H (by repeat (first | exact Split.here _ _ | apply Split.there)) (by kernel_rfl) (by kernel_rfl) (by kernel_rfl) (fun w' H1 => hK _ _ ?_)) | (refine op_buildSlice_all _ _ _ rfl (by first | exact elem22 | exact elem39 | exact elem76 | exact elem154) (by kernel_rfl) (by kernel_rfl) (by kernel_rfl) H (fun b w' H1 => hK _ _ ?_))); clear hK K; replace H := H1; clear H1)); (try clear hc); (try simp only [nrm, splice, Value.cells, Nat.reduceAdd, Act.eval, Act.put] at H); have hc := H.cells; simp only [CellsOf, KnCells, knc, Nat.reduceAdd] at hc))) | go_values | go_skip | go_guarded | go_step | go_upon | go_back | dsimp only)
  (try simp only [Act.put, slt])
  refine wp_region_plan (.p [0, 1, 2, 3, 4, 5] (.q [6] (.p [7, 8, 9] (.q [10] (.p [11, 12, 13, 14, 15, 16] (.q [17] (.p [18, 19, 20] (.q [21] (.p [22, 23] .done))))))))) [] (by kernel_rfl) (by kernel_rfl) (fun _ _ d _ _ h => by cases d <;> exact h) H ?_
  clear H
  (try clear hc)
  intro X nX fX wd hcf hS H
  simp only [CellsOf, KnCells, knc, Nat.reduceAdd] at hcf
  have hc := H.cells
  simp only [CellsOf, KnCells, knc, Nat.reduceAdd] at hc
  iterate 3 (refine plan_p (o := ⟨_, _, _, _, _, _⟩) rfl (fun N hN => ?_); go_big_quiet_step (fail); refine wpQuiet_nil (hN _ ?_); clear hN N)
  first | (refine plan_p_no (o := ⟨_, _, _, _, _, _⟩) rfl rfl rfl rfl (by first | rfl | exact hx1.out) ?_; (try simp only [Act.put, slt])) | (iterate 1 (refine plan_p (o := ⟨_, _, _, _, _, _⟩) rfl (fun N hN => ?_); go_big_quiet_step (fail); refine wpQuiet_nil (hN _ ?_); clear hN N))
  first | (refine plan_p_no (o := ⟨_, _, _, _, _, _⟩) rfl rfl rfl rfl (by first | rfl | exact hx1.out) ?_; (try simp only [Act.put, slt])) | (iterate 1 (refine plan_p (o := ⟨_, _, _, _, _, _⟩) rfl (fun N hN => ?_); go_big_quiet_step (fail); refine wpQuiet_nil (hN _ ?_); clear hN N))
  first | (refine plan_p_no (o := ⟨_, _, _, _, _, _⟩) rfl rfl rfl rfl (by first | rfl | exact hx1.out) ?_; (try simp only [Act.put, slt])) | (iterate 1 (refine plan_p (o := ⟨_, _, _, _, _, _⟩) rfl (fun N hN => ?_); go_big_quiet_step (fail); refine wpQuiet_nil (hN _ ?_); clear hN N))
  refine plan_p0 ?_
  first | (refine plan_q_no (o := ⟨_, _, _, _, _, _⟩) rfl rfl rfl rfl (by first | rfl | exact hx1.out) ?_; (try simp only [Act.put, slt])) | (iterate 1 (refine plan_q (o := ⟨_, _, _, _, _, _⟩) rfl (fun N hN => ?_); go_big_quiet_step (fail); refine wpQuiet_nil (hN _ ?_); clear hN N))
  refine plan_q0 ?_
  first | (refine plan_p_no (o := ⟨_, _, _, _, _, _⟩) rfl rfl rfl rfl (by first | rfl | exact hx1.out) ?_; (try simp only [Act.put, slt])) | (iterate 1 (refine plan_p (o := ⟨_, _, _, _, _, _⟩) rfl (fun N hN => ?_); go_big_quiet_step (fail); refine wpQuiet_nil (hN _ ?_); clear hN N))
  first | (refine plan_p_no (o := ⟨_, _, _, _, _, _⟩) rfl rfl rfl rfl (by first | rfl | exact hx1.out) ?_; (try simp only [Act.put, slt])) | (iterate 1 (refine plan_p (o := ⟨_, _, _, _, _, _⟩) rfl (fun N hN => ?_); go_big_quiet_step (fail); refine wpQuiet_nil (hN _ ?_); clear hN N))
  first | (refine plan_p_no (o := ⟨_, _, _, _, _, _⟩) rfl rfl rfl rfl (by first | rfl | exact hx1.out) ?_; (try simp only [Act.put, slt])) | (iterate 1 (refine plan_p (o := ⟨_, _, _, _, _, _⟩) rfl (fun N hN => ?_); go_big_quiet_step (fail); refine wpQuiet_nil (hN _ ?_); clear hN N))
  refine plan_p0 ?_
  first | (refine plan_q_no (o := ⟨_, _, _, _, _, _⟩) rfl rfl rfl rfl (by first | rfl | exact hx1.out) ?_; (try simp only [Act.put, slt])) | (iterate 1 (refine plan_q (o := ⟨_, _, _, _, _, _⟩) rfl (fun N hN => ?_); go_big_quiet_step (fail); refine wpQuiet_nil (hN _ ?_); clear hN N))
  refine plan_q0 ?_
  first | (refine plan_p_no (o := ⟨_, _, _, _, _, _⟩) rfl rfl rfl rfl (by first | rfl | exact hx1.out) ?_; (try simp only [Act.put, slt])) | (iterate 1 (refine plan_p (o := ⟨_, _, _, _, _, _⟩) rfl (fun N hN => ?_); go_big_quiet_step (fail); refine wpQuiet_nil (hN _ ?_); clear hN N))
  iterate 2 (refine plan_p (o := ⟨_, _, _, _, _, _⟩) rfl (fun N hN => ?_); go_big_quiet_step (fail); refine wpQuiet_nil (hN _ ?_); clear hN N)
  first | (refine plan_p_no (o := ⟨_, _, _, _, _, _⟩) rfl rfl rfl rfl (by first | rfl | exact hx1.out) ?_; (try simp only [Act.put, slt])) | (iterate 1 (refine plan_p (o := ⟨_, _, _, _, _, _⟩) rfl (fun N hN => ?_); go_big_quiet_step (fail); refine wpQuiet_nil (hN _ ?_); clear hN N))
  first | (refine plan_p_no (o := ⟨_, _, _, _, _, _⟩) rfl rfl rfl rfl (by first | rfl | exact hx1.out) ?_; (try simp only [Act.put, slt])) | (iterate 1 (refine plan_p (o := ⟨_, _, _, _, _, _⟩) rfl (fun N hN => ?_); go_big_quiet_step (fail); refine wpQuiet_nil (hN _ ?_); clear hN N))
  first | (refine plan_p_no (o := ⟨_, _, _, _, _, _⟩) rfl rfl rfl rfl (by first | rfl | exact hx1.out) ?_; (try simp only [Act.put, slt])) | (iterate 1 (refine plan_p (o := ⟨_, _, _, _, _, _⟩) rfl (fun N hN => ?_); go_big_quiet_step (fail); refine wpQuiet_nil (hN _ ?_); clear hN N))
  refine plan_p0 ?_
  first | (refine plan_q_no (o := ⟨_, _, _, _, _, _⟩) rfl rfl rfl rfl (by first | rfl | exact hx1.out) ?_; (try simp only [Act.put, slt])) | (iterate 1 (refine plan_q (o := ⟨_, _, _, _, _, _⟩) rfl (fun N hN => ?_); go_big_quiet_step (fail); refine wpQuiet_nil (hN _ ?_); clear hN N))
  refine plan_q0 ?_
  first | (refine plan_p_no (o := ⟨_, _, _, _, _, _⟩) rfl rfl rfl rfl (by first | rfl | exact hx1.out) ?_; (try simp only [Act.put, slt])) | (iterate 1 (refine plan_p (o := ⟨_, _, _, _, _, _⟩) rfl (fun N hN => ?_); go_big_quiet_step (fail); refine wpQuiet_nil (hN _ ?_); clear hN N))
  first | (refine plan_p_no (o := ⟨_, _, _, _, _, _⟩) rfl rfl rfl rfl (by first | rfl | exact hx1.out) ?_; (try simp only [Act.put, slt])) | (iterate 1 (refine plan_p (o := ⟨_, _, _, _, _, _⟩) rfl (fun N hN => ?_); go_big_quiet_step (fail); refine wpQuiet_nil (hN _ ?_); clear hN N))
  first | (refine plan_p_no (o := ⟨_, _, _, _, _, _⟩) rfl rfl rfl rfl (by first | rfl | exact hx1.out) ?_; (try simp only [Act.put, slt])) | (iterate 1 (refine plan_p (o := ⟨_, _, _, _, _, _⟩) rfl (fun N hN => ?_); go_big_quiet_step (fail); refine wpQuiet_nil (hN _ ?_); clear hN N))
  refine plan_p0 ?_
  first | (refine plan_q_no (o := ⟨_, _, _, _, _, _⟩) rfl rfl rfl rfl (by first | rfl | exact hx1.out) ?_; (try simp only [Act.put, slt])) | (iterate 1 (refine plan_q (o := ⟨_, _, _, _, _, _⟩) rfl (fun N hN => ?_); go_big_quiet_step (fail); refine wpQuiet_nil (hN _ ?_); clear hN N))
  refine plan_q0 ?_
  first | (refine plan_p_no (o := ⟨_, _, _, _, _, _⟩) rfl rfl rfl rfl (by first | rfl | exact hx1.out) ?_; (try simp only [Act.put, slt])) | (iterate 1 (refine plan_p (o := ⟨_, _, _, _, _, _⟩) rfl (fun N hN => ?_); go_big_quiet_step (fail); refine wpQuiet_nil (hN _ ?_); clear hN N))
  iterate 1 (refine plan_p (o := ⟨_, _, _, _, _, _⟩) rfl (fun N hN => ?_); go_big_quiet_step (fail); refine wpQuiet_nil (hN _ ?_); clear hN N)
  refine plan_p0 ?_
  refine plan_done ?_
  have hxv : (s2 != c2) = true := hx1.out
  repeat' (first | (go_big_may; (first
    | ((first
        | (refine loud_ rfl ?_; refine wpList_plain rfl (fun K hK => ?_); (first | (refine op_box _ _ rfl H (fun b w' H1 => hK _ _ ?_)) | (refine op_alloc _ rfl (zero_of _ _ rfl) H (fun b w' H1 => hK _ _ ?_)) | (refine op_store _ _ _ rfl rfl rfl H (by repeat (first | exact Split.here _ _ | apply Split.there)) (by kernel_rfl) (by kernel_rfl) (by kernel_rfl) (fun w' H1 => hK _ _ ?_)) | (refine op_buildSlice_all _ _ _ rfl (by first | exact elem22 | exact elem39 | exact elem76 | exact elem154) (by kernel_rfl) (by kernel_rfl) (by kernel_rfl) H (fun b w' H1 => hK _ _ ?_))); clear hK K; replace H := H1; clear H1)); (try clear hc); (try simp only [nrm, splice, Value.cells, Nat.reduceAdd, Act.eval, Act.put] at H); have hc := H.cells; simp only [CellsOf, KnCells, knc, Nat.reduceAdd] at hc))) | go_values | go_skip | go_guarded | go_step | go_upon | go_back | dsimp only)
  (try simp only [Act.put, slt])
  refine wp_region_plan (.p [0, 1, 2] (.q [3] (.p [4, 5, 6] (.q [7] (.p [8, 9, 10] (.q [11] (.p [12, 13, 14] (.e 15 (.p [16] .done))))))))) [15] (by kernel_rfl) (by kernel_rfl) (fun _ _ d _ _ h => by cases d <;> exact h) H ?_
  clear H
  (try clear hc)
  intro X nX fX wd hcf hS H
  simp only [CellsOf, KnCells, knc, Nat.reduceAdd] at hcf
  have hc := H.cells
  simp only [CellsOf, KnCells, knc, Nat.reduceAdd] at hc
  iterate 3 (refine plan_p (o := ⟨_, _, _, _, _, _⟩) rfl (fun N hN => ?_); go_big_quiet_step (fail); refine wpQuiet_nil (hN _ ?_); clear hN N)
  refine plan_p0 ?_
  iterate 1 (refine plan_q (o := ⟨_, _, _, _, _, _⟩) rfl (fun N hN => ?_); go_big_quiet_step (fail); refine wpQuiet_nil (hN _ ?_); clear hN N)
  refine plan_q0 ?_
  iterate 3 (refine plan_p (o := ⟨_, _, _, _, _, _⟩) rfl (fun N hN => ?_); go_big_quiet_step (fail); refine wpQuiet_nil (hN _ ?_); clear hN N)
  refine plan_p0 ?_
  iterate 1 (refine plan_q (o := ⟨_, _, _, _, _, _⟩) rfl (fun N hN => ?_); go_big_quiet_step (fail); refine wpQuiet_nil (hN _ ?_); clear hN N)
  refine plan_q0 ?_
  iterate 3 (refine plan_p (o := ⟨_, _, _, _, _, _⟩) rfl (fun N hN => ?_); go_big_quiet_step (fail); refine wpQuiet_nil (hN _ ?_); clear hN N)
  refine plan_p0 ?_
  iterate 1 (refine plan_q (o := ⟨_, _, _, _, _, _⟩) rfl (fun N hN => ?_); go_big_quiet_step (fail); refine wpQuiet_nil (hN _ ?_); clear hN N)
  refine plan_q0 ?_
  iterate 3 (refine plan_p (o := ⟨_, _, _, _, _, _⟩) rfl (fun N hN => ?_); go_big_quiet_step (fail); refine wpQuiet_nil (hN _ ?_); clear hN N)
  refine plan_p0 ?_
  refine plan_e (o := ⟨_, _, _, _, _, _⟩) rfl rfl (fun K hK => ?_)
  (first | (go_step; refine Calls.mono (gUpdSt g _ o ⟨s1, c2, 0⟩ hcs.out _ _ (H.pick (by repeat (first | exact Picks.nil _ | (apply Picks.wr; focus (repeat (first | exact Split.here _ _ | apply Split.there))) | (apply Picks.rd; focus (repeat (first | exact Split.here _ _ | apply Split.there))))))) ?_; rintro e w' ⟨rfl, H'⟩; replace H := H.merge (by first | exact Strikes.nil _ | (repeat (first | exact Strikes.nil _ | (apply Strikes.cons; focus (repeat (first | exact Split.here _ _ | apply Split.there)))))) H' rfl; clear H') | (refine op_box _ _ rfl H (fun b w' H1 => ?_); replace H := H1; clear H1) | (refine op_alloc _ rfl (zero_of _ _ rfl) H (fun b w' H1 => ?_); replace H := H1; clear H1) | (refine op_store _ _ _ rfl rfl rfl H (by repeat (first | exact Split.here _ _ | apply Split.there)) (by kernel_rfl) (by kernel_rfl) (by kernel_rfl) (fun w' H1 => ?_); replace H := H1; clear H1) | (refine op_buildSlice_all _ _ _ rfl (by first | exact elem22 | exact elem39 | exact elem76 | exact elem154) (by kernel_rfl) (by kernel_rfl) (by kernel_rfl) H (fun b w' H1 => ?_); replace H := H1; clear H1)); (try clear hc); (try simp only [nrm, splice, Value.cells, Nat.reduceAdd, Act.eval, Act.put] at H); have hc := H.cells; simp only [CellsOf, KnCells, knc, Nat.reduceAdd] at hc; refine hK _ _ (fun h => (h (by decide)).elim) ?_; clear hK K; (try simp only [Act.put, slt])
  iterate 1 (refine plan_p (o := ⟨_, _, _, _, _, _⟩) rfl (fun N hN => ?_); go_big_quiet_step (fail); refine wpQuiet_nil (hN _ ?_); clear hN N)
  refine plan_p0 ?_
  refine plan_done ?_
  repeat' (first | (go_big_may; (first
    | go_skip
    | ((first
        | (go_at_call 105; refine Calls.mono (gInfo_no g _ _ rfl _ (H.obj (by repeat (first | exact Split.here _ _ | apply Split.there)))) ?_; rintro e w' ⟨rfl, H'⟩; replace H := H.of_ext H'; clear H')
        | (refine loud_ rfl ?_; refine wpList_plain rfl (fun K hK => ?_); (first | (refine op_box _ _ rfl H (fun b w' H1 => hK _ _ ?_)) | (refine op_alloc _ rfl (zero_of _ _ rfl) H (fun b w' H1 => hK _ _ ?_)) | (refine op_store _ _ _ rfl rfl rfl H (by repeat (first | exact Split.here _ _ | apply Split.there)) (by kernel_rfl) (by kernel_rfl) (by kernel_rfl) (fun w' H1 => hK _ _ ?_)) | (refine op_buildSlice_all _ _ _ rfl (by first | exact elem22 | exact elem39 | exact elem76 | exact elem154) (by kernel_rfl) (by kernel_rfl) (by kernel_rfl) H (fun b w' H1 => hK _ _ ?_))); clear hK K; replace H := H1; clear H1)); (try clear hc); (try simp only [nrm, splice, Value.cells, Nat.reduceAdd, Act.eval, Act.put] at H); have hc := H.cells; simp only [CellsOf, KnCells, knc, Nat.reduceAdd] at hc))) | go_values | go_skip | go_guarded | go_step | go_upon | go_back | dsimp only)
  go_end0
  exact ⟨rfl, H.sel (by repeat (first | exact Sel.nil _ | (apply Sel.cons; focus (repeat (first | exact Split.here _ _ | apply Split.there)))))⟩
set_option maxRecDepth 8000 in
theorem updSt_2b (d : VD) (c : Vr) (hcv : Hid (VText d.cl c)) (h3 : ((vstr c).toList == [51, 46, 48, 46, 48]) = false) (hsv : Hid (VOpt d.st none)) (hhd : d.hd = true) (hdn : d.dn = false) (p g : Nat) (o : Vo) (S : List Nat) (w : World) (H : St S w w [(false, .is p (mon g)), (true, .is g (guard d o)), genv]) :
    Calls Tryd.prog 42 #[.pointer (some ⟨p, 0, none⟩)] w fun e w' => e = .returned (.tuple #[]) ∧ St S w w' [(true, .is g (guard d { o with st := vstr ⟨c.a, c.b, 0⟩ }))] := by
  have hmeGetClusterVersion : ∀ (w : World), (method 256 45 (.pointer (some ⟨g, 0, none⟩)) "GetClusterVersion").run Tryd.prog w = .ok (104, .pointer (some ⟨g, 0, none⟩)) w := fun w => by kernel_rfl
  have hnaGetClusterVersion : ∀ (w : World), (nilAhead 256 45 (.pointer (some ⟨g, 0, none⟩)) "GetClusterVersion").run Tryd.prog w = .ok (some false) w := fun w => by kernel_rfl
  have hmeGetStorageVersion : ∀ (w : World), (method 256 45 (.pointer (some ⟨g, 0, none⟩)) "GetStorageVersion").run Tryd.prog w = .ok (107, .pointer (some ⟨g, 0, none⟩)) w := fun w => by kernel_rfl
  have hnaGetStorageVersion : ∀ (w : World), (nilAhead 256 45 (.pointer (some ⟨g, 0, none⟩)) "GetStorageVersion").run Tryd.prog w = .ok (some false) w := fun w => by kernel_rfl
  have hmeGetDowngradeInfo : ∀ (w : World), (method 256 45 (.pointer (some ⟨g, 0, none⟩)) "GetDowngradeInfo").run Tryd.prog w = .ok (105, .pointer (some ⟨g, 0, none⟩)) w := fun w => by kernel_rfl
  have hnaGetDowngradeInfo : ∀ (w : World), (nilAhead 256 45 (.pointer (some ⟨g, 0, none⟩)) "GetDowngradeInfo").run Tryd.prog w = .ok (some false) w := fun w => by kernel_rfl
  have hmeUpdateStorageVersion : ∀ (w : World), (method 256 45 (.pointer (some ⟨g, 0, none⟩)) "UpdateStorageVersion").run Tryd.prog w = .ok (110, .pointer (some ⟨g, 0, none⟩)) w := fun w => by kernel_rfl
  have hnaUpdateStorageVersion : ∀ (w : World), (nilAhead 256 45 (.pointer (some ⟨g, 0, none⟩)) "UpdateStorageVersion").run Tryd.prog w = .ok (some false) w := fun w => by kernel_rfl
  have hcok := Lib.hid hcv.out.1
  obtain ⟨c1, c2, c3⟩ := c
  have hcs : Hid ((⟨c1, c2, 0⟩ : Vr).Ok) := ⟨hcok.out.a, hcok.out.b, (by show (0 : Int) ≤ 0 ∧ (0 : Int) ≤ 9999; omega)⟩
  obtain ⟨cl, st, tg, dn, hd, at', n, cap⟩ := d
  simp only at hhd hdn
  subst hhd hdn
  have hc := H.cells; simp only [CellsOf, KnCells, knc, Nat.reduceAdd] at hc
  go_enter Tryd.func42, Tryd.ntmps42
  repeat' (first | (go_big_may; (first
    | go_skip
    | ((first
        | (go_at_call 104; refine Calls.mono (gGetClusterVersion_ok g _ o _ hcv _ (H.obj (by repeat (first | exact Split.here _ _ | apply Split.there)))) ?_; rintro e w' ⟨qc, rfl, H'⟩; replace H := H.merge (by first | exact Strikes.nil _ | (repeat (first | exact Strikes.nil _ | (apply Strikes.cons; focus (repeat (first | exact Split.here _ _ | apply Split.there)))))) H' rfl; clear H')
        | (go_at_call 48; refine Calls.mono (string_calls _ hcok.out _ (H.rep (R := GEnv) (by repeat (first | exact Split.here _ _ | apply Split.there))).1) ?_; rintro e w' ⟨rfl, H'⟩; replace H := H.of_ext H'; clear H')
        | (go_at_call 107; refine Calls.mono (gGetStorageVersion_no g _ o hsv _ (H.rep (R := GEnv) (by repeat (first | exact Split.here _ _ | apply Split.there))).2 (H.obj (by repeat (first | exact Split.here _ _ | apply Split.there)))) ?_; rintro e w' ⟨rfl, H'⟩; replace H := H.of_ext H'; clear H')
        | (refine loud_ rfl ?_; refine wpList_plain rfl (fun K hK => ?_); (first | (refine op_box _ _ rfl H (fun b w' H1 => hK _ _ ?_)) | (refine op_alloc _ rfl (zero_of _ _ rfl) H (fun b w' H1 => hK _ _ ?_)) | (refine op_store _ _ _ rfl rfl rfl H (by repeat (first | exact Split.here _ _ | apply Split.there)) (by kernel_rfl) (by kernel_rfl) (by kernel_rfl) (fun w' H1 => hK _ _ ?_)) | (refine op_buildSlice_all _ _ _ rfl (by first | exact elem22 | exact elem39 | exact elem76 | exact elem154) (by kernel_rfl) (by kernel_rfl) (by kernel_rfl) H (fun b w' H1 => hK _ _ ?_))); clear hK K; replace H := H1; clear H1)); (try clear hc); (try simp only [nrm, splice, Value.cells, Nat.reduceAdd, Act.eval, Act.put] at H); have hc := H.cells; simp only [CellsOf, KnCells, knc, Nat.reduceAdd] at hc))) | go_values | go_skip | go_guarded | go_step | go_upon | go_back | dsimp only)
  (try simp only [Act.put, slt])
  refine wp_region_plan (.p [0, 1, 2, 3, 4, 5] (.q [6] (.p [7, 8, 9] (.q [10] (.p [11, 12, 13, 14, 15, 16] (.q [17] (.p [18, 19, 20] (.q [21] (.p [22, 23] .done))))))))) [] (by kernel_rfl) (by kernel_rfl) (fun _ _ d _ _ h => by cases d <;> exact h) H ?_
  clear H
  (try clear hc)
  intro X nX fX wd hcf hS H
  simp only [CellsOf, KnCells, knc, Nat.reduceAdd] at hcf
  have hc := H.cells
  simp only [CellsOf, KnCells, knc, Nat.reduceAdd] at hc
  iterate 3 (refine plan_p (o := ⟨_, _, _, _, _, _⟩) rfl (fun N hN => ?_); go_big_quiet_step (fail); refine wpQuiet_nil (hN _ ?_); clear hN N)
  first | (refine plan_p_no (o := ⟨_, _, _, _, _, _⟩) rfl rfl rfl rfl (rfl) ?_; (try simp only [Act.put, slt])) | (iterate 1 (refine plan_p (o := ⟨_, _, _, _, _, _⟩) rfl (fun N hN => ?_); go_big_quiet_step (fail); refine wpQuiet_nil (hN _ ?_); clear hN N))
  first | (refine plan_p_no (o := ⟨_, _, _, _, _, _⟩) rfl rfl rfl rfl (rfl) ?_; (try simp only [Act.put, slt])) | (iterate 1 (refine plan_p (o := ⟨_, _, _, _, _, _⟩) rfl (fun N hN => ?_); go_big_quiet_step (fail); refine wpQuiet_nil (hN _ ?_); clear hN N))
  first | (refine plan_p_no (o := ⟨_, _, _, _, _, _⟩) rfl rfl rfl rfl (rfl) ?_; (try simp only [Act.put, slt])) | (iterate 1 (refine plan_p (o := ⟨_, _, _, _, _, _⟩) rfl (fun N hN => ?_); go_big_quiet_step (fail); refine wpQuiet_nil (hN _ ?_); clear hN N))
  refine plan_p0 ?_
  first | (refine plan_q_no (o := ⟨_, _, _, _, _, _⟩) rfl rfl rfl rfl (rfl) ?_; (try simp only [Act.put, slt])) | (iterate 1 (refine plan_q (o := ⟨_, _, _, _, _, _⟩) rfl (fun N hN => ?_); go_big_quiet_step (fail); refine wpQuiet_nil (hN _ ?_); clear hN N))
  refine plan_q0 ?_
  first | (refine plan_p_no (o := ⟨_, _, _, _, _, _⟩) rfl rfl rfl rfl (rfl) ?_; (try simp only [Act.put, slt])) | (iterate 1 (refine plan_p (o := ⟨_, _, _, _, _, _⟩) rfl (fun N hN => ?_); go_big_quiet_step (fail); refine wpQuiet_nil (hN _ ?_); clear hN N))
  first | (refine plan_p_no (o := ⟨_, _, _, _, _, _⟩) rfl rfl rfl rfl (rfl) ?_; (try simp only [Act.put, slt])) | (iterate 1 (refine plan_p (o := ⟨_, _, _, _, _, _⟩) rfl (fun N hN => ?_); go_big_quiet_step (fail); refine wpQuiet_nil (hN _ ?_); clear hN N))
  first | (refine plan_p_no (o := ⟨_, _, _, _, _, _⟩) rfl rfl rfl rfl (rfl) ?_; (try simp only [Act.put, slt])) | (iterate 1 (refine plan_p (o := ⟨_, _, _, _, _, _⟩) rfl (fun N hN => ?_); go_big_quiet_step (fail); refine wpQuiet_nil (hN _ ?_); clear hN N))
  refine plan_p0 ?_
  first | (refine plan_q_no (o := ⟨_, _, _, _, _, _⟩) rfl rfl rfl rfl (rfl) ?_; (try simp only [Act.put, slt])) | (iterate 1 (refine plan_q (o := ⟨_, _, _, _, _, _⟩) rfl (fun N hN => ?_); go_big_quiet_step (fail); refine wpQuiet_nil (hN _ ?_); clear hN N))
  refine plan_q0 ?_
  first | (refine plan_p_no (o := ⟨_, _, _, _, _, _⟩) rfl rfl rfl rfl (rfl) ?_; (try simp only [Act.put, slt])) | (iterate 1 (refine plan_p (o := ⟨_, _, _, _, _, _⟩) rfl (fun N hN => ?_); go_big_quiet_step (fail); refine wpQuiet_nil (hN _ ?_); clear hN N))
  iterate 2 (refine plan_p (o := ⟨_, _, _, _, _, _⟩) rfl (fun N hN => ?_); go_big_quiet_step (fail); refine wpQuiet_nil (hN _ ?_); clear hN N)
  first | (refine plan_p_no (o := ⟨_, _, _, _, _, _⟩) rfl rfl rfl rfl (rfl) ?_; (try simp only [Act.put, slt])) | (iterate 1 (refine plan_p (o := ⟨_, _, _, _, _, _⟩) rfl (fun N hN => ?_); go_big_quiet_step (fail); refine wpQuiet_nil (hN _ ?_); clear hN N))
  first | (refine plan_p_no (o := ⟨_, _, _, _, _, _⟩) rfl rfl rfl rfl (rfl) ?_; (try simp only [Act.put, slt])) | (iterate 1 (refine plan_p (o := ⟨_, _, _, _, _, _⟩) rfl (fun N hN => ?_); go_big_quiet_step (fail); refine wpQuiet_nil (hN _ ?_); clear hN N))
  first | (refine plan_p_no (o := ⟨_, _, _, _, _, _⟩) rfl rfl rfl rfl (rfl) ?_; (try simp only [Act.put, slt])) | (iterate 1 (refine plan_p (o := ⟨_, _, _, _, _, _⟩) rfl (fun N hN => ?_); go_big_quiet_step (fail); refine wpQuiet_nil (hN _ ?_); clear hN N))
  refine plan_p0 ?_
  first | (refine plan_q_no (o := ⟨_, _, _, _, _, _⟩) rfl rfl rfl rfl (rfl) ?_; (try simp only [Act.put, slt])) | (iterate 1 (refine plan_q (o := ⟨_, _, _, _, _, _⟩) rfl (fun N hN => ?_); go_big_quiet_step (fail); refine wpQuiet_nil (hN _ ?_); clear hN N))
  refine plan_q0 ?_
  first | (refine plan_p_no (o := ⟨_, _, _, _, _, _⟩) rfl rfl rfl rfl (rfl) ?_; (try simp only [Act.put, slt])) | (iterate 1 (refine plan_p (o := ⟨_, _, _, _, _, _⟩) rfl (fun N hN => ?_); go_big_quiet_step (fail); refine wpQuiet_nil (hN _ ?_); clear hN N))
  first | (refine plan_p_no (o := ⟨_, _, _, _, _, _⟩) rfl rfl rfl rfl (rfl) ?_; (try simp only [Act.put, slt])) | (iterate 1 (refine plan_p (o := ⟨_, _, _, _, _, _⟩) rfl (fun N hN => ?_); go_big_quiet_step (fail); refine wpQuiet_nil (hN _ ?_); clear hN N))
  first | (refine plan_p_no (o := ⟨_, _, _, _, _, _⟩) rfl rfl rfl rfl (rfl) ?_; (try simp only [Act.put, slt])) | (iterate 1 (refine plan_p (o := ⟨_, _, _, _, _, _⟩) rfl (fun N hN => ?_); go_big_quiet_step (fail); refine wpQuiet_nil (hN _ ?_); clear hN N))
  refine plan_p0 ?_
  first | (refine plan_q_no (o := ⟨_, _, _, _, _, _⟩) rfl rfl rfl rfl (rfl) ?_; (try simp only [Act.put, slt])) | (iterate 1 (refine plan_q (o := ⟨_, _, _, _, _, _⟩) rfl (fun N hN => ?_); go_big_quiet_step (fail); refine wpQuiet_nil (hN _ ?_); clear hN N))
  refine plan_q0 ?_
  first | (refine plan_p_no (o := ⟨_, _, _, _, _, _⟩) rfl rfl rfl rfl (rfl) ?_; (try simp only [Act.put, slt])) | (iterate 1 (refine plan_p (o := ⟨_, _, _, _, _, _⟩) rfl (fun N hN => ?_); go_big_quiet_step (fail); refine wpQuiet_nil (hN _ ?_); clear hN N))
  iterate 1 (refine plan_p (o := ⟨_, _, _, _, _, _⟩) rfl (fun N hN => ?_); go_big_quiet_step (fail); refine wpQuiet_nil (hN _ ?_); clear hN N)
  refine plan_p0 ?_
  refine plan_done ?_
  repeat' (first | (go_big_may; (first
    | ((first
        | (refine loud_ rfl ?_; refine wpList_plain rfl (fun K hK => ?_); (first | (refine op_box _ _ rfl H (fun b w' H1 => hK _ _ ?_)) | (refine op_alloc _ rfl (zero_of _ _ rfl) H (fun b w' H1 => hK _ _ ?_)) | (refine op_store _ _ _ rfl rfl rfl H (by repeat (first | exact Split.here _ _ | apply Split.there)) (by kernel_rfl) (by kernel_rfl) (by kernel_rfl) (fun w' H1 => hK _ _ ?_)) | (refine op_buildSlice_all _ _ _ rfl (by first | exact elem22 | exact elem39 | exact elem76 | exact elem154) (by kernel_rfl) (by kernel_rfl) (by kernel_rfl) H (fun b w' H1 => hK _ _ ?_))); clear hK K; replace H := H1; clear H1)); (try clear hc); (try simp only [nrm, splice, Value.cells, Nat.reduceAdd, Act.eval, Act.put] at H); have hc := H.cells; simp only [CellsOf, KnCells, knc, Nat.reduceAdd] at hc))) | go_values | go_skip | go_guarded | go_step | go_upon | go_back | dsimp only)
  (try simp only [Act.put, slt])
  refine wp_region_plan (.p [0, 1, 2] (.q [3] (.p [4, 5, 6] (.q [7] (.p [8, 9, 10] (.q [11] (.p [12, 13, 14] (.e 15 (.p [16] .done))))))))) [15] (by kernel_rfl) (by kernel_rfl) (fun _ _ d _ _ h => by cases d <;> exact h) H ?_
  clear H
  (try clear hc)
  intro X nX fX wd hcf hS H
  simp only [CellsOf, KnCells, knc, Nat.reduceAdd] at hcf
  have hc := H.cells
  simp only [CellsOf, KnCells, knc, Nat.reduceAdd] at hc
  iterate 3 (refine plan_p (o := ⟨_, _, _, _, _, _⟩) rfl (fun N hN => ?_); go_big_quiet_step (fail); refine wpQuiet_nil (hN _ ?_); clear hN N)
  refine plan_p0 ?_
  iterate 1 (refine plan_q (o := ⟨_, _, _, _, _, _⟩) rfl (fun N hN => ?_); go_big_quiet_step (fail); refine wpQuiet_nil (hN _ ?_); clear hN N)
  refine plan_q0 ?_
  iterate 3 (refine plan_p (o := ⟨_, _, _, _, _, _⟩) rfl (fun N hN => ?_); go_big_quiet_step (fail); refine wpQuiet_nil (hN _ ?_); clear hN N)
  refine plan_p0 ?_
  iterate 1 (refine plan_q (o := ⟨_, _, _, _, _, _⟩) rfl (fun N hN => ?_); go_big_quiet_step (fail); refine wpQuiet_nil (hN _ ?_); clear hN N)
  refine plan_q0 ?_
  iterate 3 (refine plan_p (o := ⟨_, _, _, _, _, _⟩) rfl (fun N hN => ?_); go_big_quiet_step (fail); refine wpQuiet_nil (hN _ ?_); clear hN N)
  refine plan_p0 ?_
  iterate 1 (refine plan_q (o := ⟨_, _, _, _, _, _⟩) rfl (fun N hN => ?_); go_big_quiet_step (fail); refine wpQuiet_nil (hN _ ?_); clear hN N)
  refine plan_q0 ?_
  iterate 3 (refine plan_p (o := ⟨_, _, _, _, _, _⟩) rfl (fun N hN => ?_); go_big_quiet_step (fail); refine wpQuiet_nil (hN _ ?_); clear hN N)
  refine plan_p0 ?_
  refine plan_e (o := ⟨_, _, _, _, _, _⟩) rfl rfl (fun K hK => ?_)
  (first | (go_step; refine Calls.mono (gUpdSt g _ o ⟨c1, c2, 0⟩ hcs.out _ _ (H.pick (by repeat (first | exact Picks.nil _ | (apply Picks.wr; focus (repeat (first | exact Split.here _ _ | apply Split.there))) | (apply Picks.rd; focus (repeat (first | exact Split.here _ _ | apply Split.there))))))) ?_; rintro e w' ⟨rfl, H'⟩; replace H := H.merge (by first | exact Strikes.nil _ | (repeat (first | exact Strikes.nil _ | (apply Strikes.cons; focus (repeat (first | exact Split.here _ _ | apply Split.there)))))) H' rfl; clear H') | (refine op_box _ _ rfl H (fun b w' H1 => ?_); replace H := H1; clear H1) | (refine op_alloc _ rfl (zero_of _ _ rfl) H (fun b w' H1 => ?_); replace H := H1; clear H1) | (refine op_store _ _ _ rfl rfl rfl H (by repeat (first | exact Split.here _ _ | apply Split.there)) (by kernel_rfl) (by kernel_rfl) (by kernel_rfl) (fun w' H1 => ?_); replace H := H1; clear H1) | (refine op_buildSlice_all _ _ _ rfl (by first | exact elem22 | exact elem39 | exact elem76 | exact elem154) (by kernel_rfl) (by kernel_rfl) (by kernel_rfl) H (fun b w' H1 => ?_); replace H := H1; clear H1)); (try clear hc); (try simp only [nrm, splice, Value.cells, Nat.reduceAdd, Act.eval, Act.put] at H); have hc := H.cells; simp only [CellsOf, KnCells, knc, Nat.reduceAdd] at hc; refine hK _ _ (fun h => (h (by decide)).elim) ?_; clear hK K; (try simp only [Act.put, slt])
  iterate 1 (refine plan_p (o := ⟨_, _, _, _, _, _⟩) rfl (fun N hN => ?_); go_big_quiet_step (fail); refine wpQuiet_nil (hN _ ?_); clear hN N)
  refine plan_p0 ?_
  refine plan_done ?_
  repeat' (first | (go_big_may; (first
    | go_skip
    | ((first
        | (go_at_call 105; refine Calls.mono (gInfo_ok g _ _ rfl _ (H.obj (by repeat (first | exact Split.here _ _ | apply Split.there)))) ?_; rintro e w' ⟨qi, rfl, H'⟩; replace H := H.merge (by first | exact Strikes.nil _ | (repeat (first | exact Strikes.nil _ | (apply Strikes.cons; focus (repeat (first | exact Split.here _ _ | apply Split.there)))))) H' rfl; clear H')
        | (refine loud_ rfl ?_; refine wpList_plain rfl (fun K hK => ?_); (first | (refine op_box _ _ rfl H (fun b w' H1 => hK _ _ ?_)) | (refine op_alloc _ rfl (zero_of _ _ rfl) H (fun b w' H1 => hK _ _ ?_)) | (refine op_store _ _ _ rfl rfl rfl H (by repeat (first | exact Split.here _ _ | apply Split.there)) (by kernel_rfl) (by kernel_rfl) (by kernel_rfl) (fun w' H1 => hK _ _ ?_)) | (refine op_buildSlice_all _ _ _ rfl (by first | exact elem22 | exact elem39 | exact elem76 | exact elem154) (by kernel_rfl) (by kernel_rfl) (by kernel_rfl) H (fun b w' H1 => hK _ _ ?_))); clear hK K; replace H := H1; clear H1)); (try clear hc); (try simp only [nrm, splice, Value.cells, Nat.reduceAdd, Act.eval, Act.put] at H); have hc := H.cells; simp only [CellsOf, KnCells, knc, Nat.reduceAdd] at hc))) | go_values | go_skip | go_guarded | go_step | go_upon | go_back | dsimp only)
  go_end0
  exact ⟨rfl, H.sel (by repeat (first | exact Sel.nil _ | (apply Sel.cons; focus (repeat (first | exact Split.here _ _ | apply Split.there)))))⟩
set_option maxRecDepth 8000 in
theorem updSt_3b (d : VD) (c : Vr) (hcv : Hid (VText d.cl c)) (h3 : ((vstr c).toList == [51, 46, 48, 46, 48]) = false) (s : Vr) (hsv : Hid (VText d.st s)) (ha : s.a ≠ c.a) (hhd : d.hd = true) (hdn : d.dn = false) (p g : Nat) (o : Vo) (S : List Nat) (w : World) (H : St S w w [(false, .is p (mon g)), (true, .is g (guard d o)), genv]) :
    Calls Tryd.prog 42 #[.pointer (some ⟨p, 0, none⟩)] w fun e w' => e = .returned (.tuple #[]) ∧ St S w w' [(true, .is g (guard d { o with st := vstr ⟨c.a, c.b, 0⟩ }))] := by
  have hmeGetClusterVersion : ∀ (w : World), (method 256 45 (.pointer (some ⟨g, 0, none⟩)) "GetClusterVersion").run Tryd.prog w = .ok (104, .pointer (some ⟨g, 0, none⟩)) w := fun w => by kernel_rfl
  have hnaGetClusterVersion : ∀ (w : World), (nilAhead 256 45 (.pointer (some ⟨g, 0, none⟩)) "GetClusterVersion").run Tryd.prog w = .ok (some false) w := fun w => by kernel_rfl
  have hmeGetStorageVersion : ∀ (w : World), (method 256 45 (.pointer (some ⟨g, 0, none⟩)) "GetStorageVersion").run Tryd.prog w = .ok (107, .pointer (some ⟨g, 0, none⟩)) w := fun w => by kernel_rfl
  have hnaGetStorageVersion : ∀ (w : World), (nilAhead 256 45 (.pointer (some ⟨g, 0, none⟩)) "GetStorageVersion").run Tryd.prog w = .ok (some false) w := fun w => by kernel_rfl
  have hmeGetDowngradeInfo : ∀ (w : World), (method 256 45 (.pointer (some ⟨g, 0, none⟩)) "GetDowngradeInfo").run Tryd.prog w = .ok (105, .pointer (some ⟨g, 0, none⟩)) w := fun w => by kernel_rfl
  have hnaGetDowngradeInfo : ∀ (w : World), (nilAhead 256 45 (.pointer (some ⟨g, 0, none⟩)) "GetDowngradeInfo").run Tryd.prog w = .ok (some false) w := fun w => by kernel_rfl
  have hmeUpdateStorageVersion : ∀ (w : World), (method 256 45 (.pointer (some ⟨g, 0, none⟩)) "UpdateStorageVersion").run Tryd.prog w = .ok (110, .pointer (some ⟨g, 0, none⟩)) w := fun w => by kernel_rfl
  have hnaUpdateStorageVersion : ∀ (w : World), (nilAhead 256 45 (.pointer (some ⟨g, 0, none⟩)) "UpdateStorageVersion").run Tryd.prog w = .ok (some false) w := fun w => by kernel_rfl
  have hcok := Lib.hid hcv.out.1
  obtain ⟨c1, c2, c3⟩ := c
  obtain ⟨s1, s2, s3⟩ := s
  have ha2 : ¬ s1 = c1 := ha
  have hx4 : Hid (¬ s1 = c1) := ha
  have hx1 : Hid ((s1 != c1) = !false) := (by simp [ha2] : (s1 != c1) = !false)
  clear ha ha2
  have hcs : Hid ((⟨c1, c2, 0⟩ : Vr).Ok) := ⟨hcok.out.a, hcok.out.b, (by show (0 : Int) ≤ 0 ∧ (0 : Int) ≤ 9999; omega)⟩
  obtain ⟨cl, st, tg, dn, hd, at', n, cap⟩ := d
  simp only at hhd hdn
  subst hhd hdn
  have hc := H.cells; simp only [CellsOf, KnCells, knc, Nat.reduceAdd] at hc
  go_enter Tryd.func42, Tryd.ntmps42
  repeat' (first | (go_big_may; (first
    | go_skip
    | ((first
        | (go_at_call 104; refine Calls.mono (gGetClusterVersion_ok g _ o _ hcv _ (H.obj (by repeat (first | exact Split.here _ _ | apply Split.there)))) ?_; rintro e w' ⟨qc, rfl, H'⟩; replace H := H.merge (by first | exact Strikes.nil _ | (repeat (first | exact Strikes.nil _ | (apply Strikes.cons; focus (repeat (first | exact Split.here _ _ | apply Split.there)))))) H' rfl; clear H')
        | (go_at_call 48; refine Calls.mono (string_calls _ hcok.out _ (H.rep (R := GEnv) (by repeat (first | exact Split.here _ _ | apply Split.there))).1) ?_; rintro e w' ⟨rfl, H'⟩; replace H := H.of_ext H'; clear H')
        | (go_at_call 107; refine Calls.mono (gGetStorageVersion_ok g _ o _ hsv _ (H.obj (by repeat (first | exact Split.here _ _ | apply Split.there)))) ?_; rintro e w' ⟨qs, rfl, H'⟩; replace H := H.merge (by first | exact Strikes.nil _ | (repeat (first | exact Strikes.nil _ | (apply Strikes.cons; focus (repeat (first | exact Split.here _ _ | apply Split.there)))))) H' rfl; clear H')
        | (refine loud_ rfl ?_; refine wpList_plain rfl (fun K hK => ?_); (first | (refine op_box _ _ rfl H (fun b w' H1 => hK _ _ ?_)) | (refine op_alloc _ rfl (zero_of _ _ rfl) H (fun b w' H1 => hK _ _ ?_)) | (refine op_store _ _ _ rfl rfl rfl H (by repeat (first | exact Split.here _ _ | apply Split.there)) (by kernel_rfl) (by kernel_rfl) (by kernel_rfl) (fun w' H1 => hK _ _ ?_)) | (refine op_buildSlice_all _ _ _ rfl (by first | exact elem22 | exact elem39 | exact elem76 | exact elem154) (by kernel_rfl) (by kernel_rfl) (by kernel_rfl) H (fun b w' H1 => hK _ _ ?_))); clear hK K; replace H := H1; clear H1)); (try clear hc); (try simp only [nrm, splice, Value.cells, Nat.reduceAdd, Act.eval, Act.put] at H); have hc := H.cells; simp only [CellsOf, KnCells, knc, Nat.reduceAdd] at hc))) | go_values | go_skip | go_guarded | go_step | go_upon | go_back | dsimp only)
  (try simp only [Act.put, slt])
  refine wp_region_plan (.p [0, 1, 2, 3, 4, 5] (.q [6] (.p [7, 8, 9] (.q [10] (.p [11, 12, 13, 14, 15, 16] (.q [17] (.p [18, 19, 20] (.q [21] (.p [22, 23] .done))))))))) [] (by kernel_rfl) (by kernel_rfl) (fun _ _ d _ _ h => by cases d <;> exact h) H ?_
  clear H
  (try clear hc)
  intro X nX fX wd hcf hS H
  simp only [CellsOf, KnCells, knc, Nat.reduceAdd] at hcf
  have hc := H.cells
  simp only [CellsOf, KnCells, knc, Nat.reduceAdd] at hc
  iterate 3 (refine plan_p (o := ⟨_, _, _, _, _, _⟩) rfl (fun N hN => ?_); go_big_quiet_step (fail); refine wpQuiet_nil (hN _ ?_); clear hN N)
  first | (refine plan_p_no (o := ⟨_, _, _, _, _, _⟩) rfl rfl rfl rfl (by first | rfl | exact hx1.out) ?_; (try simp only [Act.put, slt])) | (iterate 1 (refine plan_p (o := ⟨_, _, _, _, _, _⟩) rfl (fun N hN => ?_); go_big_quiet_step (fail); refine wpQuiet_nil (hN _ ?_); clear hN N))
  first | (refine plan_p_no (o := ⟨_, _, _, _, _, _⟩) rfl rfl rfl rfl (by first | rfl | exact hx1.out) ?_; (try simp only [Act.put, slt])) | (iterate 1 (refine plan_p (o := ⟨_, _, _, _, _, _⟩) rfl (fun N hN => ?_); go_big_quiet_step (fail); refine wpQuiet_nil (hN _ ?_); clear hN N))
  first | (refine plan_p_no (o := ⟨_, _, _, _, _, _⟩) rfl rfl rfl rfl (by first | rfl | exact hx1.out) ?_; (try simp only [Act.put, slt])) | (iterate 1 (refine plan_p (o := ⟨_, _, _, _, _, _⟩) rfl (fun N hN => ?_); go_big_quiet_step (fail); refine wpQuiet_nil (hN _ ?_); clear hN N))
  refine plan_p0 ?_
  first | (refine plan_q_no (o := ⟨_, _, _, _, _, _⟩) rfl rfl rfl rfl (by first | rfl | exact hx1.out) ?_; (try simp only [Act.put, slt])) | (iterate 1 (refine plan_q (o := ⟨_, _, _, _, _, _⟩) rfl (fun N hN => ?_); go_big_quiet_step (fail); refine wpQuiet_nil (hN _ ?_); clear hN N))
  refine plan_q0 ?_
  first | (refine plan_p_no (o := ⟨_, _, _, _, _, _⟩) rfl rfl rfl rfl (by first | rfl | exact hx1.out) ?_; (try simp only [Act.put, slt])) | (iterate 1 (refine plan_p (o := ⟨_, _, _, _, _, _⟩) rfl (fun N hN => ?_); go_big_quiet_step (fail); refine wpQuiet_nil (hN _ ?_); clear hN N))
  first | (refine plan_p_no (o := ⟨_, _, _, _, _, _⟩) rfl rfl rfl rfl (by first | rfl | exact hx1.out) ?_; (try simp only [Act.put, slt])) | (iterate 1 (refine plan_p (o := ⟨_, _, _, _, _, _⟩) rfl (fun N hN => ?_); go_big_quiet_step (fail); refine wpQuiet_nil (hN _ ?_); clear hN N))
  first | (refine plan_p_no (o := ⟨_, _, _, _, _, _⟩) rfl rfl rfl rfl (by first | rfl | exact hx1.out) ?_; (try simp only [Act.put, slt])) | (iterate 1 (refine plan_p (o := ⟨_, _, _, _, _, _⟩) rfl (fun N hN => ?_); go_big_quiet_step (fail); refine wpQuiet_nil (hN _ ?_); clear hN N))
  refine plan_p0 ?_
  first | (refine plan_q_no (o := ⟨_, _, _, _, _, _⟩) rfl rfl rfl rfl (by first | rfl | exact hx1.out) ?_; (try simp only [Act.put, slt])) | (iterate 1 (refine plan_q (o := ⟨_, _, _, _, _, _⟩) rfl (fun N hN => ?_); go_big_quiet_step (fail); refine wpQuiet_nil (hN _ ?_); clear hN N))
  refine plan_q0 ?_
  first | (refine plan_p_no (o := ⟨_, _, _, _, _, _⟩) rfl rfl rfl rfl (by first | rfl | exact hx1.out) ?_; (try simp only [Act.put, slt])) | (iterate 1 (refine plan_p (o := ⟨_, _, _, _, _, _⟩) rfl (fun N hN => ?_); go_big_quiet_step (fail); refine wpQuiet_nil (hN _ ?_); clear hN N))
  iterate 2 (refine plan_p (o := ⟨_, _, _, _, _, _⟩) rfl (fun N hN => ?_); go_big_quiet_step (fail); refine wpQuiet_nil (hN _ ?_); clear hN N)
  first | (refine plan_p_no (o := ⟨_, _, _, _, _, _⟩) rfl rfl rfl rfl (by first | rfl | exact hx1.out) ?_; (try simp only [Act.put, slt])) | (iterate 1 (refine plan_p (o := ⟨_, _, _, _, _, _⟩) rfl (fun N hN => ?_); go_big_quiet_step (fail); refine wpQuiet_nil (hN _ ?_); clear hN N))
  first | (refine plan_p_no (o := ⟨_, _, _, _, _, _⟩) rfl rfl rfl rfl (by first | rfl | exact hx1.out) ?_; (try simp only [Act.put, slt])) | (iterate 1 (refine plan_p (o := ⟨_, _, _, _, _, _⟩) rfl (fun N hN => ?_); go_big_quiet_step (fail); refine wpQuiet_nil (hN _ ?_); clear hN N))
  first | (refine plan_p_no (o := ⟨_, _, _, _, _, _⟩) rfl rfl rfl rfl (by first | rfl | exact hx1.out) ?_; (try simp only [Act.put, slt])) | (iterate 1 (refine plan_p (o := ⟨_, _, _, _, _, _⟩) rfl (fun N hN => ?_); go_big_quiet_step (fail); refine wpQuiet_nil (hN _ ?_); clear hN N))
  refine plan_p0 ?_
  first | (refine plan_q_no (o := ⟨_, _, _, _, _, _⟩) rfl rfl rfl rfl (by first | rfl | exact hx1.out) ?_; (try simp only [Act.put, slt])) | (iterate 1 (refine plan_q (o := ⟨_, _, _, _, _, _⟩) rfl (fun N hN => ?_); go_big_quiet_step (fail); refine wpQuiet_nil (hN _ ?_); clear hN N))
  refine plan_q0 ?_
  first | (refine plan_p_no (o := ⟨_, _, _, _, _, _⟩) rfl rfl rfl rfl (by first | rfl | exact hx1.out) ?_; (try simp only [Act.put, slt])) | (iterate 1 (refine plan_p (o := ⟨_, _, _, _, _, _⟩) rfl (fun N hN => ?_); go_big_quiet_step (fail); refine wpQuiet_nil (hN _ ?_); clear hN N))
  first | (refine plan_p_no (o := ⟨_, _, _, _, _, _⟩) rfl rfl rfl rfl (by first | rfl | exact hx1.out) ?_; (try simp only [Act.put, slt])) | (iterate 1 (refine plan_p (o := ⟨_, _, _, _, _, _⟩) rfl (fun N hN => ?_); go_big_quiet_step (fail); refine wpQuiet_nil (hN _ ?_); clear hN N))
  first | (refine plan_p_no (o := ⟨_, _, _, _, _, _⟩) rfl rfl rfl rfl (by first | rfl | exact hx1.out) ?_; (try simp only [Act.put, slt])) | (iterate 1 (refine plan_p (o := ⟨_, _, _, _, _, _⟩) rfl (fun N hN => ?_); go_big_quiet_step (fail); refine wpQuiet_nil (hN _ ?_); clear hN N))
  refine plan_p0 ?_
  first | (refine plan_q_no (o := ⟨_, _, _, _, _, _⟩) rfl rfl rfl rfl (by first | rfl | exact hx1.out) ?_; (try simp only [Act.put, slt])) | (iterate 1 (refine plan_q (o := ⟨_, _, _, _, _, _⟩) rfl (fun N hN => ?_); go_big_quiet_step (fail); refine wpQuiet_nil (hN _ ?_); clear hN N))
  refine plan_q0 ?_
  first | (refine plan_p_no (o := ⟨_, _, _, _, _, _⟩) rfl rfl rfl rfl (by first | rfl | exact hx1.out) ?_; (try simp only [Act.put, slt])) | (iterate 1 (refine plan_p (o := ⟨_, _, _, _, _, _⟩) rfl (fun N hN => ?_); go_big_quiet_step (fail); refine wpQuiet_nil (hN _ ?_); clear hN N))
  iterate 1 (refine plan_p (o := ⟨_, _, _, _, _, _⟩) rfl (fun N hN => ?_); go_big_quiet_step (fail); refine wpQuiet_nil (hN _ ?_); clear hN N)
  refine plan_p0 ?_
  refine plan_done ?_
  simp only [if_neg hx4.out]
  repeat' (first | (go_big_may; (first
    | ((first
        | (refine loud_ rfl ?_; refine wpList_plain rfl (fun K hK => ?_); (first | (refine op_box _ _ rfl H (fun b w' H1 => hK _ _ ?_)) | (refine op_alloc _ rfl (zero_of _ _ rfl) H (fun b w' H1 => hK _ _ ?_)) | (refine op_store _ _ _ rfl rfl rfl H (by repeat (first | exact Split.here _ _ | apply Split.there)) (by kernel_rfl) (by kernel_rfl) (by kernel_rfl) (fun w' H1 => hK _ _ ?_)) | (refine op_buildSlice_all _ _ _ rfl (by first | exact elem22 | exact elem39 | exact elem76 | exact elem154) (by kernel_rfl) (by kernel_rfl) (by kernel_rfl) H (fun b w' H1 => hK _ _ ?_))); clear hK K; replace H := H1; clear H1)); (try clear hc); (try simp only [nrm, splice, Value.cells, Nat.reduceAdd, Act.eval, Act.put] at H); have hc := H.cells; simp only [CellsOf, KnCells, knc, Nat.reduceAdd] at hc))) | go_values | go_skip | go_guarded | go_step | go_upon | go_back | dsimp only)
  (try simp only [Act.put, slt])
  refine wp_region_plan (.p [0, 1, 2] (.q [3] (.p [4, 5, 6] (.q [7] (.p [8, 9, 10] (.q [11] (.p [12, 13, 14] (.e 15 (.p [16] .done))))))))) [15] (by kernel_rfl) (by kernel_rfl) (fun _ _ d _ _ h => by cases d <;> exact h) H ?_
  clear H
  (try clear hc)
  intro X nX fX wd hcf hS H
  simp only [CellsOf, KnCells, knc, Nat.reduceAdd] at hcf
  have hc := H.cells
  simp only [CellsOf, KnCells, knc, Nat.reduceAdd] at hc
  iterate 3 (refine plan_p (o := ⟨_, _, _, _, _, _⟩) rfl (fun N hN => ?_); go_big_quiet_step (fail); refine wpQuiet_nil (hN _ ?_); clear hN N)
  refine plan_p0 ?_
  iterate 1 (refine plan_q (o := ⟨_, _, _, _, _, _⟩) rfl (fun N hN => ?_); go_big_quiet_step (fail); refine wpQuiet_nil (hN _ ?_); clear hN N)
  refine plan_q0 ?_
  iterate 3 (refine plan_p (o := ⟨_, _, _, _, _, _⟩) rfl (fun N hN => ?_); go_big_quiet_step (fail); refine wpQuiet_nil (hN _ ?_); clear hN N)
  refine plan_p0 ?_
  iterate 1 (refine plan_q (o := ⟨_, _, _, _, _, _⟩) rfl (fun N hN => ?_); go_big_quiet_step (fail); refine wpQuiet_nil (hN _ ?_); clear hN N)
  refine plan_q0 ?_
  iterate 3 (refine plan_p (o := ⟨_, _, _, _, _, _⟩) rfl (fun N hN => ?_); go_big_quiet_step (fail); refine wpQuiet_nil (hN _ ?_); clear hN N)
  refine plan_p0 ?_
  iterate 1 (refine plan_q (o := ⟨_, _, _, _, _, _⟩) rfl (fun N hN => ?_); go_big_quiet_step (fail); refine wpQuiet_nil (hN _ ?_); clear hN N)
  refine plan_q0 ?_
  iterate 3 (refine plan_p (o := ⟨_, _, _, _, _, _⟩) rfl (fun N hN => ?_); go_big_quiet_step (fail); refine wpQuiet_nil (hN _ ?_); clear hN N)
  refine plan_p0 ?_
  refine plan_e (o := ⟨_, _, _, _, _, _⟩) rfl rfl (fun K hK => ?_)
  (first | (go_step; refine Calls.mono (gUpdSt g _ o ⟨c1, c2, 0⟩ hcs.out _ _ (H.pick (by repeat (first | exact Picks.nil _ | (apply Picks.wr; focus (repeat (first | exact Split.here _ _ | apply Split.there))) | (apply Picks.rd; focus (repeat (first | exact Split.here _ _ | apply Split.there))))))) ?_; rintro e w' ⟨rfl, H'⟩; replace H := H.merge (by first | exact Strikes.nil _ | (repeat (first | exact Strikes.nil _ | (apply Strikes.cons; focus (repeat (first | exact Split.here _ _ | apply Split.there)))))) H' rfl; clear H') | (refine op_box _ _ rfl H (fun b w' H1 => ?_); replace H := H1; clear H1) | (refine op_alloc _ rfl (zero_of _ _ rfl) H (fun b w' H1 => ?_); replace H := H1; clear H1) | (refine op_store _ _ _ rfl rfl rfl H (by repeat (first | exact Split.here _ _ | apply Split.there)) (by kernel_rfl) (by kernel_rfl) (by kernel_rfl) (fun w' H1 => ?_); replace H := H1; clear H1) | (refine op_buildSlice_all _ _ _ rfl (by first | exact elem22 | exact elem39 | exact elem76 | exact elem154) (by kernel_rfl) (by kernel_rfl) (by kernel_rfl) H (fun b w' H1 => ?_); replace H := H1; clear H1)); (try clear hc); (try simp only [nrm, splice, Value.cells, Nat.reduceAdd, Act.eval, Act.put] at H); have hc := H.cells; simp only [CellsOf, KnCells, knc, Nat.reduceAdd] at hc; refine hK _ _ (fun h => (h (by decide)).elim) ?_; clear hK K; (try simp only [Act.put, slt])
  iterate 1 (refine plan_p (o := ⟨_, _, _, _, _, _⟩) rfl (fun N hN => ?_); go_big_quiet_step (fail); refine wpQuiet_nil (hN _ ?_); clear hN N)
  refine plan_p0 ?_
  refine plan_done ?_
  repeat' (first | (go_big_may; (first
    | go_skip
    | ((first
        | (go_at_call 105; refine Calls.mono (gInfo_ok g _ _ rfl _ (H.obj (by repeat (first | exact Split.here _ _ | apply Split.there)))) ?_; rintro e w' ⟨qi, rfl, H'⟩; replace H := H.merge (by first | exact Strikes.nil _ | (repeat (first | exact Strikes.nil _ | (apply Strikes.cons; focus (repeat (first | exact Split.here _ _ | apply Split.there)))))) H' rfl; clear H')
        | (refine loud_ rfl ?_; refine wpList_plain rfl (fun K hK => ?_); (first | (refine op_box _ _ rfl H (fun b w' H1 => hK _ _ ?_)) | (refine op_alloc _ rfl (zero_of _ _ rfl) H (fun b w' H1 => hK _ _ ?_)) | (refine op_store _ _ _ rfl rfl rfl H (by repeat (first | exact Split.here _ _ | apply Split.there)) (by kernel_rfl) (by kernel_rfl) (by kernel_rfl) (fun w' H1 => hK _ _ ?_)) | (refine op_buildSlice_all _ _ _ rfl (by first | exact elem22 | exact elem39 | exact elem76 | exact elem154) (by kernel_rfl) (by kernel_rfl) (by kernel_rfl) H (fun b w' H1 => hK _ _ ?_))); clear hK K; replace H := H1; clear H1)); (try clear hc); (try simp only [nrm, splice, Value.cells, Nat.reduceAdd, Act.eval, Act.put] at H); have hc := H.cells; simp only [CellsOf, KnCells, knc, Nat.reduceAdd] at hc))) | go_values | go_skip | go_guarded | go_step | go_upon | go_back | dsimp only)
  go_end0
  exact ⟨rfl, H.sel (by repeat (first | exact Sel.nil _ | (apply Sel.cons; focus (repeat (first | exact Split.here _ _ | apply Split.there)))))⟩
set_option maxRecDepth 8000 in
theorem updSt_4b (d : VD) (c : Vr) (hcv : Hid (VText d.cl c)) (h3 : ((vstr c).toList == [51, 46, 48, 46, 48]) = false) (s : Vr) (hsv : Hid (VText d.st s)) (ha : s.a = c.a) (hb : s.b ≠ c.b) (hhd : d.hd = true) (hdn : d.dn = false) (p g : Nat) (o : Vo) (S : List Nat) (w : World) (H : St S w w [(false, .is p (mon g)), (true, .is g (guard d o)), genv]) :
    Calls Tryd.prog 42 #[.pointer (some ⟨p, 0, none⟩)] w fun e w' => e = .returned (.tuple #[]) ∧ St S w w' [(true, .is g (guard d { o with st := vstr ⟨c.a, c.b, 0⟩ }))] := by
  have hmeGetClusterVersion : ∀ (w : World), (method 256 45 (.pointer (some ⟨g, 0, none⟩)) "GetClusterVersion").run Tryd.prog w = .ok (104, .pointer (some ⟨g, 0, none⟩)) w := fun w => by kernel_rfl
  have hnaGetClusterVersion : ∀ (w : World), (nilAhead 256 45 (.pointer (some ⟨g, 0, none⟩)) "GetClusterVersion").run Tryd.prog w = .ok (some false) w := fun w => by kernel_rfl
  have hmeGetStorageVersion : ∀ (w : World), (method 256 45 (.pointer (some ⟨g, 0, none⟩)) "GetStorageVersion").run Tryd.prog w = .ok (107, .pointer (some ⟨g, 0, none⟩)) w := fun w => by kernel_rfl
  have hnaGetStorageVersion : ∀ (w : World), (nilAhead 256 45 (.pointer (some ⟨g, 0, none⟩)) "GetStorageVersion").run Tryd.prog w = .ok (some false) w := fun w => by kernel_rfl
  have hmeGetDowngradeInfo : ∀ (w : World), (method 256 45 (.pointer (some ⟨g, 0, none⟩)) "GetDowngradeInfo").run Tryd.prog w = .ok (105, .pointer (some ⟨g, 0, none⟩)) w := fun w => by kernel_rfl
  have hnaGetDowngradeInfo : ∀ (w : World), (nilAhead 256 45 (.pointer (some ⟨g, 0, none⟩)) "GetDowngradeInfo").run Tryd.prog w = .ok (some false) w := fun w => by kernel_rfl
  have hmeUpdateStorageVersion : ∀ (w : World), (method 256 45 (.pointer (some ⟨g, 0, none⟩)) "UpdateStorageVersion").run Tryd.prog w = .ok (110, .pointer (some ⟨g, 0, none⟩)) w := fun w => by kernel_rfl
  have hnaUpdateStorageVersion : ∀ (w : World), (nilAhead 256 45 (.pointer (some ⟨g, 0, none⟩)) "UpdateStorageVersion").run Tryd.prog w = .ok (some false) w := fun w => by kernel_rfl
  have hcok := Lib.hid hcv.out.1
  obtain ⟨c1, c2, c3⟩ := c
  obtain ⟨s1, s2, s3⟩ := s
  simp only at ha
  subst ha
  have ha2 : ¬ s2 = c2 := hb
  have hx1 : Hid ((s2 != c2) = true) := (by simp [ha2] : (s2 != c2) = true)
  clear hb ha2
  have hcs : Hid ((⟨s1, c2, 0⟩ : Vr).Ok) := ⟨hcok.out.a, hcok.out.b, (by show (0 : Int) ≤ 0 ∧ (0 : Int) ≤ 9999; omega)⟩
  obtain ⟨cl, st, tg, dn, hd, at', n, cap⟩ := d
  simp only at hhd hdn
  subst hhd hdn
  have hc := H.cells; simp only [CellsOf, KnCells, knc, Nat.reduceAdd] at hc
  go_enter Tryd.func42, Tryd.ntmps42
  repeat' (first | (go_big_may; (first
    | go_skip
    | ((first
        | (go_at_call 104; refine Calls.mono (gGetClusterVersion_ok g _ o _ hcv _ (H.obj (by repeat (first | exact Split.here _ _ | apply Split.there)))) ?_; rintro e w' ⟨qc, rfl, H'⟩; replace H := H.merge (by first | exact Strikes.nil _ | (repeat (first | exact Strikes.nil _ | (apply Strikes.cons; focus (repeat (first | exact Split.here _ _ | apply Split.there)))))) H' rfl; clear H')
        | (go_at_call 48; refine Calls.mono (string_calls _ hcok.out _ (H.rep (R := GEnv) (by repeat (first | exact Split.here _ _ | apply Split.there))).1) ?_; rintro e w' ⟨rfl, H'⟩; replace H := H.of_ext H'; clear H')
        | (go_at_call 107; refine Calls.mono (gGetStorageVersion_ok g _ o _ hsv _ (H.obj (by repeat (first | exact Split.here _ _ | apply Split.there)))) ?_; rintro e w' ⟨qs, rfl, H'⟩; replace H := H.merge (by first | exact Strikes.nil _ | (repeat (first | exact Strikes.nil _ | (apply Strikes.cons; focus (repeat (first | exact Split.here _ _ | apply Split.there)))))) H' rfl; clear H')
        | (refine loud_ rfl ?_; refine wpList_plain rfl (fun K hK => ?_); (first | (refine op_box _ _ rfl H (fun b w' H1 => hK _ _ ?_)) | (refine op_alloc _ rfl (zero_of _ _ rfl) H (fun b w' H1 => hK _ _ ?_)) | (refine op_store _ _ _ rfl rfl rfl H (by repeat (first | exact Split.here _ _ | apply Split.there)) (by kernel_rfl) (by kernel_rfl) (by kernel_rfl) (fun w' H1 => hK _ _ ?_)) | (refine op_buildSlice_all _ _ _ rfl (by first | exact elem22 | exact elem39 | exact elem76 | exact elem154) (by kernel_rfl) (by kernel_rfl) (by kernel_rfl) H (fun b w' H1 => hK _ _ ?_))); clear hK K; replace H := H1; clear H1)); (try clear hc); (try simp only [nrm, splice, Value.cells, Nat.reduceAdd, Act.eval, Act.put] at H); have hc := H.cells; simp only [CellsOf, KnCells, knc, Nat.reduceAdd] at hc))) | go_values | go_skip | go_guarded | go_step | go_upon | go_back | dsimp only)
  (try simp only [Act.put, slt])
  refine wp_region_plan (.p [0, 1, 2, 3, 4, 5] (.q [6] (.p [7, 8, 9] (.q [10] (.p [11, 12, 13, 14, 15, 16] (.q [17] (.p [18, 19, 20] (.q [21] (.p [22, 23] .done))))))))) [] (by kernel_rfl) (by kernel_rfl) (fun _ _ d _ _ h => by cases d <;> exact h) H ?_
  clear H
  (try clear hc)
  intro X nX fX wd hcf hS H
  simp only [CellsOf, KnCells, knc, Nat.reduceAdd] at hcf
  have hc := H.cells
  simp only [CellsOf, KnCells, knc, Nat.reduceAdd] at hc
  iterate 3 (refine plan_p (o := ⟨_, _, _, _, _, _⟩) rfl (fun N hN => ?_); go_big_quiet_step (fail); refine wpQuiet_nil (hN _ ?_); clear hN N)
  first | (refine plan_p_no (o := ⟨_, _, _, _, _, _⟩) rfl rfl rfl rfl (by first | rfl | exact hx1.out) ?_; (try simp only [Act.put, slt])) | (iterate 1 (refine plan_p (o := ⟨_, _, _, _, _, _⟩) rfl (fun N hN => ?_); go_big_quiet_step (fail); refine wpQuiet_nil (hN _ ?_); clear hN N))
  first | (refine plan_p_no (o := ⟨_, _, _, _, _, _⟩) rfl rfl rfl rfl (by first | rfl | exact hx1.out) ?_; (try simp only [Act.put, slt])) | (iterate 1 (refine plan_p (o := ⟨_, _, _, _, _, _⟩) rfl (fun N hN => ?_); go_big_quiet_step (fail); refine wpQuiet_nil (hN _ ?_); clear hN N))
  first | (refine plan_p_no (o := ⟨_, _, _, _, _, _⟩) rfl rfl rfl rfl (by first | rfl | exact hx1.out) ?_; (try simp only [Act.put, slt])) | (iterate 1 (refine plan_p (o := ⟨_, _, _, _, _, _⟩) rfl (fun N hN => ?_); go_big_quiet_step (fail); refine wpQuiet_nil (hN _ ?_); clear hN N))
  refine plan_p0 ?_
  first | (refine plan_q_no (o := ⟨_, _, _, _, _, _⟩) rfl rfl rfl rfl (by first | rfl | exact hx1.out) ?_; (try simp only [Act.put, slt])) | (iterate 1 (refine plan_q (o := ⟨_, _, _, _, _, _⟩) rfl (fun N hN => ?_); go_big_quiet_step (fail); refine wpQuiet_nil (hN _ ?_); clear hN N))
  refine plan_q0 ?_
  first | (refine plan_p_no (o := ⟨_, _, _, _, _, _⟩) rfl rfl rfl rfl (by first | rfl | exact hx1.out) ?_; (try simp only [Act.put, slt])) | (iterate 1 (refine plan_p (o := ⟨_, _, _, _, _, _⟩) rfl (fun N hN => ?_); go_big_quiet_step (fail); refine wpQuiet_nil (hN _ ?_); clear hN N))
  first | (refine plan_p_no (o := ⟨_, _, _, _, _, _⟩) rfl rfl rfl rfl (by first | rfl | exact hx1.out) ?_; (try simp only [Act.put, slt])) | (iterate 1 (refine plan_p (o := ⟨_, _, _, _, _, _⟩) rfl (fun N hN => ?_); go_big_quiet_step (fail); refine wpQuiet_nil (hN _ ?_); clear hN N))
  first | (refine plan_p_no (o := ⟨_, _, _, _, _, _⟩) rfl rfl rfl rfl (by first | rfl | exact hx1.out) ?_; (try simp only [Act.put, slt])) | (iterate 1 (refine plan_p (o := ⟨_, _, _, _, _, _⟩) rfl (fun N hN => ?_); go_big_quiet_step (fail); refine wpQuiet_nil (hN _ ?_); clear hN N))
  refine plan_p0 ?_
  first | (refine plan_q_no (o := ⟨_, _, _, _, _, _⟩) rfl rfl rfl rfl (by first | rfl | exact hx1.out) ?_; (try simp only [Act.put, slt])) | (iterate 1 (refine plan_q (o := ⟨_, _, _, _, _, _⟩) rfl (fun N hN => ?_); go_big_quiet_step (fail); refine wpQuiet_nil (hN _ ?_); clear hN N))
  refine plan_q0 ?_
  first | (refine plan_p_no (o := ⟨_, _, _, _, _, _⟩) rfl rfl rfl rfl (by first | rfl | exact hx1.out) ?_; (try simp only [Act.put, slt])) | (iterate 1 (refine plan_p (o := ⟨_, _, _, _, _, _⟩) rfl (fun N hN => ?_); go_big_quiet_step (fail); refine wpQuiet_nil (hN _ ?_); clear hN N))
  iterate 2 (refine plan_p (o := ⟨_, _, _, _, _, _⟩) rfl (fun N hN => ?_); go_big_quiet_step (fail); refine wpQuiet_nil (hN _ ?_); clear hN N)
  first | (refine plan_p_no (o := ⟨_, _, _, _, _, _⟩) rfl rfl rfl rfl (by first | rfl | exact hx1.out) ?_; (try simp only [Act.put, slt])) | (iterate 1 (refine plan_p (o := ⟨_, _, _, _, _, _⟩) rfl (fun N hN => ?_); go_big_quiet_step (fail); refine wpQuiet_nil (hN _ ?_); clear hN N))
  first | (refine plan_p_no (o := ⟨_, _, _, _, _, _⟩) rfl rfl rfl rfl (by first | rfl | exact hx1.out) ?_; (try simp only [Act.put, slt])) | (iterate 1 (refine plan_p (o := ⟨_, _, _, _, _, _⟩) rfl (fun N hN => ?_); go_big_quiet_step (fail); refine wpQuiet_nil (hN _ ?_); clear hN N))
  first | (refine plan_p_no (o := ⟨_, _, _, _, _, _⟩) rfl rfl rfl rfl (by first | rfl | exact hx1.out) ?_; (try simp only [Act.put, slt])) | (iterate 1 (refine plan_p (o := ⟨_, _, _, _, _, _⟩) rfl (fun N hN => ?_); go_big_quiet_step (fail); refine wpQuiet_nil (hN _ ?_); clear hN N))
  refine plan_p0 ?_
  first | (refine plan_q_no (o := ⟨_, _, _, _, _, _⟩) rfl rfl rfl rfl (by first | rfl | exact hx1.out) ?_; (try simp only [Act.put, slt])) | (iterate 1 (refine plan_q (o := ⟨_, _, _, _, _, _⟩) rfl (fun N hN => ?_); go_big_quiet_step (fail); refine wpQuiet_nil (hN _ ?_); clear hN N))
  refine plan_q0 ?_
  first | (refine plan_p_no (o := ⟨_, _, _, _, _, _⟩) rfl rfl rfl rfl (by first | rfl | exact hx1.out) ?_; (try simp only [Act.put, slt])) | (iterate 1 (refine plan_p (o := ⟨_, _, _, _, _, _⟩) rfl (fun N hN => ?_); go_big_quiet_step (fail); refine wpQuiet_nil (hN _ ?_); clear hN N))
  first | (refine plan_p_no (o := ⟨_, _, _, _, _, _⟩) rfl rfl rfl rfl (by first | rfl | exact hx1.out) ?_; (try simp only [Act.put, slt])) | (iterate 1 (refine plan_p (o := ⟨_, _, _, _, _, _⟩) rfl (fun N hN => ?_); go_big_quiet_step (fail); refine wpQuiet_nil (hN _ ?_); clear hN N))
  first | (refine plan_p_no (o := ⟨_, _, _, _, _, _⟩) rfl rfl rfl rfl (by first | rfl | exact hx1.out) ?_; (try simp only [Act.put, slt])) | (iterate 1 (refine plan_p (o := ⟨_, _, _, _, _, _⟩) rfl (fun N hN => ?_); go_big_quiet_step (fail); refine wpQuiet_nil (hN _ ?_); clear hN N))
  refine plan_p0 ?_
  first | (refine plan_q_no (o := ⟨_, _, _, _, _, _⟩) rfl rfl rfl rfl (by first | rfl | exact hx1.out) ?_; (try simp only [Act.put, slt])) | (iterate 1 (refine plan_q (o := ⟨_, _, _, _, _, _⟩) rfl (fun N hN => ?_); go_big_quiet_step (fail); refine wpQuiet_nil (hN _ ?_); clear hN N))
  refine plan_q0 ?_
  first | (refine plan_p_no (o := ⟨_, _, _, _, _, _⟩) rfl rfl rfl rfl (by first | rfl | exact hx1.out) ?_; (try simp only [Act.put, slt])) | (iterate 1 (refine plan_p (o := ⟨_, _, _, _, _, _⟩) rfl (fun N hN => ?_); go_big_quiet_step (fail); refine wpQuiet_nil (hN _ ?_); clear hN N))
  iterate 1 (refine plan_p (o := ⟨_, _, _, _, _, _⟩) rfl (fun N hN => ?_); go_big_quiet_step (fail); refine wpQuiet_nil (hN _ ?_); clear hN N)
  refine plan_p0 ?_
  refine plan_done ?_
  have hxv : (s2 != c2) = true := hx1.out
  repeat' (first | (go_big_may; (first
    | ((first
        | (refine loud_ rfl ?_; refine wpList_plain rfl (fun K hK => ?_); (first | (refine op_box _ _ rfl H (fun b w' H1 => hK _ _ ?_)) | (refine op_alloc _ rfl (zero_of _ _ rfl) H (fun b w' H1 => hK _ _ ?_)) | (refine op_store _ _ _ rfl rfl rfl H (by repeat (first | exact Split.here _ _ | apply Split.there)) (by kernel_rfl) (by kernel_rfl) (by kernel_rfl) (fun w' H1 => hK _ _ ?_)) | (refine op_buildSlice_all _ _ _ rfl (by first | exact elem22 | exact elem39 | exact elem76 | exact elem154) (by kernel_rfl) (by kernel_rfl) (by kernel_rfl) H (fun b w' H1 => hK _ _ ?_))); clear hK K; replace H := H1; clear H1)); (try clear hc); (try simp only [nrm, splice, Value.cells, Nat.reduceAdd, Act.eval, Act.put] at H); have hc := H.cells; simp only [CellsOf, KnCells, knc, Nat.reduceAdd] at hc))) | go_values | go_skip | go_guarded | go_step | go_upon | go_back | dsimp only)
  (try simp only [Act.put, slt])
  refine wp_region_plan (.p [0, 1, 2] (.q [3] (.p [4, 5, 6] (.q [7] (.p [8, 9, 10] (.q [11] (.p [12, 13, 14] (.e 15 (.p [16] .done))))))))) [15] (by kernel_rfl) (by kernel_rfl) (fun _ _ d _ _ h => by cases d <;> exact h) H ?_
  clear H
  (try clear hc)
  intro X nX fX wd hcf hS H
  simp only [CellsOf, KnCells, knc, Nat.reduceAdd] at hcf
  have hc := H.cells
  simp only [CellsOf, KnCells, knc, Nat.reduceAdd] at hc
  iterate 3 (refine plan_p (o := ⟨_, _, _, _, _, _⟩) rfl (fun N hN => ?_); go_big_quiet_step (fail); refine wpQuiet_nil (hN _ ?_); clear hN N)
  refine plan_p0 ?_
  iterate 1 (refine plan_q (o := ⟨_, _, _, _, _, _⟩) rfl (fun N hN => ?_); go_big_quiet_step (fail); refine wpQuiet_nil (hN _ ?_); clear hN N)
  refine plan_q0 ?_
  iterate 3 (refine plan_p (o := ⟨_, _, _, _, _, _⟩) rfl (fun N hN => ?_); go_big_quiet_step (fail); refine wpQuiet_nil (hN _ ?_); clear hN N)
  refine plan_p0 ?_
  iterate 1 (refine plan_q (o := ⟨_, _, _, _, _, _⟩) rfl (fun N hN => ?_); go_big_quiet_step (fail); refine wpQuiet_nil (hN _ ?_); clear hN N)
  refine plan_q0 ?_
  iterate 3 (refine plan_p (o := ⟨_, _, _, _, _, _⟩) rfl (fun N hN => ?_); go_big_quiet_step (fail); refine wpQuiet_nil (hN _ ?_); clear hN N)
  refine plan_p0 ?_
  iterate 1 (refine plan_q (o := ⟨_, _, _, _, _, _⟩) rfl (fun N hN => ?_); go_big_quiet_step (fail); refine wpQuiet_nil (hN _ ?_); clear hN N)
  refine plan_q0 ?_
  iterate 3 (refine plan_p (o := ⟨_, _, _, _, _, _⟩) rfl (fun N hN => ?_); go_big_quiet_step (fail); refine wpQuiet_nil (hN _ ?_); clear hN N)
  refine plan_p0 ?_
  refine plan_e (o := ⟨_, _, _, _, _, _⟩) rfl rfl (fun K hK => ?_)
  (first | (go_step; refine Calls.mono (gUpdSt g _ o ⟨s1, c2, 0⟩ hcs.out _ _ (H.pick (by repeat (first | exact Picks.nil _ | (apply Picks.wr; focus (repeat (first | exact Split.here _ _ | apply Split.there))) | (apply Picks.rd; focus (repeat (first | exact Split.here _ _ | apply Split.there))))))) ?_; rintro e w' ⟨rfl, H'⟩; replace H := H.merge (by first | exact Strikes.nil _ | (repeat (first | exact Strikes.nil _ | (apply Strikes.cons; focus (repeat (first | exact Split.here _ _ | apply Split.there)))))) H' rfl; clear H') | (refine op_box _ _ rfl H (fun b w' H1 => ?_); replace H := H1; clear H1) | (refine op_alloc _ rfl (zero_of _ _ rfl) H (fun b w' H1 => ?_); replace H := H1; clear H1) | (refine op_store _ _ _ rfl rfl rfl H (by repeat (first | exact Split.here _ _ | apply Split.there)) (by kernel_rfl) (by kernel_rfl) (by kernel_rfl) (fun w' H1 => ?_); replace H := H1; clear H1) | (refine op_buildSlice_all _ _ _ rfl (by first | exact elem22 | exact elem39 | exact elem76 | exact elem154) (by kernel_rfl) (by kernel_rfl) (by kernel_rfl) H (fun b w' H1 => ?_); replace H := H1; clear H1)); (try clear hc); (try simp only [nrm, splice, Value.cells, Nat.reduceAdd, Act.eval, Act.put] at H); have hc := H.cells; simp only [CellsOf, KnCells, knc, Nat.reduceAdd] at hc; refine hK _ _ (fun h => (h (by decide)).elim) ?_; clear hK K; (try simp only [Act.put, slt])
  iterate 1 (refine plan_p (o := ⟨_, _, _, _, _, _⟩) rfl (fun N hN => ?_); go_big_quiet_step (fail); refine wpQuiet_nil (hN _ ?_); clear hN N)
  refine plan_p0 ?_
  refine plan_done ?_
  repeat' (first | (go_big_may; (first
    | go_skip
    | ((first
        | (go_at_call 105; refine Calls.mono (gInfo_ok g _ _ rfl _ (H.obj (by repeat (first | exact Split.here _ _ | apply Split.there)))) ?_; rintro e w' ⟨qi, rfl, H'⟩; replace H := H.merge (by first | exact Strikes.nil _ | (repeat (first | exact Strikes.nil _ | (apply Strikes.cons; focus (repeat (first | exact Split.here _ _ | apply Split.there)))))) H' rfl; clear H')
        | (refine loud_ rfl ?_; refine wpList_plain rfl (fun K hK => ?_); (first | (refine op_box _ _ rfl H (fun b w' H1 => hK _ _ ?_)) | (refine op_alloc _ rfl (zero_of _ _ rfl) H (fun b w' H1 => hK _ _ ?_)) | (refine op_store _ _ _ rfl rfl rfl H (by repeat (first | exact Split.here _ _ | apply Split.there)) (by kernel_rfl) (by kernel_rfl) (by kernel_rfl) (fun w' H1 => hK _ _ ?_)) | (refine op_buildSlice_all _ _ _ rfl (by first | exact elem22 | exact elem39 | exact elem76 | exact elem154) (by kernel_rfl) (by kernel_rfl) (by kernel_rfl) H (fun b w' H1 => hK _ _ ?_))); clear hK K; replace H := H1; clear H1)); (try clear hc); (try simp only [nrm, splice, Value.cells, Nat.reduceAdd, Act.eval, Act.put] at H); have hc := H.cells; simp only [CellsOf, KnCells, knc, Nat.reduceAdd] at hc))) | go_values | go_skip | go_guarded | go_step | go_upon | go_back | dsimp only)
  go_end0
  exact ⟨rfl, H.sel (by repeat (first | exact Sel.nil _ | (apply Sel.cons; focus (repeat (first | exact Split.here _ _ | apply Split.there)))))⟩
set_option maxRecDepth 8000 in
theorem updSt_2c (d : VD) (c : Vr) (hcv : Hid (VText d.cl c)) (h3 : ((vstr c).toList == [51, 46, 48, 46, 48]) = false) (hsv : Hid (VOpt d.st none)) (hhd : d.hd = true) (hdn : d.dn = true) (p g : Nat) (o : Vo) (S : List Nat) (w : World) (H : St S w w [(false, .is p (mon g)), (true, .is g (guard d o)), genv]) :
    Calls Tryd.prog 42 #[.pointer (some ⟨p, 0, none⟩)] w fun e w' => e = .returned (.tuple #[]) ∧ St S w w' [(true, .is g (guard d { o with st := vstr ⟨c.a, c.b, 0⟩ }))] := by
  have hmeGetClusterVersion : ∀ (w : World), (method 256 45 (.pointer (some ⟨g, 0, none⟩)) "GetClusterVersion").run Tryd.prog w = .ok (104, .pointer (some ⟨g, 0, none⟩)) w := fun w => by kernel_rfl
  have hnaGetClusterVersion : ∀ (w : World), (nilAhead 256 45 (.pointer (some ⟨g, 0, none⟩)) "GetClusterVersion").run Tryd.prog w = .ok (some false) w := fun w => by kernel_rfl
  have hmeGetStorageVersion : ∀ (w : World), (method 256 45 (.pointer (some ⟨g, 0, none⟩)) "GetStorageVersion").run Tryd.prog w = .ok (107, .pointer (some ⟨g, 0, none⟩)) w := fun w => by kernel_rfl
  have hnaGetStorageVersion : ∀ (w : World), (nilAhead 256 45 (.pointer (some ⟨g, 0, none⟩)) "GetStorageVersion").run Tryd.prog w = .ok (some false) w := fun w => by kernel_rfl
  have hmeGetDowngradeInfo : ∀ (w : World), (method 256 45 (.pointer (some ⟨g, 0, none⟩)) "GetDowngradeInfo").run Tryd.prog w = .ok (105, .pointer (some ⟨g, 0, none⟩)) w := fun w => by kernel_rfl
  have hnaGetDowngradeInfo : ∀ (w : World), (nilAhead 256 45 (.pointer (some ⟨g, 0, none⟩)) "GetDowngradeInfo").run Tryd.prog w = .ok (some false) w := fun w => by kernel_rfl
  have hmeUpdateStorageVersion : ∀ (w : World), (method 256 45 (.pointer (some ⟨g, 0, none⟩)) "UpdateStorageVersion").run Tryd.prog w = .ok (110, .pointer (some ⟨g, 0, none⟩)) w := fun w => by kernel_rfl
  have hnaUpdateStorageVersion : ∀ (w : World), (nilAhead 256 45 (.pointer (some ⟨g, 0, none⟩)) "UpdateStorageVersion").run Tryd.prog w = .ok (some false) w := fun w => by kernel_rfl
  have hcok := Lib.hid hcv.out.1
  obtain ⟨c1, c2, c3⟩ := c
  have hcs : Hid ((⟨c1, c2, 0⟩ : Vr).Ok) := ⟨hcok.out.a, hcok.out.b, (by show (0 : Int) ≤ 0 ∧ (0 : Int) ≤ 9999; omega)⟩
  obtain ⟨cl, st, tg, dn, hd, at', n, cap⟩ := d
  simp only at hhd hdn
  subst hhd hdn
  have hc := H.cells; simp only [CellsOf, KnCells, knc, Nat.reduceAdd] at hc
  go_enter Tryd.func42, Tryd.ntmps42
  repeat' (first | (go_big_may; (first
    | go_skip
    | ((first
        | (go_at_call 104; refine Calls.mono (gGetClusterVersion_ok g _ o _ hcv _ (H.obj (by repeat (first | exact Split.here _ _ | apply Split.there)))) ?_; rintro e w' ⟨qc, rfl, H'⟩; replace H := H.merge (by first | exact Strikes.nil _ | (repeat (first | exact Strikes.nil _ | (apply Strikes.cons; focus (repeat (first | exact Split.here _ _ | apply Split.there)))))) H' rfl; clear H')
        | (go_at_call 48; refine Calls.mono (string_calls _ hcok.out _ (H.rep (R := GEnv) (by repeat (first | exact Split.here _ _ | apply Split.there))).1) ?_; rintro e w' ⟨rfl, H'⟩; replace H := H.of_ext H'; clear H')
        | (go_at_call 107; refine Calls.mono (gGetStorageVersion_no g _ o hsv _ (H.rep (R := GEnv) (by repeat (first | exact Split.here _ _ | apply Split.there))).2 (H.obj (by repeat (first | exact Split.here _ _ | apply Split.there)))) ?_; rintro e w' ⟨rfl, H'⟩; replace H := H.of_ext H'; clear H')
        | (refine loud_ rfl ?_; refine wpList_plain rfl (fun K hK => ?_); (first | (refine op_box _ _ rfl H (fun b w' H1 => hK _ _ ?_)) | (refine op_alloc _ rfl (zero_of _ _ rfl) H (fun b w' H1 => hK _ _ ?_)) | (refine op_store _ _ _ rfl rfl rfl H (by repeat (first | exact Split.here _ _ | apply Split.there)) (by kernel_rfl) (by kernel_rfl) (by kernel_rfl) (fun w' H1 => hK _ _ ?_)) | (refine op_buildSlice_all _ _ _ rfl (by first | exact elem22 | exact elem39 | exact elem76 | exact elem154) (by kernel_rfl) (by kernel_rfl) (by kernel_rfl) H (fun b w' H1 => hK _ _ ?_))); clear hK K; replace H := H1; clear H1)); (try clear hc); (try simp only [nrm, splice, Value.cells, Nat.reduceAdd, Act.eval, Act.put] at H); have hc := H.cells; simp only [CellsOf, KnCells, knc, Nat.reduceAdd] at hc))) | go_values | go_skip | go_guarded | go_step | go_upon | go_back | dsimp only)
  (try simp only [Act.put, slt])
  refine wp_region_plan (.p [0, 1, 2, 3, 4, 5] (.q [6] (.p [7, 8, 9] (.q [10] (.p [11, 12, 13, 14, 15, 16] (.q [17] (.p [18, 19, 20] (.q [21] (.p [22, 23] .done))))))))) [] (by kernel_rfl) (by kernel_rfl) (fun _ _ d _ _ h => by cases d <;> exact h) H ?_
  clear H
  (try clear hc)
  intro X nX fX wd hcf hS H
  simp only [CellsOf, KnCells, knc, Nat.reduceAdd] at hcf
  have hc := H.cells
  simp only [CellsOf, KnCells, knc, Nat.reduceAdd] at hc
  iterate 3 (refine plan_p (o := ⟨_, _, _, _, _, _⟩) rfl (fun N hN => ?_); go_big_quiet_step (fail); refine wpQuiet_nil (hN _ ?_); clear hN N)
  first | (refine plan_p_no (o := ⟨_, _, _, _, _, _⟩) rfl rfl rfl rfl (rfl) ?_; (try simp only [Act.put, slt])) | (iterate 1 (refine plan_p (o := ⟨_, _, _, _, _, _⟩) rfl (fun N hN => ?_); go_big_quiet_step (fail); refine wpQuiet_nil (hN _ ?_); clear hN N))
  first | (refine plan_p_no (o := ⟨_, _, _, _, _, _⟩) rfl rfl rfl rfl (rfl) ?_; (try simp only [Act.put, slt])) | (iterate 1 (refine plan_p (o := ⟨_, _, _, _, _, _⟩) rfl (fun N hN => ?_); go_big_quiet_step (fail); refine wpQuiet_nil (hN _ ?_); clear hN N))
  first | (refine plan_p_no (o := ⟨_, _, _, _, _, _⟩) rfl rfl rfl rfl (rfl) ?_; (try simp only [Act.put, slt])) | (iterate 1 (refine plan_p (o := ⟨_, _, _, _, _, _⟩) rfl (fun N hN => ?_); go_big_quiet_step (fail); refine wpQuiet_nil (hN _ ?_); clear hN N))
  refine plan_p0 ?_
  first | (refine plan_q_no (o := ⟨_, _, _, _, _, _⟩) rfl rfl rfl rfl (rfl) ?_; (try simp only [Act.put, slt])) | (iterate 1 (refine plan_q (o := ⟨_, _, _, _, _, _⟩) rfl (fun N hN => ?_); go_big_quiet_step (fail); refine wpQuiet_nil (hN _ ?_); clear hN N))
  refine plan_q0 ?_
  first | (refine plan_p_no (o := ⟨_, _, _, _, _, _⟩) rfl rfl rfl rfl (rfl) ?_; (try simp only [Act.put, slt])) | (iterate 1 (refine plan_p (o := ⟨_, _, _, _, _, _⟩) rfl (fun N hN => ?_); go_big_quiet_step (fail); refine wpQuiet_nil (hN _ ?_); clear hN N))
  first | (refine plan_p_no (o := ⟨_, _, _, _, _, _⟩) rfl rfl rfl rfl (rfl) ?_; (try simp only [Act.put, slt])) | (iterate 1 (refine plan_p (o := ⟨_, _, _, _, _, _⟩) rfl (fun N hN => ?_); go_big_quiet_step (fail); refine wpQuiet_nil (hN _ ?_); clear hN N))
  first | (refine plan_p_no (o := ⟨_, _, _, _, _, _⟩) rfl rfl rfl rfl (rfl) ?_; (try simp only [Act.put, slt])) | (iterate 1 (refine plan_p (o := ⟨_, _, _, _, _, _⟩) rfl (fun N hN => ?_); go_big_quiet_step (fail); refine wpQuiet_nil (hN _ ?_); clear hN N))
  refine plan_p0 ?_
  first | (refine plan_q_no (o := ⟨_, _, _, _, _, _⟩) rfl rfl rfl rfl (rfl) ?_; (try simp only [Act.put, slt])) | (iterate 1 (refine plan_q (o := ⟨_, _, _, _, _, _⟩) rfl (fun N hN => ?_); go_big_quiet_step (fail); refine wpQuiet_nil (hN _ ?_); clear hN N))
  refine plan_q0 ?_
  first | (refine plan_p_no (o := ⟨_, _, _, _, _, _⟩) rfl rfl rfl rfl (rfl) ?_; (try simp only [Act.put, slt])) | (iterate 1 (refine plan_p (o := ⟨_, _, _, _, _, _⟩) rfl (fun N hN => ?_); go_big_quiet_step (fail); refine wpQuiet_nil (hN _ ?_); clear hN N))
  iterate 2 (refine plan_p (o := ⟨_, _, _, _, _, _⟩) rfl (fun N hN => ?_); go_big_quiet_step (fail); refine wpQuiet_nil (hN _ ?_); clear hN N)
  first | (refine plan_p_no (o := ⟨_, _, _, _, _, _⟩) rfl rfl rfl rfl (rfl) ?_; (try simp only [Act.put, slt])) | (iterate 1 (refine plan_p (o := ⟨_, _, _, _, _, _⟩) rfl (fun N hN => ?_); go_big_quiet_step (fail); refine wpQuiet_nil (hN _ ?_); clear hN N))
  first | (refine plan_p_no (o := ⟨_, _, _, _, _, _⟩) rfl rfl rfl rfl (rfl) ?_; (try simp only [Act.put, slt])) | (iterate 1 (refine plan_p (o := ⟨_, _, _, _, _, _⟩) rfl (fun N hN => ?_); go_big_quiet_step (fail); refine wpQuiet_nil (hN _ ?_); clear hN N))
  first | (refine plan_p_no (o := ⟨_, _, _, _, _, _⟩) rfl rfl rfl rfl (rfl) ?_; (try simp only [Act.put, slt])) | (iterate 1 (refine plan_p (o := ⟨_, _, _, _, _, _⟩) rfl (fun N hN => ?_); go_big_quiet_step (fail); refine wpQuiet_nil (hN _ ?_); clear hN N))
  refine plan_p0 ?_
  first | (refine plan_q_no (o := ⟨_, _, _, _, _, _⟩) rfl rfl rfl rfl (rfl) ?_; (try simp only [Act.put, slt])) | (iterate 1 (refine plan_q (o := ⟨_, _, _, _, _, _⟩) rfl (fun N hN => ?_); go_big_quiet_step (fail); refine wpQuiet_nil (hN _ ?_); clear hN N))
  refine plan_q0 ?_
  first | (refine plan_p_no (o := ⟨_, _, _, _, _, _⟩) rfl rfl rfl rfl (rfl) ?_; (try simp only [Act.put, slt])) | (iterate 1 (refine plan_p (o := ⟨_, _, _, _, _, _⟩) rfl (fun N hN => ?_); go_big_quiet_step (fail); refine wpQuiet_nil (hN _ ?_); clear hN N))
  first | (refine plan_p_no (o := ⟨_, _, _, _, _, _⟩) rfl rfl rfl rfl (rfl) ?_; (try simp only [Act.put, slt])) | (iterate 1 (refine plan_p (o := ⟨_, _, _, _, _, _⟩) rfl (fun N hN => ?_); go_big_quiet_step (fail); refine wpQuiet_nil (hN _ ?_); clear hN N))
  first | (refine plan_p_no (o := ⟨_, _, _, _, _, _⟩) rfl rfl rfl rfl (rfl) ?_; (try simp only [Act.put, slt])) | (iterate 1 (refine plan_p (o := ⟨_, _, _, _, _, _⟩) rfl (fun N hN => ?_); go_big_quiet_step (fail); refine wpQuiet_nil (hN _ ?_); clear hN N))
  refine plan_p0 ?_
  first | (refine plan_q_no (o := ⟨_, _, _, _, _, _⟩) rfl rfl rfl rfl (rfl) ?_; (try simp only [Act.put, slt])) | (iterate 1 (refine plan_q (o := ⟨_, _, _, _, _, _⟩) rfl (fun N hN => ?_); go_big_quiet_step (fail); refine wpQuiet_nil (hN _ ?_); clear hN N))
  refine plan_q0 ?_
  first | (refine plan_p_no (o := ⟨_, _, _, _, _, _⟩) rfl rfl rfl rfl (rfl) ?_; (try simp only [Act.put, slt])) | (iterate 1 (refine plan_p (o := ⟨_, _, _, _, _, _⟩) rfl (fun N hN => ?_); go_big_quiet_step (fail); refine wpQuiet_nil (hN _ ?_); clear hN N))
  iterate 1 (refine plan_p (o := ⟨_, _, _, _, _, _⟩) rfl (fun N hN => ?_); go_big_quiet_step (fail); refine wpQuiet_nil (hN _ ?_); clear hN N)
  refine plan_p0 ?_
  refine plan_done ?_
  repeat' (first | (go_big_may; (first
    | ((first
        | (refine loud_ rfl ?_; refine wpList_plain rfl (fun K hK => ?_); (first | (refine op_box _ _ rfl H (fun b w' H1 => hK _ _ ?_)) | (refine op_alloc _ rfl (zero_of _ _ rfl) H (fun b w' H1 => hK _ _ ?_)) | (refine op_store _ _ _ rfl rfl rfl H (by repeat (first | exact Split.here _ _ | apply Split.there)) (by kernel_rfl) (by kernel_rfl) (by kernel_rfl) (fun w' H1 => hK _ _ ?_)) | (refine op_buildSlice_all _ _ _ rfl (by first | exact elem22 | exact elem39 | exact elem76 | exact elem154) (by kernel_rfl) (by kernel_rfl) (by kernel_rfl) H (fun b w' H1 => hK _ _ ?_))); clear hK K; replace H := H1; clear H1)); (try clear hc); (try simp only [nrm, splice, Value.cells, Nat.reduceAdd, Act.eval, Act.put] at H); have hc := H.cells; simp only [CellsOf, KnCells, knc, Nat.reduceAdd] at hc))) | go_values | go_skip | go_guarded | go_step | go_upon | go_back | dsimp only)
  (try simp only [Act.put, slt])
  refine wp_region_plan (.p [0, 1, 2] (.q [3] (.p [4, 5, 6] (.q [7] (.p [8, 9, 10] (.q [11] (.p [12, 13, 14] (.e 15 (.p [16] .done))))))))) [15] (by kernel_rfl) (by kernel_rfl) (fun _ _ d _ _ h => by cases d <;> exact h) H ?_
  clear H
  (try clear hc)
  intro X nX fX wd hcf hS H
  simp only [CellsOf, KnCells, knc, Nat.reduceAdd] at hcf
  have hc := H.cells
  simp only [CellsOf, KnCells, knc, Nat.reduceAdd] at hc
  iterate 3 (refine plan_p (o := ⟨_, _, _, _, _, _⟩) rfl (fun N hN => ?_); go_big_quiet_step (fail); refine wpQuiet_nil (hN _ ?_); clear hN N)
  refine plan_p0 ?_
  iterate 1 (refine plan_q (o := ⟨_, _, _, _, _, _⟩) rfl (fun N hN => ?_); go_big_quiet_step (fail); refine wpQuiet_nil (hN _ ?_); clear hN N)
  refine plan_q0 ?_
  iterate 3 (refine plan_p (o := ⟨_, _, _, _, _, _⟩) rfl (fun N hN => ?_); go_big_quiet_step (fail); refine wpQuiet_nil (hN _ ?_); clear hN N)
  refine plan_p0 ?_
  iterate 1 (refine plan_q (o := ⟨_, _, _, _, _, _⟩) rfl (fun N hN => ?_); go_big_quiet_step (fail); refine wpQuiet_nil (hN _ ?_); clear hN N)
  refine plan_q0 ?_
  iterate 3 (refine plan_p (o := ⟨_, _, _, _, _, _⟩) rfl (fun N hN => ?_); go_big_quiet_step (fail); refine wpQuiet_nil (hN _ ?_); clear hN N)
  refine plan_p0 ?_
  iterate 1 (refine plan_q (o := ⟨_, _, _, _, _, _⟩) rfl (fun N hN => ?_); go_big_quiet_step (fail); refine wpQuiet_nil (hN _ ?_); clear hN N)
  refine plan_q0 ?_
  iterate 3 (refine plan_p (o := ⟨_, _, _, _, _, _⟩) rfl (fun N hN => ?_); go_big_quiet_step (fail); refine wpQuiet_nil (hN _ ?_); clear hN N)
  refine plan_p0 ?_
  refine plan_e (o := ⟨_, _, _, _, _, _⟩) rfl rfl (fun K hK => ?_)
  (first | (go_step; refine Calls.mono (gUpdSt g _ o ⟨c1, c2, 0⟩ hcs.out _ _ (H.pick (by repeat (first | exact Picks.nil _ | (apply Picks.wr; focus (repeat (first | exact Split.here _ _ | apply Split.there))) | (apply Picks.rd; focus (repeat (first | exact Split.here _ _ | apply Split.there))))))) ?_; rintro e w' ⟨rfl, H'⟩; replace H := H.merge (by first | exact Strikes.nil _ | (repeat (first | exact Strikes.nil _ | (apply Strikes.cons; focus (repeat (first | exact Split.here _ _ | apply Split.there)))))) H' rfl; clear H') | (refine op_box _ _ rfl H (fun b w' H1 => ?_); replace H := H1; clear H1) | (refine op_alloc _ rfl (zero_of _ _ rfl) H (fun b w' H1 => ?_); replace H := H1; clear H1) | (refine op_store _ _ _ rfl rfl rfl H (by repeat (first | exact Split.here _ _ | apply Split.there)) (by kernel_rfl) (by kernel_rfl) (by kernel_rfl) (fun w' H1 => ?_); replace H := H1; clear H1) | (refine op_buildSlice_all _ _ _ rfl (by first | exact elem22 | exact elem39 | exact elem76 | exact elem154) (by kernel_rfl) (by kernel_rfl) (by kernel_rfl) H (fun b w' H1 => ?_); replace H := H1; clear H1)); (try clear hc); (try simp only [nrm, splice, Value.cells, Nat.reduceAdd, Act.eval, Act.put] at H); have hc := H.cells; simp only [CellsOf, KnCells, knc, Nat.reduceAdd] at hc; refine hK _ _ (fun h => (h (by decide)).elim) ?_; clear hK K; (try simp only [Act.put, slt])
  iterate 1 (refine plan_p (o := ⟨_, _, _, _, _, _⟩) rfl (fun N hN => ?_); go_big_quiet_step (fail); refine wpQuiet_nil (hN _ ?_); clear hN N)
  refine plan_p0 ?_
  refine plan_done ?_
  repeat' (first | (go_big_may; (first
    | go_skip
    | ((first
        | (go_at_call 105; refine Calls.mono (gInfo_ok g _ _ rfl _ (H.obj (by repeat (first | exact Split.here _ _ | apply Split.there)))) ?_; rintro e w' ⟨qi, rfl, H'⟩; replace H := H.merge (by first | exact Strikes.nil _ | (repeat (first | exact Strikes.nil _ | (apply Strikes.cons; focus (repeat (first | exact Split.here _ _ | apply Split.there)))))) H' rfl; clear H')
        | (refine loud_ rfl ?_; refine wpList_plain rfl (fun K hK => ?_); (first | (refine op_box _ _ rfl H (fun b w' H1 => hK _ _ ?_)) | (refine op_alloc _ rfl (zero_of _ _ rfl) H (fun b w' H1 => hK _ _ ?_)) | (refine op_store _ _ _ rfl rfl rfl H (by repeat (first | exact Split.here _ _ | apply Split.there)) (by kernel_rfl) (by kernel_rfl) (by kernel_rfl) (fun w' H1 => hK _ _ ?_)) | (refine op_buildSlice_all _ _ _ rfl (by first | exact elem22 | exact elem39 | exact elem76 | exact elem154) (by kernel_rfl) (by kernel_rfl) (by kernel_rfl) H (fun b w' H1 => hK _ _ ?_))); clear hK K; replace H := H1; clear H1)); (try clear hc); (try simp only [nrm, splice, Value.cells, Nat.reduceAdd, Act.eval, Act.put] at H); have hc := H.cells; simp only [CellsOf, KnCells, knc, Nat.reduceAdd] at hc))) | go_values | go_skip | go_guarded | go_step | go_upon | go_back | dsimp only)
  go_end0
  exact ⟨rfl, H.sel (by repeat (first | exact Sel.nil _ | (apply Sel.cons; focus (repeat (first | exact Split.here _ _ | apply Split.there)))))⟩
set_option maxRecDepth 8000 in
theorem updSt_3c (d : VD) (c : Vr) (hcv : Hid (VText d.cl c)) (h3 : ((vstr c).toList == [51, 46, 48, 46, 48]) = false) (s : Vr) (hsv : Hid (VText d.st s)) (ha : s.a ≠ c.a) (hhd : d.hd = true) (hdn : d.dn = true) (p g : Nat) (o : Vo) (S : List Nat) (w : World) (H : St S w w [(false, .is p (mon g)), (true, .is g (guard d o)), genv]) :
    Calls Tryd.prog 42 #[.pointer (some ⟨p, 0, none⟩)] w fun e w' => e = .returned (.tuple #[]) ∧ St S w w' [(true, .is g (guard d { o with st := vstr ⟨c.a, c.b, 0⟩ }))] := by
  have hmeGetClusterVersion : ∀ (w : World), (method 256 45 (.pointer (some ⟨g, 0, none⟩)) "GetClusterVersion").run Tryd.prog w = .ok (104, .pointer (some ⟨g, 0, none⟩)) w := fun w => by kernel_rfl
  have hnaGetClusterVersion : ∀ (w : World), (nilAhead 256 45 (.pointer (some ⟨g, 0, none⟩)) "GetClusterVersion").run Tryd.prog w = .ok (some false) w := fun w => by kernel_rfl
  have hmeGetStorageVersion : ∀ (w : World), (method 256 45 (.pointer (some ⟨g, 0, none⟩)) "GetStorageVersion").run Tryd.prog w = .ok (107, .pointer (some ⟨g, 0, none⟩)) w := fun w => by kernel_rfl
  have hnaGetStorageVersion : ∀ (w : World), (nilAhead 256 45 (.pointer (some ⟨g, 0, none⟩)) "GetStorageVersion").run Tryd.prog w = .ok (some false) w := fun w => by kernel_rfl
  have hmeGetDowngradeInfo : ∀ (w : World), (method 256 45 (.pointer (some ⟨g, 0, none⟩)) "GetDowngradeInfo").run Tryd.prog w = .ok (105, .pointer (some ⟨g, 0, none⟩)) w := fun w => by kernel_rfl
  have hnaGetDowngradeInfo : ∀ (w : World), (nilAhead 256 45 (.pointer (some ⟨g, 0, none⟩)) "GetDowngradeInfo").run Tryd.prog w = .ok (some false) w := fun w => by kernel_rfl
  have hmeUpdateStorageVersion : ∀ (w : World), (method 256 45 (.pointer (some ⟨g, 0, none⟩)) "UpdateStorageVersion").run Tryd.prog w = .ok (110, .pointer (some ⟨g, 0, none⟩)) w := fun w => by kernel_rfl
  have hnaUpdateStorageVersion : ∀ (w : World), (nilAhead 256 45 (.pointer (some ⟨g, 0, none⟩)) "UpdateStorageVersion").run Tryd.prog w = .ok (some false) w := fun w => by kernel_rfl
  have hcok := Lib.hid hcv.out.1
  obtain ⟨c1, c2, c3⟩ := c
  obtain ⟨s1, s2, s3⟩ := s
  have ha2 : ¬ s1 = c1 := ha
  have hx4 : Hid (¬ s1 = c1) := ha
  have hx1 : Hid ((s1 != c1) = !false) := (by simp [ha2] : (s1 != c1) = !false)
  clear ha ha2
  have hcs : Hid ((⟨c1, c2, 0⟩ : Vr).Ok) := ⟨hcok.out.a, hcok.out.b, (by show (0 : Int) ≤ 0 ∧ (0 : Int) ≤ 9999; omega)⟩
  obtain ⟨cl, st, tg, dn, hd, at', n, cap⟩ := d
  simp only at hhd hdn
  subst hhd hdn
  have hc := H.cells; simp only [CellsOf, KnCells, knc, Nat.reduceAdd] at hc
  go_enter Tryd.func42, Tryd.ntmps42
  repeat' (first | (go_big_may; (first
    | go_skip
    | ((first
        | (go_at_call 104; refine Calls.mono (gGetClusterVersion_ok g _ o _ hcv _ (H.obj (by repeat (first | exact Split.here _ _ | apply Split.there)))) ?_; rintro e w' ⟨qc, rfl, H'⟩; replace H := H.merge (by first | exact Strikes.nil _ | (repeat (first | exact Strikes.nil _ | (apply Strikes.cons; focus (repeat (first | exact Split.here _ _ | apply Split.there)))))) H' rfl; clear H')
        | (go_at_call 48; refine Calls.mono (string_calls _ hcok.out _ (H.rep (R := GEnv) (by repeat (first | exact Split.here _ _ | apply Split.there))).1) ?_; rintro e w' ⟨rfl, H'⟩; replace H := H.of_ext H'; clear H')
        | (go_at_call 107; refine Calls.mono (gGetStorageVersion_ok g _ o _ hsv _ (H.obj (by repeat (first | exact Split.here _ _ | apply Split.there)))) ?_; rintro e w' ⟨qs, rfl, H'⟩; replace H := H.merge (by first | exact Strikes.nil _ | (repeat (first | exact Strikes.nil _ | (apply Strikes.cons; focus (repeat (first | exact Split.here _ _ | apply Split.there)))))) H' rfl; clear H')
        | (refine loud_ rfl ?_; refine wpList_plain rfl (fun K hK => ?_); (first | (refine op_box _ _ rfl H (fun b w' H1 => hK _ _ ?_)) | (refine op_alloc _ rfl (zero_of _ _ rfl) H (fun b w' H1 => hK _ _ ?_)) | (refine op_store _ _ _ rfl rfl rfl H (by repeat (first | exact Split.here _ _ | apply Split.there)) (by kernel_rfl) (by kernel_rfl) (by kernel_rfl) (fun w' H1 => hK _ _ ?_)) | (refine op_buildSlice_all _ _ _ rfl (by first | exact elem22 | exact elem39 | exact elem76 | exact elem154) (by kernel_rfl) (by kernel_rfl) (by kernel_rfl) H (fun b w' H1 => hK _ _ ?_))); clear hK K; replace H := H1; clear H1)); (try clear hc); (try simp only [nrm, splice, Value.cells, Nat.reduceAdd, Act.eval, Act.put] at H); have hc := H.cells; simp only [CellsOf, KnCells, knc, Nat.reduceAdd] at hc))) | go_values | go_skip | go_guarded | go_step | go_upon | go_back | dsimp only)
  (try simp only [Act.put, slt])
  refine wp_region_plan (.p [0, 1, 2, 3, 4, 5] (.q [6] (.p [7, 8, 9] (.q [10] (.p [11, 12, 13, 14, 15, 16] (.q [17] (.p [18, 19, 20] (.q [21] (.p [22, 23] .done))))))))) [] (by kernel_rfl) (by kernel_rfl) (fun _ _ d _ _ h => by cases d <;> exact h) H ?_
  clear H
  (try clear hc)
  intro X nX fX wd hcf hS H
  simp only [CellsOf, KnCells, knc, Nat.reduceAdd] at hcf
  have hc := H.cells
  simp only [CellsOf, KnCells, knc, Nat.reduceAdd] at hc
  iterate 3 (refine plan_p (o := ⟨_, _, _, _, _, _⟩) rfl (fun N hN => ?_); go_big_quiet_step (fail); refine wpQuiet_nil (hN _ ?_); clear hN N)
  first | (refine plan_p_no (o := ⟨_, _, _, _, _, _⟩) rfl rfl rfl rfl (by first | rfl | exact hx1.out) ?_; (try simp only [Act.put, slt])) | (iterate 1 (refine plan_p (o := ⟨_, _, _, _, _, _⟩) rfl (fun N hN => ?_); go_big_quiet_step (fail); refine wpQuiet_nil (hN _ ?_); clear hN N))
  first | (refine plan_p_no (o := ⟨_, _, _, _, _, _⟩) rfl rfl rfl rfl (by first | rfl | exact hx1.out) ?_; (try simp only [Act.put, slt])) | (iterate 1 (refine plan_p (o := ⟨_, _, _, _, _, _⟩) rfl (fun N hN => ?_); go_big_quiet_step (fail); refine wpQuiet_nil (hN _ ?_); clear hN N))
  first | (refine plan_p_no (o := ⟨_, _, _, _, _, _⟩) rfl rfl rfl rfl (by first | rfl | exact hx1.out) ?_; (try simp only [Act.put, slt])) | (iterate 1 (refine plan_p (o := ⟨_, _, _, _, _, _⟩) rfl (fun N hN => ?_); go_big_quiet_step (fail); refine wpQuiet_nil (hN _ ?_); clear hN N))
  refine plan_p0 ?_
  first | (refine plan_q_no (o := ⟨_, _, _, _, _, _⟩) rfl rfl rfl rfl (by first | rfl | exact hx1.out) ?_; (try simp only [Act.put, slt])) | (iterate 1 (refine plan_q (o := ⟨_, _, _, _, _, _⟩) rfl (fun N hN => ?_); go_big_quiet_step (fail); refine wpQuiet_nil (hN _ ?_); clear hN N))
  refine plan_q0 ?_
  first | (refine plan_p_no (o := ⟨_, _, _, _, _, _⟩) rfl rfl rfl rfl (by first | rfl | exact hx1.out) ?_; (try simp only [Act.put, slt])) | (iterate 1 (refine plan_p (o := ⟨_, _, _, _, _, _⟩) rfl (fun N hN => ?_); go_big_quiet_step (fail); refine wpQuiet_nil (hN _ ?_); clear hN N))
  first | (refine plan_p_no (o := ⟨_, _, _, _, _, _⟩) rfl rfl rfl rfl (by first | rfl | exact hx1.out) ?_; (try simp only [Act.put, slt])) | (iterate 1 (refine plan_p (o := ⟨_, _, _, _, _, _⟩) rfl (fun N hN => ?_); go_big_quiet_step (fail); refine wpQuiet_nil (hN _ ?_); clear hN N))
  first | (refine plan_p_no (o := ⟨_, _, _, _, _, _⟩) rfl rfl rfl rfl (by first | rfl | exact hx1.out) ?_; (try simp only [Act.put, slt])) | (iterate 1 (refine plan_p (o := ⟨_, _, _, _, _, _⟩) rfl (fun N hN => ?_); go_big_quiet_step (fail); refine wpQuiet_nil (hN _ ?_); clear hN N))
  refine plan_p0 ?_
  first | (refine plan_q_no (o := ⟨_, _, _, _, _, _⟩) rfl rfl rfl rfl (by first | rfl | exact hx1.out) ?_; (try simp only [Act.put, slt])) | (iterate 1 (refine plan_q (o := ⟨_, _, _, _, _, _⟩) rfl (fun N hN => ?_); go_big_quiet_step (fail); refine wpQuiet_nil (hN _ ?_); clear hN N))
  refine plan_q0 ?_
  first | (refine plan_p_no (o := ⟨_, _, _, _, _, _⟩) rfl rfl rfl rfl (by first | rfl | exact hx1.out) ?_; (try simp only [Act.put, slt])) | (iterate 1 (refine plan_p (o := ⟨_, _, _, _, _, _⟩) rfl (fun N hN => ?_); go_big_quiet_step (fail); refine wpQuiet_nil (hN _ ?_); clear hN N))
  iterate 2 (refine plan_p (o := ⟨_, _, _, _, _, _⟩) rfl (fun N hN => ?_); go_big_quiet_step (fail); refine wpQuiet_nil (hN _ ?_); clear hN N)
  first | (refine plan_p_no (o := ⟨_, _, _, _, _, _⟩) rfl rfl rfl rfl (by first | rfl | exact hx1.out) ?_; (try simp only [Act.put, slt])) | (iterate 1 (refine plan_p (o := ⟨_, _, _, _, _, _⟩) rfl (fun N hN => ?_); go_big_quiet_step (fail); refine wpQuiet_nil (hN _ ?_); clear hN N))
  first | (refine plan_p_no (o := ⟨_, _, _, _, _, _⟩) rfl rfl rfl rfl (by first | rfl | exact hx1.out) ?_; (try simp only [Act.put, slt])) | (iterate 1 (refine plan_p (o := ⟨_, _, _, _, _, _⟩) rfl (fun N hN => ?_); go_big_quiet_step (fail); refine wpQuiet_nil (hN _ ?_); clear hN N))
  first | (refine plan_p_no (o := ⟨_, _, _, _, _, _⟩) rfl rfl rfl rfl (by first | rfl | exact hx1.out) ?_; (try simp only [Act.put, slt])) | (iterate 1 (refine plan_p (o := ⟨_, _, _, _, _, _⟩) rfl (fun N hN => ?_); go_big_quiet_step (fail); refine wpQuiet_nil (hN _ ?_); clear hN N))
  refine plan_p0 ?_
  first | (refine plan_q_no (o := ⟨_, _, _, _, _, _⟩) rfl rfl rfl rfl (by first | rfl | exact hx1.out) ?_; (try simp only [Act.put, slt])) | (iterate 1 (refine plan_q (o := ⟨_, _, _, _, _, _⟩) rfl (fun N hN => ?_); go_big_quiet_step (fail); refine wpQuiet_nil (hN _ ?_); clear hN N))
  refine plan_q0 ?_
  first | (refine plan_p_no (o := ⟨_, _, _, _, _, _⟩) rfl rfl rfl rfl (by first | rfl | exact hx1.out) ?_; (try simp only [Act.put, slt])) | (iterate 1 (refine plan_p (o := ⟨_, _, _, _, _, _⟩) rfl (fun N hN => ?_); go_big_quiet_step (fail); refine wpQuiet_nil (hN _ ?_); clear hN N))
  first | (refine plan_p_no (o := ⟨_, _, _, _, _, _⟩) rfl rfl rfl rfl (by first | rfl | exact hx1.out) ?_; (try simp only [Act.put, slt])) | (iterate 1 (refine plan_p (o := ⟨_, _, _, _, _, _⟩) rfl (fun N hN => ?_); go_big_quiet_step (fail); refine wpQuiet_nil (hN _ ?_); clear hN N))
  first | (refine plan_p_no (o := ⟨_, _, _, _, _, _⟩) rfl rfl rfl rfl (by first | rfl | exact hx1.out) ?_; (try simp only [Act.put, slt])) | (iterate 1 (refine plan_p (o := ⟨_, _, _, _, _, _⟩) rfl (fun N hN => ?_); go_big_quiet_step (fail); refine wpQuiet_nil (hN _ ?_); clear hN N))
  refine plan_p0 ?_
  first | (refine plan_q_no (o := ⟨_, _, _, _, _, _⟩) rfl rfl rfl rfl (by first | rfl | exact hx1.out) ?_; (try simp only [Act.put, slt])) | (iterate 1 (refine plan_q (o := ⟨_, _, _, _, _, _⟩) rfl (fun N hN => ?_); go_big_quiet_step (fail); refine wpQuiet_nil (hN _ ?_); clear hN N))
  refine plan_q0 ?_
  first | (refine plan_p_no (o := ⟨_, _, _, _, _, _⟩) rfl rfl rfl rfl (by first | rfl | exact hx1.out) ?_; (try simp only [Act.put, slt])) | (iterate 1 (refine plan_p (o := ⟨_, _, _, _, _, _⟩) rfl (fun N hN => ?_); go_big_quiet_step (fail); refine wpQuiet_nil (hN _ ?_); clear hN N))
  iterate 1 (refine plan_p (o := ⟨_, _, _, _, _, _⟩) rfl (fun N hN => ?_); go_big_quiet_step (fail); refine wpQuiet_nil (hN _ ?_); clear hN N)
  refine plan_p0 ?_
  refine plan_done ?_
  simp only [if_neg hx4.out]
  repeat' (first | (go_big_may; (first
    | ((first
        | (refine loud_ rfl ?_; refine wpList_plain rfl (fun K hK => ?_); (first | (refine op_box _ _ rfl H (fun b w' H1 => hK _ _ ?_)) | (refine op_alloc _ rfl (zero_of _ _ rfl) H (fun b w' H1 => hK _ _ ?_)) | (refine op_store _ _ _ rfl rfl rfl H (by repeat (first | exact Split.here _ _ | apply Split.there)) (by kernel_rfl) (by kernel_rfl) (by kernel_rfl) (fun w' H1 => hK _ _ ?_)) | (refine op_buildSlice_all _ _ _ rfl (by first | exact elem22 | exact elem39 | exact elem76 | exact elem154) (by kernel_rfl) (by kernel_rfl) (by kernel_rfl) H (fun b w' H1 => hK _ _ ?_))); clear hK K; replace H := H1; clear H1)); (try clear hc); (try simp only [nrm, splice, Value.cells, Nat.reduceAdd, Act.eval, Act.put] at H); have hc := H.cells; simp only [CellsOf, KnCells, knc, Nat.reduceAdd] at hc))) | go_values | go_skip | go_guarded | go_step | go_upon | go_back | dsimp only)
  (try simp only [Act.put, slt])
  refine wp_region_plan (.p [0, 1, 2] (.q [3] (.p [4, 5, 6] (.q [7] (.p [8, 9, 10] (.q [11] (.p [12, 13, 14] (.e 15 (.p [16] .done))))))))) [15] (by kernel_rfl) (by kernel_rfl) (fun _ _ d _ _ h => by cases d <;> exact h) H ?_
  clear H
  (try clear hc)
  intro X nX fX wd hcf hS H
  simp only [CellsOf, KnCells, knc, Nat.reduceAdd] at hcf
  have hc := H.cells
  simp only [CellsOf, KnCells, knc, Nat.reduceAdd] at hc
  iterate 3 (refine plan_p (o := ⟨_, _, _, _, _, _⟩) rfl (fun N hN => ?_); go_big_quiet_step (fail); refine wpQuiet_nil (hN _ ?_); clear hN N)
  refine plan_p0 ?_
  iterate 1 (refine plan_q (o := ⟨_, _, _, _, _, _⟩) rfl (fun N hN => ?_); go_big_quiet_step (fail); refine wpQuiet_nil (hN _ ?_); clear hN N)
  refine plan_q0 ?_
  iterate 3 (refine plan_p (o := ⟨_, _, _, _, _, _⟩) rfl (fun N hN => ?_); go_big_quiet_step (fail); refine wpQuiet_nil (hN _ ?_); clear hN N)
  refine plan_p0 ?_
  iterate 1 (refine plan_q (o := ⟨_, _, _, _, _, _⟩) rfl (fun N hN => ?_); go_big_quiet_step (fail); refine wpQuiet_nil (hN _ ?_); clear hN N)
  refine plan_q0 ?_
  iterate 3 (refine plan_p (o := ⟨_, _, _, _, _, _⟩) rfl (fun N hN => ?_); go_big_quiet_step (fail); refine wpQuiet_nil (hN _ ?_); clear hN N)
  refine plan_p0 ?_
  iterate 1 (refine plan_q (o := ⟨_, _, _, _, _, _⟩) rfl (fun N hN => ?_); go_big_quiet_step (fail); refine wpQuiet_nil (hN _ ?_); clear hN N)
  refine plan_q0 ?_
  iterate 3 (refine plan_p (o := ⟨_, _, _, _, _, _⟩) rfl (fun N hN => ?_); go_big_quiet_step (fail); refine wpQuiet_nil (hN _ ?_); clear hN N)
  refine plan_p0 ?_
  refine plan_e (o := ⟨_, _, _, _, _, _⟩) rfl rfl (fun K hK => ?_)
  (first | (go_step; refine Calls.mono (gUpdSt g _ o ⟨c1, c2, 0⟩ hcs.out _ _ (H.pick (by repeat (first | exact Picks.nil _ | (apply Picks.wr; focus (repeat (first | exact Split.here _ _ | apply Split.there))) | (apply Picks.rd; focus (repeat (first | exact Split.here _ _ | apply Split.there))))))) ?_; rintro e w' ⟨rfl, H'⟩; replace H := H.merge (by first | exact Strikes.nil _ | (repeat (first | exact Strikes.nil _ | (apply Strikes.cons; focus (repeat (first | exact Split.here _ _ | apply Split.there)))))) H' rfl; clear H') | (refine op_box _ _ rfl H (fun b w' H1 => ?_); replace H := H1; clear H1) | (refine op_alloc _ rfl (zero_of _ _ rfl) H (fun b w' H1 => ?_); replace H := H1; clear H1) | (refine op_store _ _ _ rfl rfl rfl H (by repeat (first | exact Split.here _ _ | apply Split.there)) (by kernel_rfl) (by kernel_rfl) (by kernel_rfl) (fun w' H1 => ?_); replace H := H1; clear H1) | (refine op_buildSlice_all _ _ _ rfl (by first | exact elem22 | exact elem39 | exact elem76 | exact elem154) (by kernel_rfl) (by kernel_rfl) (by kernel_rfl) H (fun b w' H1 => ?_); replace H := H1; clear H1)); (try clear hc); (try simp only [nrm, splice, Value.cells, Nat.reduceAdd, Act.eval, Act.put] at H); have hc := H.cells; simp only [CellsOf, KnCells, knc, Nat.reduceAdd] at hc; refine hK _ _ (fun h => (h (by decide)).elim) ?_; clear hK K; (try simp only [Act.put, slt])
  iterate 1 (refine plan_p (o := ⟨_, _, _, _, _, _⟩) rfl (fun N hN => ?_); go_big_quiet_step (fail); refine wpQuiet_nil (hN _ ?_); clear hN N)
  refine plan_p0 ?_
  refine plan_done ?_
  repeat' (first | (go_big_may; (first
    | go_skip
    | ((first
        | (go_at_call 105; refine Calls.mono (gInfo_ok g _ _ rfl _ (H.obj (by repeat (first | exact Split.here _ _ | apply Split.there)))) ?_; rintro e w' ⟨qi, rfl, H'⟩; replace H := H.merge (by first | exact Strikes.nil _ | (repeat (first | exact Strikes.nil _ | (apply Strikes.cons; focus (repeat (first | exact Split.here _ _ | apply Split.there)))))) H' rfl; clear H')
        | (refine loud_ rfl ?_; refine wpList_plain rfl (fun K hK => ?_); (first | (refine op_box _ _ rfl H (fun b w' H1 => hK _ _ ?_)) | (refine op_alloc _ rfl (zero_of _ _ rfl) H (fun b w' H1 => hK _ _ ?_)) | (refine op_store _ _ _ rfl rfl rfl H (by repeat (first | exact Split.here _ _ | apply Split.there)) (by kernel_rfl) (by kernel_rfl) (by kernel_rfl) (fun w' H1 => hK _ _ ?_)) | (refine op_buildSlice_all _ _ _ rfl (by first | exact elem22 | exact elem39 | exact elem76 | exact elem154) (by kernel_rfl) (by kernel_rfl) (by kernel_rfl) H (fun b w' H1 => hK _ _ ?_))); clear hK K; replace H := H1; clear H1)); (try clear hc); (try simp only [nrm, splice, Value.cells, Nat.reduceAdd, Act.eval, Act.put] at H); have hc := H.cells; simp only [CellsOf, KnCells, knc, Nat.reduceAdd] at hc))) | go_values | go_skip | go_guarded | go_step | go_upon | go_back | dsimp only)
  go_end0
  exact ⟨rfl, H.sel (by repeat (first | exact Sel.nil _ | (apply Sel.cons; focus (repeat (first | exact Split.here _ _ | apply Split.there)))))⟩
set_option maxRecDepth 8000 in
theorem updSt_4c (d : VD) (c : Vr) (hcv : Hid (VText d.cl c)) (h3 : ((vstr c).toList == [51, 46, 48, 46, 48]) = false) (s : Vr) (hsv : Hid (VText d.st s)) (ha : s.a = c.a) (hb : s.b ≠ c.b) (hhd : d.hd = true) (hdn : d.dn = true) (p g : Nat) (o : Vo) (S : List Nat) (w : World) (H : St S w w [(false, .is p (mon g)), (true, .is g (guard d o)), genv]) :
    Calls Tryd.prog 42 #[.pointer (some ⟨p, 0, none⟩)] w fun e w' => e = .returned (.tuple #[]) ∧ St S w w' [(true, .is g (guard d { o with st := vstr ⟨c.a, c.b, 0⟩ }))] := by
  have hmeGetClusterVersion : ∀ (w : World), (method 256 45 (.pointer (some ⟨g, 0, none⟩)) "GetClusterVersion").run Tryd.prog w = .ok (104, .pointer (some ⟨g, 0, none⟩)) w := fun w => by kernel_rfl
  have hnaGetClusterVersion : ∀ (w : World), (nilAhead 256 45 (.pointer (some ⟨g, 0, none⟩)) "GetClusterVersion").run Tryd.prog w = .ok (some false) w := fun w => by kernel_rfl
  have hmeGetStorageVersion : ∀ (w : World), (method 256 45 (.pointer (some ⟨g, 0, none⟩)) "GetStorageVersion").run Tryd.prog w = .ok (107, .pointer (some ⟨g, 0, none⟩)) w := fun w => by kernel_rfl
  have hnaGetStorageVersion : ∀ (w : World), (nilAhead 256 45 (.pointer (some ⟨g, 0, none⟩)) "GetStorageVersion").run Tryd.prog w = .ok (some false) w := fun w => by kernel_rfl
  have hmeGetDowngradeInfo : ∀ (w : World), (method 256 45 (.pointer (some ⟨g, 0, none⟩)) "GetDowngradeInfo").run Tryd.prog w = .ok (105, .pointer (some ⟨g, 0, none⟩)) w := fun w => by kernel_rfl
  have hnaGetDowngradeInfo : ∀ (w : World), (nilAhead 256 45 (.pointer (some ⟨g, 0, none⟩)) "GetDowngradeInfo").run Tryd.prog w = .ok (some false) w := fun w => by kernel_rfl
  have hmeUpdateStorageVersion : ∀ (w : World), (method 256 45 (.pointer (some ⟨g, 0, none⟩)) "UpdateStorageVersion").run Tryd.prog w = .ok (110, .pointer (some ⟨g, 0, none⟩)) w := fun w => by kernel_rfl
  have hnaUpdateStorageVersion : ∀ (w : World), (nilAhead 256 45 (.pointer (some ⟨g, 0, none⟩)) "UpdateStorageVersion").run Tryd.prog w = .ok (some false) w := fun w => by kernel_rfl
  have hcok := Lib.hid hcv.out.1
  obtain ⟨c1, c2, c3⟩ := c
  obtain ⟨s1, s2, s3⟩ := s
  simp only at ha
  subst ha
  have ha2 : ¬ s2 = c2 := hb
  have hx1 : Hid ((s2 != c2) = true) := (by simp [ha2] : (s2 != c2) = true)
  clear hb ha2
  have hcs : Hid ((⟨s1, c2, 0⟩ : Vr).Ok) := ⟨hcok.out.a, hcok.out.b, (by show (0 : Int) ≤ 0 ∧ (0 : Int) ≤ 9999; omega)⟩
  obtain ⟨cl, st, tg, dn, hd, at', n, cap⟩ := d
  simp only at hhd hdn
  subst hhd hdn
  have hc := H.cells; simp only [CellsOf, KnCells, knc, Nat.reduceAdd] at hc
  go_enter Tryd.func42, Tryd.ntmps42
  repeat' (first | (go_big_may; (first
    | go_skip
    | ((first
        | (go_at_call 104; refine Calls.mono (gGetClusterVersion_ok g _ o _ hcv _ (H.obj (by repeat (first | exact Split.here _ _ | apply Split.there)))) ?_; rintro e w' ⟨qc, rfl, H'⟩; replace H := H.merge (by first | exact Strikes.nil _ | (repeat (first | exact Strikes.nil _ | (apply Strikes.cons; focus (repeat (first | exact Split.here _ _ | apply Split.there)))))) H' rfl; clear H')
        | (go_at_call 48; refine Calls.mono (string_calls _ hcok.out _ (H.rep (R := GEnv) (by repeat (first | exact Split.here _ _ | apply Split.there))).1) ?_; rintro e w' ⟨rfl, H'⟩; replace H := H.of_ext H'; clear H')
        | (go_at_call 107; refine Calls.mono (gGetStorageVersion_ok g _ o _ hsv _ (H.obj (by repeat (first | exact Split.here _ _ | apply Split.there)))) ?_; rintro e w' ⟨qs, rfl, H'⟩; replace H := H.merge (by first | exact Strikes.nil _ | (repeat (first | exact Strikes.nil _ | (apply Strikes.cons; focus (repeat (first | exact Split.here _ _ | apply Split.there)))))) H' rfl; clear H')
        | (refine loud_ rfl ?_; refine wpList_plain rfl (fun K hK => ?_); (first | (refine op_box _ _ rfl H (fun b w' H1 => hK _ _ ?_)) | (refine op_alloc _ rfl (zero_of _ _ rfl) H (fun b w' H1 => hK _ _ ?_)) | (refine op_store _ _ _ rfl rfl rfl H (by repeat (first | exact Split.here _ _ | apply Split.there)) (by kernel_rfl) (by kernel_rfl) (by kernel_rfl) (fun w' H1 => hK _ _ ?_)) | (refine op_buildSlice_all _ _ _ rfl (by first | exact elem22 | exact elem39 | exact elem76 | exact elem154) (by kernel_rfl) (by kernel_rfl) (by kernel_rfl) H (fun b w' H1 => hK _ _ ?_))); clear hK K; replace H := H1; clear H1)); (try clear hc); (try simp only [nrm, splice, Value.cells, Nat.reduceAdd, Act.eval, Act.put] at H); have hc := H.cells; simp only [CellsOf, KnCells, knc, Nat.reduceAdd] at hc))) | go_values | go_skip | go_guarded | go_step | go_upon | go_back | dsimp only)
  (try simp only [Act.put, slt])
  refine wp_region_plan (.p [0, 1, 2, 3, 4, 5] (.q [6] (.p [7, 8, 9] (.q [10] (.p [11, 12, 13, 14, 15, 16] (.q [17] (.p [18, 19, 20] (.q [21] (.p [22, 23] .done))))))))) [] (by kernel_rfl) (by kernel_rfl) (fun _ _ d _ _ h => by cases d <;> exact h) H ?_
  clear H
  (try clear hc)
  intro X nX fX wd hcf hS H
  simp only [CellsOf, KnCells, knc, Nat.reduceAdd] at hcf
  have hc := H.cells
  simp only [CellsOf, KnCells, knc, Nat.reduceAdd] at hc
  iterate 3 (refine plan_p (o := ⟨_, _, _, _, _, _⟩) rfl (fun N hN => ?_); go_big_quiet_step (fail); refine wpQuiet_nil (hN _ ?_); clear hN N)
  first | (refine plan_p_no (o := ⟨_, _, _, _, _, _⟩) rfl rfl rfl rfl (by first | rfl | exact hx1.out) ?_; (try simp only [Act.put, slt])) | (iterate 1 (refine plan_p (o := ⟨_, _, _, _, _, _⟩) rfl (fun N hN => ?_); go_big_quiet_step (fail); refine wpQuiet_nil (hN _ ?_); clear hN N))
  first | (refine plan_p_no (o := ⟨_, _, _, _, _, _⟩) rfl rfl rfl rfl (by first | rfl | exact hx1.out) ?_; (try simp only [Act.put, slt])) | (iterate 1 (refine plan_p (o := ⟨_, _, _, _, _, _⟩) rfl (fun N hN => ?_); go_big_quiet_step (fail); refine wpQuiet_nil (hN _ ?_); clear hN N))
  first | (refine plan_p_no (o := ⟨_, _, _, _, _, _⟩) rfl rfl rfl rfl (by first | rfl | exact hx1.out) ?_; (try simp only [Act.put, slt])) | (iterate 1 (refine plan_p (o := ⟨_, _, _, _, _, _⟩) rfl (fun N hN => ?_); go_big_quiet_step (fail); refine wpQuiet_nil (hN _ ?_); clear hN N))
  refine plan_p0 ?_
  first | (refine plan_q_no (o := ⟨_, _, _, _, _, _⟩) rfl rfl rfl rfl (by first | rfl | exact hx1.out) ?_; (try simp only [Act.put, slt])) | (iterate 1 (refine plan_q (o := ⟨_, _, _, _, _, _⟩) rfl (fun N hN => ?_); go_big_quiet_step (fail); refine wpQuiet_nil (hN _ ?_); clear hN N))
  refine plan_q0 ?_
  first | (refine plan_p_no (o := ⟨_, _, _, _, _, _⟩) rfl rfl rfl rfl (by first | rfl | exact hx1.out) ?_; (try simp only [Act.put, slt])) | (iterate 1 (refine plan_p (o := ⟨_, _, _, _, _, _⟩) rfl (fun N hN => ?_); go_big_quiet_step (fail); refine wpQuiet_nil (hN _ ?_); clear hN N))
  first | (refine plan_p_no (o := ⟨_, _, _, _, _, _⟩) rfl rfl rfl rfl (by first | rfl | exact hx1.out) ?_; (try simp only [Act.put, slt])) | (iterate 1 (refine plan_p (o := ⟨_, _, _, _, _, _⟩) rfl (fun N hN => ?_); go_big_quiet_step (fail); refine wpQuiet_nil (hN _ ?_); clear hN N))
  first | (refine plan_p_no (o := ⟨_, _, _, _, _, _⟩) rfl rfl rfl rfl (by first | rfl | exact hx1.out) ?_; (try simp only [Act.put, slt])) | (iterate 1 (refine plan_p (o := ⟨_, _, _, _, _, _⟩) rfl (fun N hN => ?_); go_big_quiet_step (fail); refine wpQuiet_nil (hN _ ?_); clear hN N))
  refine plan_p0 ?_
  first | (refine plan_q_no (o := ⟨_, _, _, _, _, _⟩) rfl rfl rfl rfl (by first | rfl | exact hx1.out) ?_; (try simp only [Act.put, slt])) | (iterate 1 (refine plan_q (o := ⟨_, _, _, _, _, _⟩) rfl (fun N hN => ?_); go_big_quiet_step (fail); refine wpQuiet_nil (hN _ ?_); clear hN N))
  refine plan_q0 ?_
  first | (refine plan_p_no (o := ⟨_, _, _, _, _, _⟩) rfl rfl rfl rfl (by first | rfl | exact hx1.out) ?_; (try simp only [Act.put, slt])) | (iterate 1 (refine plan_p (o := ⟨_, _, _, _, _, _⟩) rfl (fun N hN => ?_); go_big_quiet_step (fail); refine wpQuiet_nil (hN _ ?_); clear hN N))
  iterate 2 (refine plan_p (o := ⟨_, _, _, _, _, _⟩) rfl (fun N hN => ?_); go_big_quiet_step (fail); refine wpQuiet_nil (hN _ ?_); clear hN N)
  first | (refine plan_p_no (o := ⟨_, _, _, _, _, _⟩) rfl rfl rfl rfl (by first | rfl | exact hx1.out) ?_; (try simp only [Act.put, slt])) | (iterate 1 (refine plan_p (o := ⟨_, _, _, _, _, _⟩) rfl (fun N hN => ?_); go_big_quiet_step (fail); refine wpQuiet_nil (hN _ ?_); clear hN N))
  first | (refine plan_p_no (o := ⟨_, _, _, _, _, _⟩) rfl rfl rfl rfl (by first | rfl | exact hx1.out) ?_; (try simp only [Act.put, slt])) | (iterate 1 (refine plan_p (o := ⟨_, _, _, _, _, _⟩) rfl (fun N hN => ?_); go_big_quiet_step (fail); refine wpQuiet_nil (hN _ ?_); clear hN N))
  first | (refine plan_p_no (o := ⟨_, _, _, _, _, _⟩) rfl rfl rfl rfl (by first | rfl | exact hx1.out) ?_; (try simp only [Act.put, slt])) | (iterate 1 (refine plan_p (o := ⟨_, _, _, _, _, _⟩) rfl (fun N hN => ?_); go_big_quiet_step (fail); refine wpQuiet_nil (hN _ ?_); clear hN N))
  refine plan_p0 ?_
  first | (refine plan_q_no (o := ⟨_, _, _, _, _, _⟩) rfl rfl rfl rfl (by first | rfl | exact hx1.out) ?_; (try simp only [Act.put, slt])) | (iterate 1 (refine plan_q (o := ⟨_, _, _, _, _, _⟩) rfl (fun N hN => ?_); go_big_quiet_step (fail); refine wpQuiet_nil (hN _ ?_); clear hN N))
  refine plan_q0 ?_
  first | (refine plan_p_no (o := ⟨_, _, _, _, _, _⟩) rfl rfl rfl rfl (by first | rfl | exact hx1.out) ?_; (try simp only [Act.put, slt])) | (iterate 1 (refine plan_p (o := ⟨_, _, _, _, _, _⟩) rfl (fun N hN => ?_); go_big_quiet_step (fail); refine wpQuiet_nil (hN _ ?_); clear hN N))
  first | (refine plan_p_no (o := ⟨_, _, _, _, _, _⟩) rfl rfl rfl rfl (by first | rfl | exact hx1.out) ?_; (try simp only [Act.put, slt])) | (iterate 1 (refine plan_p (o := ⟨_, _, _, _, _, _⟩) rfl (fun N hN => ?_); go_big_quiet_step (fail); refine wpQuiet_nil (hN _ ?_); clear hN N))
  first | (refine plan_p_no (o := ⟨_, _, _, _, _, _⟩) rfl rfl rfl rfl (by first | rfl | exact hx1.out) ?_; (try simp only [Act.put, slt])) | (iterate 1 (refine plan_p (o := ⟨_, _, _, _, _, _⟩) rfl (fun N hN => ?_); go_big_quiet_step (fail); refine wpQuiet_nil (hN _ ?_); clear hN N))
  refine plan_p0 ?_
  first | (refine plan_q_no (o := ⟨_, _, _, _, _, _⟩) rfl rfl rfl rfl (by first | rfl | exact hx1.out) ?_; (try simp only [Act.put, slt])) | (iterate 1 (refine plan_q (o := ⟨_, _, _, _, _, _⟩) rfl (fun N hN => ?_); go_big_quiet_step (fail); refine wpQuiet_nil (hN _ ?_); clear hN N))
  refine plan_q0 ?_
  first | (refine plan_p_no (o := ⟨_, _, _, _, _, _⟩) rfl rfl rfl rfl (by first | rfl | exact hx1.out) ?_; (try simp only [Act.put, slt])) | (iterate 1 (refine plan_p (o := ⟨_, _, _, _, _, _⟩) rfl (fun N hN => ?_); go_big_quiet_step (fail); refine wpQuiet_nil (hN _ ?_); clear hN N))
  iterate 1 (refine plan_p (o := ⟨_, _, _, _, _, _⟩) rfl (fun N hN => ?_); go_big_quiet_step (fail); refine wpQuiet_nil (hN _ ?_); clear hN N)
  refine plan_p0 ?_
  refine plan_done ?_
  have hxv : (s2 != c2) = true := hx1.out
  repeat' (first | (go_big_may; (first
    | ((first
        | (refine loud_ rfl ?_; refine wpList_plain rfl (fun K hK => ?_); (first | (refine op_box _ _ rfl H (fun b w' H1 => hK _ _ ?_)) | (refine op_alloc _ rfl (zero_of _ _ rfl) H (fun b w' H1 => hK _ _ ?_)) | (refine op_store _ _ _ rfl rfl rfl H (by repeat (first | exact Split.here _ _ | apply Split.there)) (by kernel_rfl) (by kernel_rfl) (by kernel_rfl) (fun w' H1 => hK _ _ ?_)) | (refine op_buildSlice_all _ _ _ rfl (by first | exact elem22 | exact elem39 | exact elem76 | exact elem154) (by kernel_rfl) (by kernel_rfl) (by kernel_rfl) H (fun b w' H1 => hK _ _ ?_))); clear hK K; replace H := H1; clear H1)); (try clear hc); (try simp only [nrm, splice, Value.cells, Nat.reduceAdd, Act.eval, Act.put] at H); have hc := H.cells; simp only [CellsOf, KnCells, knc, Nat.reduceAdd] at hc))) | go_values | go_skip | go_guarded | go_step | go_upon | go_back | dsimp only)
  (try simp only [Act.put, slt])
  refine wp_region_plan (.p [0, 1, 2] (.q [3] (.p [4, 5, 6] (.q [7] (.p [8, 9, 10] (.q [11] (.p [12, 13, 14] (.e 15 (.p [16] .done))))))))) [15] (by kernel_rfl) (by kernel_rfl) (fun _ _ d _ _ h => by cases d <;> exact h) H ?_
  clear H
  (try clear hc)
  intro X nX fX wd hcf hS H
  simp only [CellsOf, KnCells, knc, Nat.reduceAdd] at hcf
  have hc := H.cells
  simp only [CellsOf, KnCells, knc, Nat.reduceAdd] at hc
  iterate 3 (refine plan_p (o := ⟨_, _, _, _, _, _⟩) rfl (fun N hN => ?_); go_big_quiet_step (fail); refine wpQuiet_nil (hN _ ?_); clear hN N)
  refine plan_p0 ?_
  iterate 1 (refine plan_q (o := ⟨_, _, _, _, _, _⟩) rfl (fun N hN => ?_); go_big_quiet_step (fail); refine wpQuiet_nil (hN _ ?_); clear hN N)
  refine plan_q0 ?_
  iterate 3 (refine plan_p (o := ⟨_, _, _, _, _, _⟩) rfl (fun N hN => ?_); go_big_quiet_step (fail); refine wpQuiet_nil (hN _ ?_); clear hN N)
  refine plan_p0 ?_
  iterate 1 (refine plan_q (o := ⟨_, _, _, _, _, _⟩) rfl (fun N hN => ?_); go_big_quiet_step (fail); refine wpQuiet_nil (hN _ ?_); clear hN N)
  refine plan_q0 ?_
  iterate 3 (refine plan_p (o := ⟨_, _, _, _, _, _⟩) rfl (fun N hN => ?_); go_big_quiet_step (fail); refine wpQuiet_nil (hN _ ?_); clear hN N)
  refine plan_p0 ?_
  iterate 1 (refine plan_q (o := ⟨_, _, _, _, _, _⟩) rfl (fun N hN => ?_); go_big_quiet_step (fail); refine wpQuiet_nil (hN _ ?_); clear hN N)
  refine plan_q0 ?_
  iterate 3 (refine plan_p (o := ⟨_, _, _, _, _, _⟩) rfl (fun N hN => ?_); go_big_quiet_step (fail); refine wpQuiet_nil (hN _ ?_); clear hN N)
  refine plan_p0 ?_
  refine plan_e (o := ⟨_, _, _, _, _, _⟩) rfl rfl (fun K hK => ?_)
  (first | (go_step; refine Calls.mono (gUpdSt g _ o ⟨s1, c2, 0⟩ hcs.out _ _ (H.pick (by repeat (first | exact Picks.nil _ | (apply Picks.wr; focus (repeat (first | exact Split.here _ _ | apply Split.there))) | (apply Picks.rd; focus (repeat (first | exact Split.here _ _ | apply Split.there))))))) ?_; rintro e w' ⟨rfl, H'⟩; replace H := H.merge (by first | exact Strikes.nil _ | (repeat (first | exact Strikes.nil _ | (apply Strikes.cons; focus (repeat (first | exact Split.here _ _ | apply Split.there)))))) H' rfl; clear H') | (refine op_box _ _ rfl H (fun b w' H1 => ?_); replace H := H1; clear H1) | (refine op_alloc _ rfl (zero_of _ _ rfl) H (fun b w' H1 => ?_); replace H := H1; clear H1) | (refine op_store _ _ _ rfl rfl rfl H (by repeat (first | exact Split.here _ _ | apply Split.there)) (by kernel_rfl) (by kernel_rfl) (by kernel_rfl) (fun w' H1 => ?_); replace H := H1; clear H1) | (refine op_buildSlice_all _ _ _ rfl (by first | exact elem22 | exact elem39 | exact elem76 | exact elem154) (by kernel_rfl) (by kernel_rfl) (by kernel_rfl) H (fun b w' H1 => ?_); replace H := H1; clear H1)); (try clear hc); (try simp only [nrm, splice, Value.cells, Nat.reduceAdd, Act.eval, Act.put] at H); have hc := H.cells; simp only [CellsOf, KnCells, knc, Nat.reduceAdd] at hc; refine hK _ _ (fun h => (h (by decide)).elim) ?_; clear hK K; (try simp only [Act.put, slt])
  iterate 1 (refine plan_p (o := ⟨_, _, _, _, _, _⟩) rfl (fun N hN => ?_); go_big_quiet_step (fail); refine wpQuiet_nil (hN _ ?_); clear hN N)
  refine plan_p0 ?_
  refine plan_done ?_
  repeat' (first | (go_big_may; (first
    | go_skip
    | ((first
        | (go_at_call 105; refine Calls.mono (gInfo_ok g _ _ rfl _ (H.obj (by repeat (first | exact Split.here _ _ | apply Split.there)))) ?_; rintro e w' ⟨qi, rfl, H'⟩; replace H := H.merge (by first | exact Strikes.nil _ | (repeat (first | exact Strikes.nil _ | (apply Strikes.cons; focus (repeat (first | exact Split.here _ _ | apply Split.there)))))) H' rfl; clear H')
        | (refine loud_ rfl ?_; refine wpList_plain rfl (fun K hK => ?_); (first | (refine op_box _ _ rfl H (fun b w' H1 => hK _ _ ?_)) | (refine op_alloc _ rfl (zero_of _ _ rfl) H (fun b w' H1 => hK _ _ ?_)) | (refine op_store _ _ _ rfl rfl rfl H (by repeat (first | exact Split.here _ _ | apply Split.there)) (by kernel_rfl) (by kernel_rfl) (by kernel_rfl) (fun w' H1 => hK _ _ ?_)) | (refine op_buildSlice_all _ _ _ rfl (by first | exact elem22 | exact elem39 | exact elem76 | exact elem154) (by kernel_rfl) (by kernel_rfl) (by kernel_rfl) H (fun b w' H1 => hK _ _ ?_))); clear hK K; replace H := H1; clear H1)); (try clear hc); (try simp only [nrm, splice, Value.cells, Nat.reduceAdd, Act.eval, Act.put] at H); have hc := H.cells; simp only [CellsOf, KnCells, knc, Nat.reduceAdd] at hc))) | go_values | go_skip | go_guarded | go_step | go_upon | go_back | dsimp only)
  go_end0
  exact ⟨rfl, H.sel (by repeat (first | exact Sel.nil _ | (apply Sel.cons; focus (repeat (first | exact Split.here _ _ | apply Split.there)))))⟩
set_option maxRecDepth 8000 in
theorem updSt_5 (d : VD) (c : Vr) (hcv : Hid (VText d.cl c)) (h3 : ((vstr c).toList == [51, 46, 48, 46, 48]) = false) (s : Vr) (hsv : Hid (VText d.st s)) (ha : s.a = c.a) (hb : s.b = c.b) (p g : Nat) (o : Vo) (S : List Nat) (w : World) (H : St S w w [(false, .is p (mon g)), (true, .is g (guard d o)), genv]) :
    Calls Tryd.prog 42 #[.pointer (some ⟨p, 0, none⟩)] w fun e w' => e = .returned (.tuple #[]) ∧ St S w w' [(true, .is g (guard d o))] := by
  have hmeGetClusterVersion : ∀ (w : World), (method 256 45 (.pointer (some ⟨g, 0, none⟩)) "GetClusterVersion").run Tryd.prog w = .ok (104, .pointer (some ⟨g, 0, none⟩)) w := fun w => by kernel_rfl
  have hnaGetClusterVersion : ∀ (w : World), (nilAhead 256 45 (.pointer (some ⟨g, 0, none⟩)) "GetClusterVersion").run Tryd.prog w = .ok (some false) w := fun w => by kernel_rfl
  have hmeGetStorageVersion : ∀ (w : World), (method 256 45 (.pointer (some ⟨g, 0, none⟩)) "GetStorageVersion").run Tryd.prog w = .ok (107, .pointer (some ⟨g, 0, none⟩)) w := fun w => by kernel_rfl
  have hnaGetStorageVersion : ∀ (w : World), (nilAhead 256 45 (.pointer (some ⟨g, 0, none⟩)) "GetStorageVersion").run Tryd.prog w = .ok (some false) w := fun w => by kernel_rfl
  have hmeGetDowngradeInfo : ∀ (w : World), (method 256 45 (.pointer (some ⟨g, 0, none⟩)) "GetDowngradeInfo").run Tryd.prog w = .ok (105, .pointer (some ⟨g, 0, none⟩)) w := fun w => by kernel_rfl
  have hnaGetDowngradeInfo : ∀ (w : World), (nilAhead 256 45 (.pointer (some ⟨g, 0, none⟩)) "GetDowngradeInfo").run Tryd.prog w = .ok (some false) w := fun w => by kernel_rfl
  have hmeUpdateStorageVersion : ∀ (w : World), (method 256 45 (.pointer (some ⟨g, 0, none⟩)) "UpdateStorageVersion").run Tryd.prog w = .ok (110, .pointer (some ⟨g, 0, none⟩)) w := fun w => by kernel_rfl
  have hnaUpdateStorageVersion : ∀ (w : World), (nilAhead 256 45 (.pointer (some ⟨g, 0, none⟩)) "UpdateStorageVersion").run Tryd.prog w = .ok (some false) w := fun w => by kernel_rfl
  have hcok := Lib.hid hcv.out.1
  obtain ⟨c1, c2, c3⟩ := c
  obtain ⟨s1, s2, s3⟩ := s
  simp only at ha hb
  subst ha hb
  have hc := H.cells; simp only [CellsOf, KnCells, knc, Nat.reduceAdd] at hc
  go_enter Tryd.func42, Tryd.ntmps42
  repeat' (first | (go_big_may; (first
    | go_skip
    | ((first
        | (go_at_call 104; refine Calls.mono (gGetClusterVersion_ok g _ o _ hcv _ (H.obj (by repeat (first | exact Split.here _ _ | apply Split.there)))) ?_; rintro e w' ⟨qc, rfl, H'⟩; replace H := H.merge (by first | exact Strikes.nil _ | (repeat (first | exact Strikes.nil _ | (apply Strikes.cons; focus (repeat (first | exact Split.here _ _ | apply Split.there)))))) H' rfl; clear H')
        | (go_at_call 48; refine Calls.mono (string_calls _ hcok.out _ (H.rep (R := GEnv) (by repeat (first | exact Split.here _ _ | apply Split.there))).1) ?_; rintro e w' ⟨rfl, H'⟩; replace H := H.of_ext H'; clear H')
        | (go_at_call 107; refine Calls.mono (gGetStorageVersion_ok g _ o _ hsv _ (H.obj (by repeat (first | exact Split.here _ _ | apply Split.there)))) ?_; rintro e w' ⟨qs, rfl, H'⟩; replace H := H.merge (by first | exact Strikes.nil _ | (repeat (first | exact Strikes.nil _ | (apply Strikes.cons; focus (repeat (first | exact Split.here _ _ | apply Split.there)))))) H' rfl; clear H')
        | (refine loud_ rfl ?_; refine wpList_plain rfl (fun K hK => ?_); (first | (refine op_box _ _ rfl H (fun b w' H1 => hK _ _ ?_)) | (refine op_alloc _ rfl (zero_of _ _ rfl) H (fun b w' H1 => hK _ _ ?_)) | (refine op_store _ _ _ rfl rfl rfl H (by repeat (first | exact Split.here _ _ | apply Split.there)) (by kernel_rfl) (by kernel_rfl) (by kernel_rfl) (fun w' H1 => hK _ _ ?_)) | (refine op_buildSlice_all _ _ _ rfl (by first | exact elem22 | exact elem39 | exact elem76 | exact elem154) (by kernel_rfl) (by kernel_rfl) (by kernel_rfl) H (fun b w' H1 => hK _ _ ?_))); clear hK K; replace H := H1; clear H1)); (try clear hc); (try simp only [nrm, splice, Value.cells, Nat.reduceAdd, Act.eval, Act.put] at H); have hc := H.cells; simp only [CellsOf, KnCells, knc, Nat.reduceAdd] at hc))) | go_values | go_skip | go_guarded | go_step | go_upon | go_back | dsimp only)
  (try simp only [Act.put, slt])
  refine wp_region_plan (.p [0, 1, 2, 3, 4, 5] (.q [6] (.p [7, 8, 9] (.q [10] (.p [11, 12, 13, 14, 15, 16] (.q [17] (.p [18, 19, 20] (.q [21] (.p [22, 23] .done))))))))) [] (by kernel_rfl) (by kernel_rfl) (fun _ _ d _ _ h => by cases d <;> exact h) H ?_
  clear H
  (try clear hc)
  intro X nX fX wd hcf hS H
  simp only [CellsOf, KnCells, knc, Nat.reduceAdd] at hcf
  have hc := H.cells
  simp only [CellsOf, KnCells, knc, Nat.reduceAdd] at hc
  iterate 3 (refine plan_p (o := ⟨_, _, _, _, _, _⟩) rfl (fun N hN => ?_); go_big_quiet_step (fail); refine wpQuiet_nil (hN _ ?_); clear hN N)
  first | (refine plan_p_no (o := ⟨_, _, _, _, _, _⟩) rfl rfl rfl rfl (rfl) ?_; (try simp only [Act.put, slt])) | (iterate 1 (refine plan_p (o := ⟨_, _, _, _, _, _⟩) rfl (fun N hN => ?_); go_big_quiet_step (fail); refine wpQuiet_nil (hN _ ?_); clear hN N))
  first | (refine plan_p_no (o := ⟨_, _, _, _, _, _⟩) rfl rfl rfl rfl (rfl) ?_; (try simp only [Act.put, slt])) | (iterate 1 (refine plan_p (o := ⟨_, _, _, _, _, _⟩) rfl (fun N hN => ?_); go_big_quiet_step (fail); refine wpQuiet_nil (hN _ ?_); clear hN N))
  first | (refine plan_p_no (o := ⟨_, _, _, _, _, _⟩) rfl rfl rfl rfl (rfl) ?_; (try simp only [Act.put, slt])) | (iterate 1 (refine plan_p (o := ⟨_, _, _, _, _, _⟩) rfl (fun N hN => ?_); go_big_quiet_step (fail); refine wpQuiet_nil (hN _ ?_); clear hN N))
  refine plan_p0 ?_
  first | (refine plan_q_no (o := ⟨_, _, _, _, _, _⟩) rfl rfl rfl rfl (rfl) ?_; (try simp only [Act.put, slt])) | (iterate 1 (refine plan_q (o := ⟨_, _, _, _, _, _⟩) rfl (fun N hN => ?_); go_big_quiet_step (fail); refine wpQuiet_nil (hN _ ?_); clear hN N))
  refine plan_q0 ?_
  first | (refine plan_p_no (o := ⟨_, _, _, _, _, _⟩) rfl rfl rfl rfl (rfl) ?_; (try simp only [Act.put, slt])) | (iterate 1 (refine plan_p (o := ⟨_, _, _, _, _, _⟩) rfl (fun N hN => ?_); go_big_quiet_step (fail); refine wpQuiet_nil (hN _ ?_); clear hN N))
  first | (refine plan_p_no (o := ⟨_, _, _, _, _, _⟩) rfl rfl rfl rfl (rfl) ?_; (try simp only [Act.put, slt])) | (iterate 1 (refine plan_p (o := ⟨_, _, _, _, _, _⟩) rfl (fun N hN => ?_); go_big_quiet_step (fail); refine wpQuiet_nil (hN _ ?_); clear hN N))
  first | (refine plan_p_no (o := ⟨_, _, _, _, _, _⟩) rfl rfl rfl rfl (rfl) ?_; (try simp only [Act.put, slt])) | (iterate 1 (refine plan_p (o := ⟨_, _, _, _, _, _⟩) rfl (fun N hN => ?_); go_big_quiet_step (fail); refine wpQuiet_nil (hN _ ?_); clear hN N))
  refine plan_p0 ?_
  first | (refine plan_q_no (o := ⟨_, _, _, _, _, _⟩) rfl rfl rfl rfl (rfl) ?_; (try simp only [Act.put, slt])) | (iterate 1 (refine plan_q (o := ⟨_, _, _, _, _, _⟩) rfl (fun N hN => ?_); go_big_quiet_step (fail); refine wpQuiet_nil (hN _ ?_); clear hN N))
  refine plan_q0 ?_
  first | (refine plan_p_no (o := ⟨_, _, _, _, _, _⟩) rfl rfl rfl rfl (rfl) ?_; (try simp only [Act.put, slt])) | (iterate 1 (refine plan_p (o := ⟨_, _, _, _, _, _⟩) rfl (fun N hN => ?_); go_big_quiet_step (fail); refine wpQuiet_nil (hN _ ?_); clear hN N))
  iterate 2 (refine plan_p (o := ⟨_, _, _, _, _, _⟩) rfl (fun N hN => ?_); go_big_quiet_step (fail); refine wpQuiet_nil (hN _ ?_); clear hN N)
  first | (refine plan_p_no (o := ⟨_, _, _, _, _, _⟩) rfl rfl rfl rfl (rfl) ?_; (try simp only [Act.put, slt])) | (iterate 1 (refine plan_p (o := ⟨_, _, _, _, _, _⟩) rfl (fun N hN => ?_); go_big_quiet_step (fail); refine wpQuiet_nil (hN _ ?_); clear hN N))
  first | (refine plan_p_no (o := ⟨_, _, _, _, _, _⟩) rfl rfl rfl rfl (rfl) ?_; (try simp only [Act.put, slt])) | (iterate 1 (refine plan_p (o := ⟨_, _, _, _, _, _⟩) rfl (fun N hN => ?_); go_big_quiet_step (fail); refine wpQuiet_nil (hN _ ?_); clear hN N))
  first | (refine plan_p_no (o := ⟨_, _, _, _, _, _⟩) rfl rfl rfl rfl (rfl) ?_; (try simp only [Act.put, slt])) | (iterate 1 (refine plan_p (o := ⟨_, _, _, _, _, _⟩) rfl (fun N hN => ?_); go_big_quiet_step (fail); refine wpQuiet_nil (hN _ ?_); clear hN N))
  refine plan_p0 ?_
  first | (refine plan_q_no (o := ⟨_, _, _, _, _, _⟩) rfl rfl rfl rfl (rfl) ?_; (try simp only [Act.put, slt])) | (iterate 1 (refine plan_q (o := ⟨_, _, _, _, _, _⟩) rfl (fun N hN => ?_); go_big_quiet_step (fail); refine wpQuiet_nil (hN _ ?_); clear hN N))
  refine plan_q0 ?_
  first | (refine plan_p_no (o := ⟨_, _, _, _, _, _⟩) rfl rfl rfl rfl (rfl) ?_; (try simp only [Act.put, slt])) | (iterate 1 (refine plan_p (o := ⟨_, _, _, _, _, _⟩) rfl (fun N hN => ?_); go_big_quiet_step (fail); refine wpQuiet_nil (hN _ ?_); clear hN N))
  first | (refine plan_p_no (o := ⟨_, _, _, _, _, _⟩) rfl rfl rfl rfl (rfl) ?_; (try simp only [Act.put, slt])) | (iterate 1 (refine plan_p (o := ⟨_, _, _, _, _, _⟩) rfl (fun N hN => ?_); go_big_quiet_step (fail); refine wpQuiet_nil (hN _ ?_); clear hN N))
  first | (refine plan_p_no (o := ⟨_, _, _, _, _, _⟩) rfl rfl rfl rfl (rfl) ?_; (try simp only [Act.put, slt])) | (iterate 1 (refine plan_p (o := ⟨_, _, _, _, _, _⟩) rfl (fun N hN => ?_); go_big_quiet_step (fail); refine wpQuiet_nil (hN _ ?_); clear hN N))
  refine plan_p0 ?_
  first | (refine plan_q_no (o := ⟨_, _, _, _, _, _⟩) rfl rfl rfl rfl (rfl) ?_; (try simp only [Act.put, slt])) | (iterate 1 (refine plan_q (o := ⟨_, _, _, _, _, _⟩) rfl (fun N hN => ?_); go_big_quiet_step (fail); refine wpQuiet_nil (hN _ ?_); clear hN N))
  refine plan_q0 ?_
  first | (refine plan_p_no (o := ⟨_, _, _, _, _, _⟩) rfl rfl rfl rfl (rfl) ?_; (try simp only [Act.put, slt])) | (iterate 1 (refine plan_p (o := ⟨_, _, _, _, _, _⟩) rfl (fun N hN => ?_); go_big_quiet_step (fail); refine wpQuiet_nil (hN _ ?_); clear hN N))
  iterate 1 (refine plan_p (o := ⟨_, _, _, _, _, _⟩) rfl (fun N hN => ?_); go_big_quiet_step (fail); refine wpQuiet_nil (hN _ ?_); clear hN N)
  refine plan_p0 ?_
  refine plan_done ?_
  repeat' (first | (go_big_may; (first
    | ((first
        | (refine loud_ rfl ?_; refine wpList_plain rfl (fun K hK => ?_); (first | (refine op_box _ _ rfl H (fun b w' H1 => hK _ _ ?_)) | (refine op_alloc _ rfl (zero_of _ _ rfl) H (fun b w' H1 => hK _ _ ?_)) | (refine op_store _ _ _ rfl rfl rfl H (by repeat (first | exact Split.here _ _ | apply Split.there)) (by kernel_rfl) (by kernel_rfl) (by kernel_rfl) (fun w' H1 => hK _ _ ?_)) | (refine op_buildSlice_all _ _ _ rfl (by first | exact elem22 | exact elem39 | exact elem76 | exact elem154) (by kernel_rfl) (by kernel_rfl) (by kernel_rfl) H (fun b w' H1 => hK _ _ ?_))); clear hK K; replace H := H1; clear H1)); (try clear hc); (try simp only [nrm, splice, Value.cells, Nat.reduceAdd, Act.eval, Act.put] at H); have hc := H.cells; simp only [CellsOf, KnCells, knc, Nat.reduceAdd] at hc))) | go_values | go_skip | go_guarded | go_step | go_upon | go_back | dsimp only)
  go_end0
  exact ⟨rfl, H.sel (by repeat (first | exact Sel.nil _ | (apply Sel.cons; focus (repeat (first | exact Split.here _ _ | apply Split.there)))))⟩
end Go.Proofs.YtdcijhdjddiboaaDoor
