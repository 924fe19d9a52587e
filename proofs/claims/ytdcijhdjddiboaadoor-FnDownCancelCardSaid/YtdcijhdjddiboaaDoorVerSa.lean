import Derived.Test.YtdcijhdjddiboaaDoorVerG
-- MORE
namespace Go.Proofs.YtdcijhdjddiboaaDoor
set_option linter.unusedVariables false
set_option linter.unusedSimpArgs false
set_option linter.unnecessarySimpa false
open Go.RowKit Go.V

set_option maxRecDepth 10000 in
theorem sDownCancel_idle (d : VD) (hdn : d.dn = false) (w : World) :
    Calls Tryd.prog 21 #[d.val] w fun e w' => e = .returned (Vo.val ⟨3, ByteArray.empty, ByteArray.empty, false, false, ByteArray.empty⟩) ∧ Ext [] w w' := by
  have H := St.init [] w
  obtain ⟨cl, st, tg, dn, hd, at', n, cap⟩ := d
  simp only at hdn
  subst hdn
  go_enter Tryd.func21, Tryd.ntmps21
  repeat' (first | (go_big_may; (first
    | ((first
        | (refine loud_ rfl ?_; refine wpList_plain rfl (fun K hK => ?_); (first | (refine op_box _ _ rfl H (fun b w' H1 => hK _ _ ?_)) | (refine op_alloc _ rfl (zero_of _ _ rfl) H (fun b w' H1 => hK _ _ ?_)) | (refine op_store _ _ _ rfl rfl rfl H (by repeat (first | exact Split.here _ _ | apply Split.there)) (by kernel_rfl) (by kernel_rfl) (by kernel_rfl) (fun w' H1 => hK _ _ ?_)) | (refine op_buildSlice_all _ _ _ rfl (by first | exact elem22 | exact elem39 | exact elem76 | exact elem154) (by kernel_rfl) (by kernel_rfl) (by kernel_rfl) H (fun b w' H1 => hK _ _ ?_))); clear hK K; replace H := H1; clear H1)); (try clear hc); (try simp only [nrm, splice, Value.cells, Nat.reduceAdd, Act.eval, Act.put] at H); have hc := H.cells; simp only [CellsOf, KnCells, knc, Nat.reduceAdd] at hc))) | go_values | go_skip | go_guarded | go_step | go_upon | go_back | dsimp only)
  exact bodyPost_ret (v := .agg #[.int .i64 3, .string ByteArray.empty, .string ByteArray.empty, .bool false, .bool false, .string ByteArray.empty]) (by simp [results, Tryd.results21, go_sem, hc, Act.put]; try rfl) rfl ⟨rfl, H.ext⟩
set_option maxRecDepth 10000 in
theorem sDownCancel_ok (d : VD) (hdn : d.dn = true) (w : World) :
    Calls Tryd.prog 21 #[d.val] w fun e w' => e = .returned (Vo.val ⟨0, ByteArray.empty, ByteArray.empty, true, false, ByteArray.empty⟩) ∧ Ext [] w w' := by
  have H := St.init [] w
  obtain ⟨cl, st, tg, dn, hd, at', n, cap⟩ := d
  simp only at hdn
  subst hdn
  go_enter Tryd.func21, Tryd.ntmps21
  repeat' (first | (go_big_may; (first
    | ((first
        | (refine loud_ rfl ?_; refine wpList_plain rfl (fun K hK => ?_); (first | (refine op_box _ _ rfl H (fun b w' H1 => hK _ _ ?_)) | (refine op_alloc _ rfl (zero_of _ _ rfl) H (fun b w' H1 => hK _ _ ?_)) | (refine op_store _ _ _ rfl rfl rfl H (by repeat (first | exact Split.here _ _ | apply Split.there)) (by kernel_rfl) (by kernel_rfl) (by kernel_rfl) (fun w' H1 => hK _ _ ?_)) | (refine op_buildSlice_all _ _ _ rfl (by first | exact elem22 | exact elem39 | exact elem76 | exact elem154) (by kernel_rfl) (by kernel_rfl) (by kernel_rfl) H (fun b w' H1 => hK _ _ ?_))); clear hK K; replace H := H1; clear H1)); (try clear hc); (try simp only [nrm, splice, Value.cells, Nat.reduceAdd, Act.eval, Act.put] at H); have hc := H.cells; simp only [CellsOf, KnCells, knc, Nat.reduceAdd] at hc))) | go_values | go_skip | go_guarded | go_step | go_upon | go_back | dsimp only)
  exact bodyPost_ret (v := .agg #[.int .i64 0, .string ByteArray.empty, .string ByteArray.empty, .bool true, .bool false, .string ByteArray.empty]) (by simp [results, Tryd.results21, go_sem, hc, Act.put]; try rfl) rfl ⟨rfl, H.ext⟩
end Go.Proofs.YtdcijhdjddiboaaDoor
