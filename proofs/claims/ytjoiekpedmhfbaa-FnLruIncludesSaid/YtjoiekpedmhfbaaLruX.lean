import Derived.Test.YtjoiekpedmhfbaaLruW
-- MORE
-- SUB2
namespace Go.Proofs.Ytjoiekpedmhfbaa
set_option linter.unusedVariables false
set_option linter.unusedSimpArgs false
set_option linter.unnecessarySimpa false
open Go.RowKit Go.V

set_option maxRecDepth 8000 in
theorem gMake (M : Int) (w : World) : Calls Try.prog 30 #[.int .i64 M] w fun e w' => ∃ gb lb mb, e = .returned (pt gb) ∧ St [] w w' [(true, .is gb (gobj M .nilFunc lb mb)), (true, .is mb (.map #[] 0)), (true, .is lb (root (pt lb) (pt lb) 0))] := by
  have H := St.init [] w
  go_enter Try.func30, Try.ntmps30
  repeat' (first | (go_big_may; (first
    | go_skip
    | (refine wpList_plain rfl (fun K hK => ?_); (refine op_newMap _ rfl H (fun mb w' H1 => hK _ _ ?_); clear hK K; replace H := H1; clear H1; (try clear hc); (try simp only [nrm, splice, Value.cells, Nat.reduceAdd, Act.eval, Act.put] at H); have hc := H.cells; simp only [CellsOf, KnCells, knc, Nat.reduceAdd] at hc))
    | ((first
        | (go_at_call 31; refine Calls.mono (listNew _) ?_; rintro e w' ⟨lb, rfl, H'⟩; replace H := H.merge (by first | exact Strikes.nil _ | (repeat (first | exact Strikes.nil _ | (apply Strikes.cons; focus (repeat (first | exact Split.here _ _ | apply Split.there)))))) H' rfl; clear H')
        | (refine loud_ rfl ?_; refine wpList_plain rfl (fun K hK => ?_); (first | (refine op_box _ _ rfl H (fun b w' H1 => hK _ _ ?_)) | (refine op_alloc _ rfl (zero_of _ _ rfl) H (fun b w' H1 => hK _ _ ?_)) | (refine op_store _ _ _ rfl rfl rfl H (by repeat (first | exact Split.here _ _ | apply Split.there)) (by kernel_rfl) (by kernel_rfl) (by kernel_rfl) (fun w' H1 => hK _ _ ?_)) | (refine op_buildSlice_all _ _ _ rfl (by first | exact elem22 | exact elem25 | exact elem31 | exact elem35) (by kernel_rfl) (by kernel_rfl) (by kernel_rfl) H (fun b w' H1 => hK _ _ ?_))); clear hK K; replace H := H1; clear H1)); (try clear hc); (try simp only [nrm, splice, Value.cells, Nat.reduceAdd, Act.eval, Act.put] at H); have hc := H.cells; simp only [CellsOf, KnCells, knc, Nat.reduceAdd] at hc))) | go_values | go_skip | go_guarded | go_step | go_upon | go_back | dsimp only)
  go_ret
  exact ⟨_, _, _, rfl, H.sel (by repeat (first | exact Sel.nil _ | (apply Sel.cons; focus (repeat (first | exact Split.here _ _ | apply Split.there)))))⟩
set_option maxRecDepth 8000 in
theorem lMake (M : Int) (w : World) : Calls Try.prog 17 #[.int .i64 M] w fun e w' => ∃ cb gb lb mb, e = .returned (pt cb) ∧ St [] w w' [lruObj cb gb, (true, .is gb (gobj M .nilFunc lb mb)), (true, .is mb (.map #[] 0)), (true, .is lb (root (pt lb) (pt lb) 0))] := by
  have H := St.init [] w
  go_enter Try.func17, Try.ntmps17
  repeat' (first | (go_big_may; (first
    | go_skip
    | ((first
        | (go_at_call 30; refine Calls.mono (gMake _ _) ?_; rintro e w' ⟨gb, lb, mb, rfl, H'⟩; replace H := H.merge (by first | exact Strikes.nil _ | (repeat (first | exact Strikes.nil _ | (apply Strikes.cons; focus (repeat (first | exact Split.here _ _ | apply Split.there)))))) H' rfl; clear H')
        | (refine loud_ rfl ?_; refine wpList_plain rfl (fun K hK => ?_); (first | (refine op_box _ _ rfl H (fun b w' H1 => hK _ _ ?_)) | (refine op_alloc _ rfl (zero_of _ _ rfl) H (fun b w' H1 => hK _ _ ?_)) | (refine op_store _ _ _ rfl rfl rfl H (by repeat (first | exact Split.here _ _ | apply Split.there)) (by kernel_rfl) (by kernel_rfl) (by kernel_rfl) (fun w' H1 => hK _ _ ?_)) | (refine op_buildSlice_all _ _ _ rfl (by first | exact elem22 | exact elem25 | exact elem31 | exact elem35) (by kernel_rfl) (by kernel_rfl) (by kernel_rfl) H (fun b w' H1 => hK _ _ ?_))); clear hK K; replace H := H1; clear H1)); (try clear hc); (try simp only [nrm, splice, Value.cells, Nat.reduceAdd, Act.eval, Act.put] at H); have hc := H.cells; simp only [CellsOf, KnCells, knc, Nat.reduceAdd] at hc))) | go_values | go_skip | go_guarded | go_step | go_upon | go_back | dsimp only)
  go_ret
  exact ⟨_, _, _, _, rfl, H.sel (by repeat (first | exact Sel.nil _ | (apply Sel.cons; focus (repeat (first | exact Split.here _ _ | apply Split.there)))))⟩
set_option maxRecDepth 8000 in
theorem lMakeEv (M : Nat) (go : Nat) (w : World) : Calls Try.prog 7 #[.int .i64 M, evv go] w fun e w' => ∃ cb gb X, Cch gb go M [] X ∧ e = .returned (pt cb) ∧ St [] w w' [lruObj cb gb, (true, bag X)] := by
  have H := St.init [] w
  go_enter Try.func7, Try.ntmps7
  repeat' (first | (go_big_may; (first
    | go_skip
    | ((first
        | (go_at_call 17; refine Calls.mono (lMake _ _) ?_; rintro e w' ⟨cb, gb, lb, mb, rfl, H'⟩; replace H := H.merge (by first | exact Strikes.nil _ | (repeat (first | exact Strikes.nil _ | (apply Strikes.cons; focus (repeat (first | exact Split.here _ _ | apply Split.there)))))) H' rfl; clear H')
        | (refine loud_ rfl ?_; refine wpList_plain rfl (fun K hK => ?_); (first | (refine op_box _ _ rfl H (fun b w' H1 => hK _ _ ?_)) | (refine op_alloc _ rfl (zero_of _ _ rfl) H (fun b w' H1 => hK _ _ ?_)) | (refine op_store _ _ _ rfl rfl rfl H (by repeat (first | exact Split.here _ _ | apply Split.there)) (by kernel_rfl) (by kernel_rfl) (by kernel_rfl) (fun w' H1 => hK _ _ ?_)) | (refine op_buildSlice_all _ _ _ rfl (by first | exact elem22 | exact elem25 | exact elem31 | exact elem35) (by kernel_rfl) (by kernel_rfl) (by kernel_rfl) H (fun b w' H1 => hK _ _ ?_))); clear hK K; replace H := H1; clear H1)); (try clear hc); (try simp only [nrm, splice, Value.cells, Nat.reduceAdd, Act.eval, Act.put] at H); have hc := H.cells; simp only [CellsOf, KnCells, knc, Nat.reduceAdd] at hc))) | go_values | go_skip | go_guarded | go_step | go_upon | go_back | dsimp only)
  go_ret
  have H2 := H.sel (L' := [(true, .is gb (gobj M (evv go) lb mb)), (true, .is mb (.map #[] 0)), (true, .is lb (root (pt lb) (pt lb) 0)), lruObj cb gb]) (by repeat (first | exact Sel.nil _ | (apply Sel.cons; focus (repeat (first | exact Split.here _ _ | apply Split.there)))))
  have hc2 : Cch gb go M [] [(true, .is gb (gobj M (evv go) lb mb)), (true, .is mb (.map #[] 0)), (true, .is lb (root (pt lb) (pt lb) 0))] := ⟨lb, mb, 0, #[], [], [], rfl, Lib.hid (kv1_nil _), List.Pairwise.nil, fun _ => rfl, rfl⟩
  have H3 := st_fold (X := [(true, .is gb (gobj M (evv go) lb mb)), (true, .is mb (.map #[] 0)), (true, .is lb (root (pt lb) (pt lb) 0))]) (L := [lruObj cb gb]) rfl H2
  exact ⟨cb, gb, _, hc2, rfl, H3.sel (by repeat (first | exact Sel.nil _ | (apply Sel.cons; focus (repeat (first | exact Split.here _ _ | apply Split.there)))))⟩
end Go.Proofs.Ytjoiekpedmhfbaa
