import Derived.Test.YtdcijhdjddiboaaDoorVerYb
import Derived.Test.YtdcijhdjddiboaaDoorVerZb
import Derived.Test.YtdcijhdjddiboaaDoorVerW
-- MORE
namespace Go.Proofs.YtdcijhdjddiboaaDoor
set_option linter.unusedVariables false
set_option linter.unusedSimpArgs false
set_option linter.unnecessarySimpa false
open Go.RowKit Go.V

set_option maxRecDepth 10000 in
theorem downCancel_no (d : VD) (hhd : d.hd = false) (w : World) (H : St [] w w [genv]) :
    Calls Tryd.prog 20 #[d.val] w fun e w' => e = .returned (Vo.val ⟨98, ByteArray.empty, ByteArray.empty, false, false, ByteArray.empty⟩) ∧ Ext [] w w' := by
  obtain ⟨cl, st, tg, dn, hd, at', n, cap⟩ := d
  simp only at hhd
  subst hhd
  have hc := H.cells; simp only [CellsOf, KnCells, knc, Nat.reduceAdd] at hc
  go_enter Tryd.func20, Tryd.ntmps20
  repeat' (first | (go_big_may; (first
    | go_skip
    | ((first
        | (go_at_call 38; refine Calls.mono (newMan _ _) ?_; rintro e w' ⟨p, rfl, H'⟩; replace H := H.merge (by first | exact Strikes.nil _ | (repeat (first | exact Strikes.nil _ | (apply Strikes.cons; focus (repeat (first | exact Split.here _ _ | apply Split.there)))))) H' rfl; clear H')
        | (go_at_call 40; refine Calls.mono (bg_calls _) ?_; rintro e w' ⟨T, v, rfl, H'⟩; replace H := H.of_ext H'; clear H')
        | (refine loud_ rfl ?_; refine wpList_plain rfl (fun K hK => ?_); (first | (refine op_box _ _ rfl H (fun b w' H1 => hK _ _ ?_)) | (refine op_alloc _ rfl (zero_of _ _ rfl) H (fun b w' H1 => hK _ _ ?_)) | (refine op_store _ _ _ rfl rfl rfl H (by repeat (first | exact Split.here _ _ | apply Split.there)) (by kernel_rfl) (by kernel_rfl) (by kernel_rfl) (fun w' H1 => hK _ _ ?_)) | (refine op_buildSlice_all _ _ _ rfl (by first | exact elem22 | exact elem39 | exact elem76 | exact elem154) (by kernel_rfl) (by kernel_rfl) (by kernel_rfl) H (fun b w' H1 => hK _ _ ?_))); clear hK K; replace H := H1; clear H1)); (try clear hc); (try simp only [nrm, splice, Value.cells, Nat.reduceAdd, Act.eval, Act.put] at H); have hc := H.cells; simp only [CellsOf, KnCells, knc, Nat.reduceAdd] at hc))) | go_values | go_skip | go_guarded | go_step | go_upon | go_back | dsimp only)
  exact bodyPost_ret (v := .agg #[.int .i64 98, .string ByteArray.empty, .string ByteArray.empty, .bool false, .bool false, .string ByteArray.empty]) (by simp [results, Tryd.results20, go_sem, hc, Act.put]; try rfl) rfl ⟨rfl, H.ext⟩
set_option maxRecDepth 10000 in
theorem downCancel_idle (d : VD) (hhd : d.hd = true) (hdn : d.dn = false) (w : World) (H : St [] w w [genv]) :
    Calls Tryd.prog 20 #[d.val] w fun e w' => e = .returned (Vo.val ⟨3, ByteArray.empty, ByteArray.empty, false, false, ByteArray.empty⟩) ∧ Ext [] w w' := by
  obtain ⟨cl, st, tg, dn, hd, at', n, cap⟩ := d
  simp only at hhd hdn
  subst hhd hdn
  have hc := H.cells; simp only [CellsOf, KnCells, knc, Nat.reduceAdd] at hc
  go_enter Tryd.func20, Tryd.ntmps20
  repeat' (first | (go_big_may; (first
    | go_skip
    | ((first
        | (go_at_call 38; refine Calls.mono (newMan _ _) ?_; rintro e w' ⟨p, rfl, H'⟩; replace H := H.merge (by first | exact Strikes.nil _ | (repeat (first | exact Strikes.nil _ | (apply Strikes.cons; focus (repeat (first | exact Split.here _ _ | apply Split.there)))))) H' rfl; clear H')
        | (go_at_call 40; refine Calls.mono (bg_calls _) ?_; rintro e w' ⟨T, v, rfl, H'⟩; replace H := H.of_ext H'; clear H')
        | (go_at_call 39; refine Calls.mono (mCancel_no ⟨cl, st, tg, false, true, at', n, cap⟩ rfl rfl _ _ vo0 _ _ _ (H.pick (by repeat (first | exact Picks.nil _ | (apply Picks.wr; focus (repeat (first | exact Split.here _ _ | apply Split.there))) | (apply Picks.rd; focus (repeat (first | exact Split.here _ _ | apply Split.there))))))) ?_; rintro e w' ⟨rfl, H'⟩; replace H := H.merge (by first | exact Strikes.nil _ | (repeat (first | exact Strikes.nil _ | (apply Strikes.cons; focus (repeat (first | exact Split.here _ _ | apply Split.there)))))) H' rfl; clear H')
        | (go_at_call 34; refine Calls.mono (voteKind_noJob _) ?_; rintro e w' ⟨rfl, H'⟩; replace H := H.of_ext H'; clear H')
        | (refine loud_ rfl ?_; refine wpList_plain rfl (fun K hK => ?_); (first | (refine op_box _ _ rfl H (fun b w' H1 => hK _ _ ?_)) | (refine op_alloc _ rfl (zero_of _ _ rfl) H (fun b w' H1 => hK _ _ ?_)) | (refine op_store _ _ _ rfl rfl rfl H (by repeat (first | exact Split.here _ _ | apply Split.there)) (by kernel_rfl) (by kernel_rfl) (by kernel_rfl) (fun w' H1 => hK _ _ ?_)) | (refine op_buildSlice_all _ _ _ rfl (by first | exact elem22 | exact elem39 | exact elem76 | exact elem154) (by kernel_rfl) (by kernel_rfl) (by kernel_rfl) H (fun b w' H1 => hK _ _ ?_))); clear hK K; replace H := H1; clear H1)); (try clear hc); (try simp only [nrm, splice, Value.cells, Nat.reduceAdd, Act.eval, Act.put] at H); have hc := H.cells; simp only [CellsOf, KnCells, knc, Nat.reduceAdd] at hc))) | go_values | go_skip | go_guarded | go_step | go_upon | go_back | dsimp only)
  exact bodyPost_ret (v := .agg #[.int .i64 3, .string ByteArray.empty, .string ByteArray.empty, .bool false, .bool false, .string ByteArray.empty]) (by simp [results, Tryd.results20, go_sem, hc, Act.put]; try rfl) rfl ⟨rfl, H.ext⟩
set_option maxRecDepth 10000 in
theorem downCancel_ok (d : VD) (hhd : d.hd = true) (hdn : d.dn = true) (w : World) (H : St [] w w [genv]) :
    Calls Tryd.prog 20 #[d.val] w fun e w' => e = .returned (Vo.val ⟨0, ByteArray.empty, ByteArray.empty, true, false, ByteArray.empty⟩) ∧ Ext [] w w' := by
  obtain ⟨cl, st, tg, dn, hd, at', n, cap⟩ := d
  simp only at hhd hdn
  subst hhd hdn
  have hc := H.cells; simp only [CellsOf, KnCells, knc, Nat.reduceAdd] at hc
  go_enter Tryd.func20, Tryd.ntmps20
  repeat' (first | (go_big_may; (first
    | go_skip
    | ((first
        | (go_at_call 38; refine Calls.mono (newMan _ _) ?_; rintro e w' ⟨p, rfl, H'⟩; replace H := H.merge (by first | exact Strikes.nil _ | (repeat (first | exact Strikes.nil _ | (apply Strikes.cons; focus (repeat (first | exact Split.here _ _ | apply Split.there)))))) H' rfl; clear H')
        | (go_at_call 40; refine Calls.mono (bg_calls _) ?_; rintro e w' ⟨T, v, rfl, H'⟩; replace H := H.of_ext H'; clear H')
        | (go_at_call 39; refine Calls.mono (mCancel_ok ⟨cl, st, tg, true, true, at', n, cap⟩ rfl rfl _ _ vo0 _ _ _ (H.pick (by repeat (first | exact Picks.nil _ | (apply Picks.wr; focus (repeat (first | exact Split.here _ _ | apply Split.there))) | (apply Picks.rd; focus (repeat (first | exact Split.here _ _ | apply Split.there))))))) ?_; rintro e w' ⟨rfl, H'⟩; replace H := H.merge (by first | exact Strikes.nil _ | (repeat (first | exact Strikes.nil _ | (apply Strikes.cons; focus (repeat (first | exact Split.here _ _ | apply Split.there)))))) H' rfl; clear H')
        | (go_at_call 34; refine Calls.mono (voteKind_nil _) ?_; rintro e w' ⟨rfl, H'⟩; replace H := H.of_ext H'; clear H')
        | (refine loud_ rfl ?_; refine wpList_plain rfl (fun K hK => ?_); (first | (refine op_box _ _ rfl H (fun b w' H1 => hK _ _ ?_)) | (refine op_alloc _ rfl (zero_of _ _ rfl) H (fun b w' H1 => hK _ _ ?_)) | (refine op_store _ _ _ rfl rfl rfl H (by repeat (first | exact Split.here _ _ | apply Split.there)) (by kernel_rfl) (by kernel_rfl) (by kernel_rfl) (fun w' H1 => hK _ _ ?_)) | (refine op_buildSlice_all _ _ _ rfl (by first | exact elem22 | exact elem39 | exact elem76 | exact elem154) (by kernel_rfl) (by kernel_rfl) (by kernel_rfl) H (fun b w' H1 => hK _ _ ?_))); clear hK K; replace H := H1; clear H1)); (try clear hc); (try simp only [nrm, splice, Value.cells, Nat.reduceAdd, Act.eval, Act.put] at H); have hc := H.cells; simp only [CellsOf, KnCells, knc, Nat.reduceAdd] at hc))) | go_values | go_skip | go_guarded | go_step | go_upon | go_back | dsimp only)
  exact bodyPost_ret (v := .agg #[.int .i64 0, .string ByteArray.empty, .string ByteArray.empty, .bool true, .bool false, .string ByteArray.empty]) (by simp [results, Tryd.results20, go_sem, hc, Act.put]; try rfl) rfl ⟨rfl, H.ext⟩
end Go.Proofs.YtdcijhdjddiboaaDoor
