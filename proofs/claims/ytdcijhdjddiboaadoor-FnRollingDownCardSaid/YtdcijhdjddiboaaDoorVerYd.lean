import Derived.Test.YtdcijhdjddiboaaDoorVerYc
-- MORE
namespace Go.Proofs.YtdcijhdjddiboaaDoor
set_option linter.unusedVariables false
set_option linter.unusedSimpArgs false
set_option linter.unnecessarySimpa false
open Go.RowKit Go.V

set_option maxRecDepth 10000 in
theorem downVal_no (d : VD) (t : Vr) (hcv : Hid (VOpt d.cl none)) (w : World) (H : St [] w w [genv]) :
    Calls Tryd.prog 28 #[d.val, t.val] w fun e w' => e = .returned (Vo.val ⟨98, ByteArray.empty, ByteArray.empty, false, false, ByteArray.empty⟩) ∧ Ext [] w w' := by
  obtain ⟨cl, st, tg, dn, hd, at', n, cap⟩ := d
  obtain ⟨t1, t2, t3⟩ := t
  simp only at hcv
  have hc := H.cells; simp only [CellsOf, KnCells, knc, Nat.reduceAdd] at hc
  go_enter Tryd.func28, Tryd.ntmps28
  repeat' (first | (go_big_may; (first
    | go_skip
    | ((first
        | (go_at_call 43; refine Calls.mono (parses_no _ hcv _ (H.rep (R := GEnv) (by repeat (first | exact Split.here _ _ | apply Split.there))).2) ?_; rintro e w' ⟨rfl, H'⟩; replace H := H.of_ext H'; clear H')
        | (refine loud_ rfl ?_; refine wpList_plain rfl (fun K hK => ?_); (first | (refine op_box _ _ rfl H (fun b w' H1 => hK _ _ ?_)) | (refine op_alloc _ rfl (zero_of _ _ rfl) H (fun b w' H1 => hK _ _ ?_)) | (refine op_store _ _ _ rfl rfl rfl H (by repeat (first | exact Split.here _ _ | apply Split.there)) (by kernel_rfl) (by kernel_rfl) (by kernel_rfl) (fun w' H1 => hK _ _ ?_)) | (refine op_buildSlice_all _ _ _ rfl (by first | exact elem22 | exact elem39 | exact elem76 | exact elem154) (by kernel_rfl) (by kernel_rfl) (by kernel_rfl) H (fun b w' H1 => hK _ _ ?_))); clear hK K; replace H := H1; clear H1)); (try clear hc); (try simp only [nrm, splice, Value.cells, Nat.reduceAdd, Act.eval, Act.put] at H); have hc := H.cells; simp only [CellsOf, KnCells, knc, Nat.reduceAdd] at hc))) | go_values | go_skip | go_guarded | go_step | go_upon | go_back | dsimp only)
  exact bodyPost_ret (v := .agg #[.int .i64 98, .string ByteArray.empty, .string ByteArray.empty, .bool false, .bool false, .string ByteArray.empty]) (by simp [results, Tryd.results28, go_sem, hc, Act.put]; try rfl) rfl ⟨rfl, H.ext⟩
set_option maxRecDepth 10000 in
theorem downVal_bad (d : VD) (t : Vr) (c : Vr) (hcv : Hid (VText d.cl c)) (heq : Hid (veq t (vprev c) = false))  (w : World) (H : St [] w w [genv]) :
    Calls Tryd.prog 28 #[d.val, t.val] w fun e w' => e = .returned (Vo.val ⟨1, ByteArray.empty, ByteArray.empty, false, false, ByteArray.empty⟩) ∧ Ext [] w w' := by
  obtain ⟨cl, st, tg, dn, hd, at', n, cap⟩ := d
  obtain ⟨t1, t2, t3⟩ := t
  have hc := H.cells; simp only [CellsOf, KnCells, knc, Nat.reduceAdd] at hc
  go_enter Tryd.func28, Tryd.ntmps28
  repeat' (first | (go_big_may; (first
    | go_skip
    | ((first
        | (go_at_call 43; refine Calls.mono (parses_ok _ c hcv _) ?_; rintro e w' ⟨rfl, H'⟩; replace H := H.of_ext H'; clear H')
        | (go_at_call 44; refine Calls.mono (verIn_calls ⟨t1, t2, t3⟩ _) ?_; rintro e w' ⟨rfl, H'⟩; replace H := H.of_ext H'; clear H')
        | (go_at_call 38; refine Calls.mono (newMan _ _) ?_; rintro e w' ⟨p, rfl, H'⟩; replace H := H.merge (by first | exact Strikes.nil _ | (repeat (first | exact Strikes.nil _ | (apply Strikes.cons; focus (repeat (first | exact Split.here _ _ | apply Split.there)))))) H' rfl; clear H')
        | (go_at_call 40; refine Calls.mono (bg_calls _) ?_; rintro e w' ⟨T, v, rfl, H'⟩; replace H := H.of_ext H'; clear H')
        | (go_at_call 46; refine Calls.mono (mVal_bad ⟨cl, st, tg, dn, hd, at', n, cap⟩ c ⟨t1, t2, t3⟩ hcv heq  _ _ _ vo0 _ _ (H.pick (by repeat (first | exact Picks.nil _ | (apply Picks.wr; focus (repeat (first | exact Split.here _ _ | apply Split.there))) | (apply Picks.rd; focus (repeat (first | exact Split.here _ _ | apply Split.there))))))) ?_; rintro e w' ⟨rfl, H'⟩; replace H := H.of_ext H'; clear H')
        | (go_at_call 34; refine Calls.mono (voteKind_target _) ?_; rintro e w' ⟨rfl, H'⟩; replace H := H.of_ext H'; clear H')
        | (refine loud_ rfl ?_; refine wpList_plain rfl (fun K hK => ?_); (first | (refine op_box _ _ rfl H (fun b w' H1 => hK _ _ ?_)) | (refine op_alloc _ rfl (zero_of _ _ rfl) H (fun b w' H1 => hK _ _ ?_)) | (refine op_store _ _ _ rfl rfl rfl H (by repeat (first | exact Split.here _ _ | apply Split.there)) (by kernel_rfl) (by kernel_rfl) (by kernel_rfl) (fun w' H1 => hK _ _ ?_)) | (refine op_buildSlice_all _ _ _ rfl (by first | exact elem22 | exact elem39 | exact elem76 | exact elem154) (by kernel_rfl) (by kernel_rfl) (by kernel_rfl) H (fun b w' H1 => hK _ _ ?_))); clear hK K; replace H := H1; clear H1)); (try clear hc); (try simp only [nrm, splice, Value.cells, Nat.reduceAdd, Act.eval, Act.put] at H); have hc := H.cells; simp only [CellsOf, KnCells, knc, Nat.reduceAdd] at hc))) | go_values | go_skip | go_guarded | go_step | go_upon | go_back | dsimp only)
  exact bodyPost_ret (v := .agg #[.int .i64 1, .string ByteArray.empty, .string ByteArray.empty, .bool false, .bool false, .string ByteArray.empty]) (by simp [results, Tryd.results28, go_sem, hc, Act.put]; try rfl) rfl ⟨rfl, H.ext⟩
set_option maxRecDepth 10000 in
theorem downVal_job (d : VD) (t : Vr) (c : Vr) (hcv : Hid (VText d.cl c)) (heq : Hid (veq t (vprev c) = true)) (hhd : d.hd = true) (hdn : d.dn = true) (w : World) (H : St [] w w [genv]) :
    Calls Tryd.prog 28 #[d.val, t.val] w fun e w' => e = .returned (Vo.val ⟨2, ByteArray.empty, ByteArray.empty, false, false, ByteArray.empty⟩) ∧ Ext [] w w' := by
  obtain ⟨cl, st, tg, dn, hd, at', n, cap⟩ := d
  obtain ⟨t1, t2, t3⟩ := t
  simp only at hhd hdn hcv
  subst hhd hdn
  have hc := H.cells; simp only [CellsOf, KnCells, knc, Nat.reduceAdd] at hc
  go_enter Tryd.func28, Tryd.ntmps28
  repeat' (first | (go_big_may; (first
    | go_skip
    | ((first
        | (go_at_call 43; refine Calls.mono (parses_ok _ c hcv _) ?_; rintro e w' ⟨rfl, H'⟩; replace H := H.of_ext H'; clear H')
        | (go_at_call 44; refine Calls.mono (verIn_calls ⟨t1, t2, t3⟩ _) ?_; rintro e w' ⟨rfl, H'⟩; replace H := H.of_ext H'; clear H')
        | (go_at_call 38; refine Calls.mono (newMan _ _) ?_; rintro e w' ⟨p, rfl, H'⟩; replace H := H.merge (by first | exact Strikes.nil _ | (repeat (first | exact Strikes.nil _ | (apply Strikes.cons; focus (repeat (first | exact Split.here _ _ | apply Split.there)))))) H' rfl; clear H')
        | (go_at_call 40; refine Calls.mono (bg_calls _) ?_; rintro e w' ⟨T, v, rfl, H'⟩; replace H := H.of_ext H'; clear H')
        | (go_at_call 46; refine Calls.mono (mVal_job ⟨cl, st, tg, true, true, at', n, cap⟩ c ⟨t1, t2, t3⟩ hcv heq rfl rfl  _ _ _ vo0 _ _ (H.pick (by repeat (first | exact Picks.nil _ | (apply Picks.wr; focus (repeat (first | exact Split.here _ _ | apply Split.there))) | (apply Picks.rd; focus (repeat (first | exact Split.here _ _ | apply Split.there))))))) ?_; rintro e w' ⟨rfl, H'⟩; replace H := H.of_ext H'; clear H')
        | (go_at_call 34; refine Calls.mono (voteKind_job _) ?_; rintro e w' ⟨rfl, H'⟩; replace H := H.of_ext H'; clear H')
        | (refine loud_ rfl ?_; refine wpList_plain rfl (fun K hK => ?_); (first | (refine op_box _ _ rfl H (fun b w' H1 => hK _ _ ?_)) | (refine op_alloc _ rfl (zero_of _ _ rfl) H (fun b w' H1 => hK _ _ ?_)) | (refine op_store _ _ _ rfl rfl rfl H (by repeat (first | exact Split.here _ _ | apply Split.there)) (by kernel_rfl) (by kernel_rfl) (by kernel_rfl) (fun w' H1 => hK _ _ ?_)) | (refine op_buildSlice_all _ _ _ rfl (by first | exact elem22 | exact elem39 | exact elem76 | exact elem154) (by kernel_rfl) (by kernel_rfl) (by kernel_rfl) H (fun b w' H1 => hK _ _ ?_))); clear hK K; replace H := H1; clear H1)); (try clear hc); (try simp only [nrm, splice, Value.cells, Nat.reduceAdd, Act.eval, Act.put] at H); have hc := H.cells; simp only [CellsOf, KnCells, knc, Nat.reduceAdd] at hc))) | go_values | go_skip | go_guarded | go_step | go_upon | go_back | dsimp only)
  exact bodyPost_ret (v := .agg #[.int .i64 2, .string ByteArray.empty, .string ByteArray.empty, .bool false, .bool false, .string ByteArray.empty]) (by simp [results, Tryd.results28, go_sem, hc, Act.put]; try rfl) rfl ⟨rfl, H.ext⟩
set_option maxRecDepth 10000 in
theorem downVal_oka (d : VD) (t : Vr) (c : Vr) (hcv : Hid (VText d.cl c)) (heq : Hid (veq t (vprev c) = true)) (hhd : d.hd = false) (w : World) (H : St [] w w [genv]) :
    Calls Tryd.prog 28 #[d.val, t.val] w fun e w' => e = .returned (Vo.val ⟨0, ByteArray.empty, ByteArray.empty, false, false, ByteArray.empty⟩) ∧ Ext [] w w' := by
  obtain ⟨cl, st, tg, dn, hd, at', n, cap⟩ := d
  obtain ⟨t1, t2, t3⟩ := t
  simp only at hhd hcv
  subst hhd
  have hc := H.cells; simp only [CellsOf, KnCells, knc, Nat.reduceAdd] at hc
  go_enter Tryd.func28, Tryd.ntmps28
  repeat' (first | (go_big_may; (first
    | go_skip
    | ((first
        | (go_at_call 43; refine Calls.mono (parses_ok _ c hcv _) ?_; rintro e w' ⟨rfl, H'⟩; replace H := H.of_ext H'; clear H')
        | (go_at_call 44; refine Calls.mono (verIn_calls ⟨t1, t2, t3⟩ _) ?_; rintro e w' ⟨rfl, H'⟩; replace H := H.of_ext H'; clear H')
        | (go_at_call 38; refine Calls.mono (newMan _ _) ?_; rintro e w' ⟨p, rfl, H'⟩; replace H := H.merge (by first | exact Strikes.nil _ | (repeat (first | exact Strikes.nil _ | (apply Strikes.cons; focus (repeat (first | exact Split.here _ _ | apply Split.there)))))) H' rfl; clear H')
        | (go_at_call 40; refine Calls.mono (bg_calls _) ?_; rintro e w' ⟨T, v, rfl, H'⟩; replace H := H.of_ext H'; clear H')
        | (go_at_call 46; refine Calls.mono (mVal_oka ⟨cl, st, tg, dn, false, at', n, cap⟩ c ⟨t1, t2, t3⟩ hcv heq rfl  _ _ _ vo0 _ _ (H.pick (by repeat (first | exact Picks.nil _ | (apply Picks.wr; focus (repeat (first | exact Split.here _ _ | apply Split.there))) | (apply Picks.rd; focus (repeat (first | exact Split.here _ _ | apply Split.there))))))) ?_; rintro e w' ⟨rfl, H'⟩; replace H := H.of_ext H'; clear H')
        | (go_at_call 34; refine Calls.mono (voteKind_nil _) ?_; rintro e w' ⟨rfl, H'⟩; replace H := H.of_ext H'; clear H')
        | (refine loud_ rfl ?_; refine wpList_plain rfl (fun K hK => ?_); (first | (refine op_box _ _ rfl H (fun b w' H1 => hK _ _ ?_)) | (refine op_alloc _ rfl (zero_of _ _ rfl) H (fun b w' H1 => hK _ _ ?_)) | (refine op_store _ _ _ rfl rfl rfl H (by repeat (first | exact Split.here _ _ | apply Split.there)) (by kernel_rfl) (by kernel_rfl) (by kernel_rfl) (fun w' H1 => hK _ _ ?_)) | (refine op_buildSlice_all _ _ _ rfl (by first | exact elem22 | exact elem39 | exact elem76 | exact elem154) (by kernel_rfl) (by kernel_rfl) (by kernel_rfl) H (fun b w' H1 => hK _ _ ?_))); clear hK K; replace H := H1; clear H1)); (try clear hc); (try simp only [nrm, splice, Value.cells, Nat.reduceAdd, Act.eval, Act.put] at H); have hc := H.cells; simp only [CellsOf, KnCells, knc, Nat.reduceAdd] at hc))) | go_values | go_skip | go_guarded | go_step | go_upon | go_back | dsimp only)
  exact bodyPost_ret (v := .agg #[.int .i64 0, .string ByteArray.empty, .string ByteArray.empty, .bool false, .bool false, .string ByteArray.empty]) (by simp [results, Tryd.results28, go_sem, hc, Act.put]; try rfl) rfl ⟨rfl, H.ext⟩
set_option maxRecDepth 10000 in
theorem downVal_okb (d : VD) (t : Vr) (c : Vr) (hcv : Hid (VText d.cl c)) (heq : Hid (veq t (vprev c) = true)) (hhd : d.hd = true) (hdn : d.dn = false) (w : World) (H : St [] w w [genv]) :
    Calls Tryd.prog 28 #[d.val, t.val] w fun e w' => e = .returned (Vo.val ⟨0, ByteArray.empty, ByteArray.empty, false, false, ByteArray.empty⟩) ∧ Ext [] w w' := by
  obtain ⟨cl, st, tg, dn, hd, at', n, cap⟩ := d
  obtain ⟨t1, t2, t3⟩ := t
  simp only at hhd hdn hcv
  subst hhd hdn
  have hc := H.cells; simp only [CellsOf, KnCells, knc, Nat.reduceAdd] at hc
  go_enter Tryd.func28, Tryd.ntmps28
  repeat' (first | (go_big_may; (first
    | go_skip
    | ((first
        | (go_at_call 43; refine Calls.mono (parses_ok _ c hcv _) ?_; rintro e w' ⟨rfl, H'⟩; replace H := H.of_ext H'; clear H')
        | (go_at_call 44; refine Calls.mono (verIn_calls ⟨t1, t2, t3⟩ _) ?_; rintro e w' ⟨rfl, H'⟩; replace H := H.of_ext H'; clear H')
        | (go_at_call 38; refine Calls.mono (newMan _ _) ?_; rintro e w' ⟨p, rfl, H'⟩; replace H := H.merge (by first | exact Strikes.nil _ | (repeat (first | exact Strikes.nil _ | (apply Strikes.cons; focus (repeat (first | exact Split.here _ _ | apply Split.there)))))) H' rfl; clear H')
        | (go_at_call 40; refine Calls.mono (bg_calls _) ?_; rintro e w' ⟨T, v, rfl, H'⟩; replace H := H.of_ext H'; clear H')
        | (go_at_call 46; refine Calls.mono (mVal_okb ⟨cl, st, tg, false, true, at', n, cap⟩ c ⟨t1, t2, t3⟩ hcv heq rfl rfl  _ _ _ vo0 _ _ (H.pick (by repeat (first | exact Picks.nil _ | (apply Picks.wr; focus (repeat (first | exact Split.here _ _ | apply Split.there))) | (apply Picks.rd; focus (repeat (first | exact Split.here _ _ | apply Split.there))))))) ?_; rintro e w' ⟨rfl, H'⟩; replace H := H.of_ext H'; clear H')
        | (go_at_call 34; refine Calls.mono (voteKind_nil _) ?_; rintro e w' ⟨rfl, H'⟩; replace H := H.of_ext H'; clear H')
        | (refine loud_ rfl ?_; refine wpList_plain rfl (fun K hK => ?_); (first | (refine op_box _ _ rfl H (fun b w' H1 => hK _ _ ?_)) | (refine op_alloc _ rfl (zero_of _ _ rfl) H (fun b w' H1 => hK _ _ ?_)) | (refine op_store _ _ _ rfl rfl rfl H (by repeat (first | exact Split.here _ _ | apply Split.there)) (by kernel_rfl) (by kernel_rfl) (by kernel_rfl) (fun w' H1 => hK _ _ ?_)) | (refine op_buildSlice_all _ _ _ rfl (by first | exact elem22 | exact elem39 | exact elem76 | exact elem154) (by kernel_rfl) (by kernel_rfl) (by kernel_rfl) H (fun b w' H1 => hK _ _ ?_))); clear hK K; replace H := H1; clear H1)); (try clear hc); (try simp only [nrm, splice, Value.cells, Nat.reduceAdd, Act.eval, Act.put] at H); have hc := H.cells; simp only [CellsOf, KnCells, knc, Nat.reduceAdd] at hc))) | go_values | go_skip | go_guarded | go_step | go_upon | go_back | dsimp only)
  exact bodyPost_ret (v := .agg #[.int .i64 0, .string ByteArray.empty, .string ByteArray.empty, .bool false, .bool false, .string ByteArray.empty]) (by simp [results, Tryd.results28, go_sem, hc, Act.put]; try rfl) rfl ⟨rfl, H.ext⟩
set_option maxRecDepth 10000 in
theorem downEn_no (d : VD) (t : Vr) (hcv : Hid (VOpt d.cl none)) (w : World) (H : St [] w w [genv]) :
    Calls Tryd.prog 27 #[d.val, t.val] w fun e w' => e = .returned (Vo.val ⟨98, ByteArray.empty, ByteArray.empty, false, false, ByteArray.empty⟩) ∧ Ext [] w w' := by
  obtain ⟨cl, st, tg, dn, hd, at', n, cap⟩ := d
  obtain ⟨t1, t2, t3⟩ := t
  simp only at hcv
  have hc := H.cells; simp only [CellsOf, KnCells, knc, Nat.reduceAdd] at hc
  go_enter Tryd.func27, Tryd.ntmps27
  repeat' (first | (go_big_may; (first
    | go_skip
    | ((first
        | (go_at_call 43; refine Calls.mono (parses_no _ hcv _ (H.rep (R := GEnv) (by repeat (first | exact Split.here _ _ | apply Split.there))).2) ?_; rintro e w' ⟨rfl, H'⟩; replace H := H.of_ext H'; clear H')
        | (refine loud_ rfl ?_; refine wpList_plain rfl (fun K hK => ?_); (first | (refine op_box _ _ rfl H (fun b w' H1 => hK _ _ ?_)) | (refine op_alloc _ rfl (zero_of _ _ rfl) H (fun b w' H1 => hK _ _ ?_)) | (refine op_store _ _ _ rfl rfl rfl H (by repeat (first | exact Split.here _ _ | apply Split.there)) (by kernel_rfl) (by kernel_rfl) (by kernel_rfl) (fun w' H1 => hK _ _ ?_)) | (refine op_buildSlice_all _ _ _ rfl (by first | exact elem22 | exact elem39 | exact elem76 | exact elem154) (by kernel_rfl) (by kernel_rfl) (by kernel_rfl) H (fun b w' H1 => hK _ _ ?_))); clear hK K; replace H := H1; clear H1)); (try clear hc); (try simp only [nrm, splice, Value.cells, Nat.reduceAdd, Act.eval, Act.put] at H); have hc := H.cells; simp only [CellsOf, KnCells, knc, Nat.reduceAdd] at hc))) | go_values | go_skip | go_guarded | go_step | go_upon | go_back | dsimp only)
  exact bodyPost_ret (v := .agg #[.int .i64 98, .string ByteArray.empty, .string ByteArray.empty, .bool false, .bool false, .string ByteArray.empty]) (by simp [results, Tryd.results27, go_sem, hc, Act.put]; try rfl) rfl ⟨rfl, H.ext⟩
set_option maxRecDepth 10000 in
theorem downEn_bad (d : VD) (t : Vr) (c : Vr) (hcv : Hid (VText d.cl c)) (htk : Hid t.Ok) (heq : Hid (veq t (vprev c) = false))  (w : World) (H : St [] w w [genv]) :
    Calls Tryd.prog 27 #[d.val, t.val] w fun e w' => e = .returned (Vo.val ⟨1, ByteArray.empty, ByteArray.empty, false, false, ByteArray.empty⟩) ∧ Ext [] w w' := by
  obtain ⟨cl, st, tg, dn, hd, at', n, cap⟩ := d
  obtain ⟨t1, t2, t3⟩ := t
  have hc := H.cells; simp only [CellsOf, KnCells, knc, Nat.reduceAdd] at hc
  go_enter Tryd.func27, Tryd.ntmps27
  repeat' (first | (go_big_may; (first
    | go_skip
    | ((first
        | (go_at_call 43; refine Calls.mono (parses_ok _ c hcv _) ?_; rintro e w' ⟨rfl, H'⟩; replace H := H.of_ext H'; clear H')
        | (go_at_call 44; refine Calls.mono (verIn_calls ⟨t1, t2, t3⟩ _) ?_; rintro e w' ⟨rfl, H'⟩; replace H := H.of_ext H'; clear H')
        | (go_at_call 38; refine Calls.mono (newMan _ _) ?_; rintro e w' ⟨p, rfl, H'⟩; replace H := H.merge (by first | exact Strikes.nil _ | (repeat (first | exact Strikes.nil _ | (apply Strikes.cons; focus (repeat (first | exact Split.here _ _ | apply Split.there)))))) H' rfl; clear H')
        | (go_at_call 40; refine Calls.mono (bg_calls _) ?_; rintro e w' ⟨T, v, rfl, H'⟩; replace H := H.of_ext H'; clear H')
        | (go_at_call 45; refine Calls.mono (mEn_bad ⟨cl, st, tg, dn, hd, at', n, cap⟩ c ⟨t1, t2, t3⟩ hcv htk heq  _ _ _ vo0 _ _ _ (H.pick (by repeat (first | exact Picks.nil _ | (apply Picks.wr; focus (repeat (first | exact Split.here _ _ | apply Split.there))) | (apply Picks.rd; focus (repeat (first | exact Split.here _ _ | apply Split.there))))))) ?_; rintro e w' ⟨rfl, H'⟩; replace H := H.merge (by first | exact Strikes.nil _ | (repeat (first | exact Strikes.nil _ | (apply Strikes.cons; focus (repeat (first | exact Split.here _ _ | apply Split.there)))))) H' rfl; clear H')
        | (go_at_call 34; refine Calls.mono (voteKind_target _) ?_; rintro e w' ⟨rfl, H'⟩; replace H := H.of_ext H'; clear H')
        | (refine loud_ rfl ?_; refine wpList_plain rfl (fun K hK => ?_); (first | (refine op_box _ _ rfl H (fun b w' H1 => hK _ _ ?_)) | (refine op_alloc _ rfl (zero_of _ _ rfl) H (fun b w' H1 => hK _ _ ?_)) | (refine op_store _ _ _ rfl rfl rfl H (by repeat (first | exact Split.here _ _ | apply Split.there)) (by kernel_rfl) (by kernel_rfl) (by kernel_rfl) (fun w' H1 => hK _ _ ?_)) | (refine op_buildSlice_all _ _ _ rfl (by first | exact elem22 | exact elem39 | exact elem76 | exact elem154) (by kernel_rfl) (by kernel_rfl) (by kernel_rfl) H (fun b w' H1 => hK _ _ ?_))); clear hK K; replace H := H1; clear H1)); (try clear hc); (try simp only [nrm, splice, Value.cells, Nat.reduceAdd, Act.eval, Act.put] at H); have hc := H.cells; simp only [CellsOf, KnCells, knc, Nat.reduceAdd] at hc))) | go_values | go_skip | go_guarded | go_step | go_upon | go_back | dsimp only)
  exact bodyPost_ret (v := .agg #[.int .i64 1, .string ByteArray.empty, .string ByteArray.empty, .bool false, .bool false, .string ByteArray.empty]) (by simp [results, Tryd.results27, go_sem, hc, Act.put]; try rfl) rfl ⟨rfl, H.ext⟩
set_option maxRecDepth 10000 in
theorem downEn_job (d : VD) (t : Vr) (c : Vr) (hcv : Hid (VText d.cl c)) (htk : Hid t.Ok) (heq : Hid (veq t (vprev c) = true)) (hhd : d.hd = true) (hdn : d.dn = true) (w : World) (H : St [] w w [genv]) :
    Calls Tryd.prog 27 #[d.val, t.val] w fun e w' => e = .returned (Vo.val ⟨2, ByteArray.empty, ByteArray.empty, false, false, ByteArray.empty⟩) ∧ Ext [] w w' := by
  obtain ⟨cl, st, tg, dn, hd, at', n, cap⟩ := d
  obtain ⟨t1, t2, t3⟩ := t
  simp only at hhd hdn hcv
  subst hhd hdn
  have hc := H.cells; simp only [CellsOf, KnCells, knc, Nat.reduceAdd] at hc
  go_enter Tryd.func27, Tryd.ntmps27
  repeat' (first | (go_big_may; (first
    | go_skip
    | ((first
        | (go_at_call 43; refine Calls.mono (parses_ok _ c hcv _) ?_; rintro e w' ⟨rfl, H'⟩; replace H := H.of_ext H'; clear H')
        | (go_at_call 44; refine Calls.mono (verIn_calls ⟨t1, t2, t3⟩ _) ?_; rintro e w' ⟨rfl, H'⟩; replace H := H.of_ext H'; clear H')
        | (go_at_call 38; refine Calls.mono (newMan _ _) ?_; rintro e w' ⟨p, rfl, H'⟩; replace H := H.merge (by first | exact Strikes.nil _ | (repeat (first | exact Strikes.nil _ | (apply Strikes.cons; focus (repeat (first | exact Split.here _ _ | apply Split.there)))))) H' rfl; clear H')
        | (go_at_call 40; refine Calls.mono (bg_calls _) ?_; rintro e w' ⟨T, v, rfl, H'⟩; replace H := H.of_ext H'; clear H')
        | (go_at_call 45; refine Calls.mono (mEn_job ⟨cl, st, tg, true, true, at', n, cap⟩ c ⟨t1, t2, t3⟩ hcv htk heq (Lib.hid rfl) (Lib.hid rfl) _ _ _ vo0 _ _ _ (H.pick (by repeat (first | exact Picks.nil _ | (apply Picks.wr; focus (repeat (first | exact Split.here _ _ | apply Split.there))) | (apply Picks.rd; focus (repeat (first | exact Split.here _ _ | apply Split.there))))))) ?_; rintro e w' ⟨rfl, H'⟩; replace H := H.merge (by first | exact Strikes.nil _ | (repeat (first | exact Strikes.nil _ | (apply Strikes.cons; focus (repeat (first | exact Split.here _ _ | apply Split.there)))))) H' rfl; clear H')
        | (go_at_call 34; refine Calls.mono (voteKind_job _) ?_; rintro e w' ⟨rfl, H'⟩; replace H := H.of_ext H'; clear H')
        | (refine loud_ rfl ?_; refine wpList_plain rfl (fun K hK => ?_); (first | (refine op_box _ _ rfl H (fun b w' H1 => hK _ _ ?_)) | (refine op_alloc _ rfl (zero_of _ _ rfl) H (fun b w' H1 => hK _ _ ?_)) | (refine op_store _ _ _ rfl rfl rfl H (by repeat (first | exact Split.here _ _ | apply Split.there)) (by kernel_rfl) (by kernel_rfl) (by kernel_rfl) (fun w' H1 => hK _ _ ?_)) | (refine op_buildSlice_all _ _ _ rfl (by first | exact elem22 | exact elem39 | exact elem76 | exact elem154) (by kernel_rfl) (by kernel_rfl) (by kernel_rfl) H (fun b w' H1 => hK _ _ ?_))); clear hK K; replace H := H1; clear H1)); (try clear hc); (try simp only [nrm, splice, Value.cells, Nat.reduceAdd, Act.eval, Act.put] at H); have hc := H.cells; simp only [CellsOf, KnCells, knc, Nat.reduceAdd] at hc))) | go_values | go_skip | go_guarded | go_step | go_upon | go_back | dsimp only)
  exact bodyPost_ret (v := .agg #[.int .i64 2, .string ByteArray.empty, .string ByteArray.empty, .bool false, .bool false, .string ByteArray.empty]) (by simp [results, Tryd.results27, go_sem, hc, Act.put]; try rfl) rfl ⟨rfl, H.ext⟩
set_option maxRecDepth 10000 in
theorem downEn_oka (d : VD) (t : Vr) (c : Vr) (hcv : Hid (VText d.cl c)) (htk : Hid t.Ok) (heq : Hid (veq t (vprev c) = true)) (hhd : d.hd = false) (w : World) (H : St [] w w [genv]) :
    Calls Tryd.prog 27 #[d.val, t.val] w fun e w' => e = .returned (Vo.val ⟨0, ByteArray.empty, ByteArray.empty, false, true, vstr t⟩) ∧ Ext [] w w' := by
  obtain ⟨cl, st, tg, dn, hd, at', n, cap⟩ := d
  obtain ⟨t1, t2, t3⟩ := t
  simp only at hhd hcv
  subst hhd
  have hc := H.cells; simp only [CellsOf, KnCells, knc, Nat.reduceAdd] at hc
  go_enter Tryd.func27, Tryd.ntmps27
  repeat' (first | (go_big_may; (first
    | go_skip
    | ((first
        | (go_at_call 43; refine Calls.mono (parses_ok _ c hcv _) ?_; rintro e w' ⟨rfl, H'⟩; replace H := H.of_ext H'; clear H')
        | (go_at_call 44; refine Calls.mono (verIn_calls ⟨t1, t2, t3⟩ _) ?_; rintro e w' ⟨rfl, H'⟩; replace H := H.of_ext H'; clear H')
        | (go_at_call 38; refine Calls.mono (newMan _ _) ?_; rintro e w' ⟨p, rfl, H'⟩; replace H := H.merge (by first | exact Strikes.nil _ | (repeat (first | exact Strikes.nil _ | (apply Strikes.cons; focus (repeat (first | exact Split.here _ _ | apply Split.there)))))) H' rfl; clear H')
        | (go_at_call 40; refine Calls.mono (bg_calls _) ?_; rintro e w' ⟨T, v, rfl, H'⟩; replace H := H.of_ext H'; clear H')
        | (go_at_call 45; refine Calls.mono (mEn_oka ⟨cl, st, tg, dn, false, at', n, cap⟩ c ⟨t1, t2, t3⟩ hcv htk heq (Lib.hid rfl) _ _ _ vo0 _ _ _ (H.pick (by repeat (first | exact Picks.nil _ | (apply Picks.wr; focus (repeat (first | exact Split.here _ _ | apply Split.there))) | (apply Picks.rd; focus (repeat (first | exact Split.here _ _ | apply Split.there))))))) ?_; rintro e w' ⟨rfl, H'⟩; replace H := H.merge (by first | exact Strikes.nil _ | (repeat (first | exact Strikes.nil _ | (apply Strikes.cons; focus (repeat (first | exact Split.here _ _ | apply Split.there)))))) H' rfl; clear H')
        | (go_at_call 34; refine Calls.mono (voteKind_nil _) ?_; rintro e w' ⟨rfl, H'⟩; replace H := H.of_ext H'; clear H')
        | (refine loud_ rfl ?_; refine wpList_plain rfl (fun K hK => ?_); (first | (refine op_box _ _ rfl H (fun b w' H1 => hK _ _ ?_)) | (refine op_alloc _ rfl (zero_of _ _ rfl) H (fun b w' H1 => hK _ _ ?_)) | (refine op_store _ _ _ rfl rfl rfl H (by repeat (first | exact Split.here _ _ | apply Split.there)) (by kernel_rfl) (by kernel_rfl) (by kernel_rfl) (fun w' H1 => hK _ _ ?_)) | (refine op_buildSlice_all _ _ _ rfl (by first | exact elem22 | exact elem39 | exact elem76 | exact elem154) (by kernel_rfl) (by kernel_rfl) (by kernel_rfl) H (fun b w' H1 => hK _ _ ?_))); clear hK K; replace H := H1; clear H1)); (try clear hc); (try simp only [nrm, splice, Value.cells, Nat.reduceAdd, Act.eval, Act.put] at H); have hc := H.cells; simp only [CellsOf, KnCells, knc, Nat.reduceAdd] at hc))) | go_values | go_skip | go_guarded | go_step | go_upon | go_back | dsimp only)
  exact bodyPost_ret (v := .agg #[.int .i64 0, .string ByteArray.empty, .string ByteArray.empty, .bool false, .bool true, .string (vstr ⟨t1, t2, t3⟩)]) (by simp [results, Tryd.results27, go_sem, hc, Act.put]; try rfl) rfl ⟨rfl, H.ext⟩
set_option maxRecDepth 10000 in
theorem downEn_okb (d : VD) (t : Vr) (c : Vr) (hcv : Hid (VText d.cl c)) (htk : Hid t.Ok) (heq : Hid (veq t (vprev c) = true)) (hhd : d.hd = true) (hdn : d.dn = false) (w : World) (H : St [] w w [genv]) :
    Calls Tryd.prog 27 #[d.val, t.val] w fun e w' => e = .returned (Vo.val ⟨0, ByteArray.empty, ByteArray.empty, false, true, vstr t⟩) ∧ Ext [] w w' := by
  obtain ⟨cl, st, tg, dn, hd, at', n, cap⟩ := d
  obtain ⟨t1, t2, t3⟩ := t
  simp only at hhd hdn hcv
  subst hhd hdn
  have hc := H.cells; simp only [CellsOf, KnCells, knc, Nat.reduceAdd] at hc
  go_enter Tryd.func27, Tryd.ntmps27
  repeat' (first | (go_big_may; (first
    | go_skip
    | ((first
        | (go_at_call 43; refine Calls.mono (parses_ok _ c hcv _) ?_; rintro e w' ⟨rfl, H'⟩; replace H := H.of_ext H'; clear H')
        | (go_at_call 44; refine Calls.mono (verIn_calls ⟨t1, t2, t3⟩ _) ?_; rintro e w' ⟨rfl, H'⟩; replace H := H.of_ext H'; clear H')
        | (go_at_call 38; refine Calls.mono (newMan _ _) ?_; rintro e w' ⟨p, rfl, H'⟩; replace H := H.merge (by first | exact Strikes.nil _ | (repeat (first | exact Strikes.nil _ | (apply Strikes.cons; focus (repeat (first | exact Split.here _ _ | apply Split.there)))))) H' rfl; clear H')
        | (go_at_call 40; refine Calls.mono (bg_calls _) ?_; rintro e w' ⟨T, v, rfl, H'⟩; replace H := H.of_ext H'; clear H')
        | (go_at_call 45; refine Calls.mono (mEn_okb ⟨cl, st, tg, false, true, at', n, cap⟩ c ⟨t1, t2, t3⟩ hcv htk heq (Lib.hid rfl) (Lib.hid rfl) _ _ _ vo0 _ _ _ (H.pick (by repeat (first | exact Picks.nil _ | (apply Picks.wr; focus (repeat (first | exact Split.here _ _ | apply Split.there))) | (apply Picks.rd; focus (repeat (first | exact Split.here _ _ | apply Split.there))))))) ?_; rintro e w' ⟨rfl, H'⟩; replace H := H.merge (by first | exact Strikes.nil _ | (repeat (first | exact Strikes.nil _ | (apply Strikes.cons; focus (repeat (first | exact Split.here _ _ | apply Split.there)))))) H' rfl; clear H')
        | (go_at_call 34; refine Calls.mono (voteKind_nil _) ?_; rintro e w' ⟨rfl, H'⟩; replace H := H.of_ext H'; clear H')
        | (refine loud_ rfl ?_; refine wpList_plain rfl (fun K hK => ?_); (first | (refine op_box _ _ rfl H (fun b w' H1 => hK _ _ ?_)) | (refine op_alloc _ rfl (zero_of _ _ rfl) H (fun b w' H1 => hK _ _ ?_)) | (refine op_store _ _ _ rfl rfl rfl H (by repeat (first | exact Split.here _ _ | apply Split.there)) (by kernel_rfl) (by kernel_rfl) (by kernel_rfl) (fun w' H1 => hK _ _ ?_)) | (refine op_buildSlice_all _ _ _ rfl (by first | exact elem22 | exact elem39 | exact elem76 | exact elem154) (by kernel_rfl) (by kernel_rfl) (by kernel_rfl) H (fun b w' H1 => hK _ _ ?_))); clear hK K; replace H := H1; clear H1)); (try clear hc); (try simp only [nrm, splice, Value.cells, Nat.reduceAdd, Act.eval, Act.put] at H); have hc := H.cells; simp only [CellsOf, KnCells, knc, Nat.reduceAdd] at hc))) | go_values | go_skip | go_guarded | go_step | go_upon | go_back | dsimp only)
  exact bodyPost_ret (v := .agg #[.int .i64 0, .string ByteArray.empty, .string ByteArray.empty, .bool false, .bool true, .string (vstr ⟨t1, t2, t3⟩)]) (by simp [results, Tryd.results27, go_sem, hc, Act.put]; try rfl) rfl ⟨rfl, H.ext⟩
end Go.Proofs.YtdcijhdjddiboaaDoor
