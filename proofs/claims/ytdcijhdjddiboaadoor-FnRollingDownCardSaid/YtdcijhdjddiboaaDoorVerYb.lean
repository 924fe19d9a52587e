import Derived.Test.YtdcijhdjddiboaaDoorVerY
-- MORE
namespace Go.Proofs.YtdcijhdjddiboaaDoor
set_option linter.unusedVariables false
set_option linter.unusedSimpArgs false
set_option linter.unnecessarySimpa false
open Go.RowKit Go.V

set_option maxRecDepth 10000 in
theorem decideCancel_no (d : VD) (ts : List ByteArray) (hS : Hid (∀ (g : Nat) (o : Vo) (w : World), ErrAt w → w.heap[g]? = some (guard d o) → Calls Tryd.prog 31 #[.pointer (some ⟨g, 0, none⟩)] w fun e w' => e = .returned (.bool false) ∧ Ext [] w w')) (w : World) (H : St [] w w [(false, .arr d.at' (strs ts)), genv]) :
    Calls Tryd.prog 22 #[d.val] w fun e w' => e = .returned (Vo.val ⟨98, ByteArray.empty, ByteArray.empty, false, false, ByteArray.empty⟩) ∧ Ext [] w w' := by
  obtain ⟨cl, st, tg, dn, hd, at', n, cap⟩ := d
  have hc := H.cells; simp only [CellsOf, KnCells, knc, Nat.reduceAdd] at hc
  go_enter Tryd.func22, Tryd.ntmps22
  repeat' (first | (go_big_may; (first
    | go_skip
    | ((first
        | (go_at_call 31; refine Calls.mono (hS.out _ vo0 _ (H.rep (R := GEnv) (by repeat (first | exact Split.here _ _ | apply Split.there))).2 (H.obj (by repeat (first | exact Split.here _ _ | apply Split.there)))) ?_; rintro e w' ⟨rfl, H'⟩; replace H := H.of_ext H'; clear H')
        | (go_at_call 32; refine Calls.mono (newMon _ _) ?_; rintro e w' ⟨p, rfl, H'⟩; replace H := H.merge (by first | exact Strikes.nil _ | (repeat (first | exact Strikes.nil _ | (apply Strikes.cons; focus (repeat (first | exact Split.here _ _ | apply Split.there)))))) H' rfl; clear H')
        | (refine loud_ rfl ?_; refine wpList_plain rfl (fun K hK => ?_); (first | (refine op_box _ _ rfl H (fun b w' H1 => hK _ _ ?_)) | (refine op_alloc _ rfl (zero_of _ _ rfl) H (fun b w' H1 => hK _ _ ?_)) | (refine op_store _ _ _ rfl rfl rfl H (by repeat (first | exact Split.here _ _ | apply Split.there)) (by kernel_rfl) (by kernel_rfl) (by kernel_rfl) (fun w' H1 => hK _ _ ?_)) | (refine op_buildSlice_all _ _ _ rfl (by first | exact elem22 | exact elem39 | exact elem76 | exact elem154) (by kernel_rfl) (by kernel_rfl) (by kernel_rfl) H (fun b w' H1 => hK _ _ ?_))); clear hK K; replace H := H1; clear H1)); (try clear hc); (try simp only [nrm, splice, Value.cells, Nat.reduceAdd, Act.eval, Act.put] at H); have hc := H.cells; simp only [CellsOf, KnCells, knc, Nat.reduceAdd] at hc))) | go_values | go_skip | go_guarded | go_step | go_upon | go_back | dsimp only)
  exact bodyPost_ret (v := .agg #[.int .i64 98, .string ByteArray.empty, .string ByteArray.empty, .bool false, .bool false, .string ByteArray.empty]) (by simp [results, Tryd.results22, go_sem, hc, Act.put]; try rfl) rfl ⟨rfl, H.ext⟩
set_option maxRecDepth 10000 in
theorem decideCancel_ok (d : VD) (o' : Vo) (ts : List ByteArray) (hS : Hid (∀ (g : Nat) (o : Vo) (w : World), ErrAt w → w.heap[g]? = some (guard d o) → Calls Tryd.prog 31 #[.pointer (some ⟨g, 0, none⟩)] w fun e w' => e = .returned (.bool true) ∧ Ext [] w w'))
    (hU : Hid (∀ (p g : Nat) (S : List Nat) (w : World), St S w w (mentsW p g d vo0 ts) →
      Calls Tryd.prog 41 #[.pointer (some ⟨p, 0, none⟩)] w fun e w' => e = .returned (.tuple #[]) ∧ St S w w' [(true, .is g (guard d o'))]))
    (w : World) (H : St [] w w [(false, .arr d.at' (strs ts)), genv]) :
    Calls Tryd.prog 22 #[d.val] w fun e w' => e = .returned o'.val ∧ Ext [] w w' := by
  obtain ⟨cl, st, tg, dn, hd, at', n, cap⟩ := d
  obtain ⟨oe, ocl, ost, oca, oen, otg⟩ := o'
  have hc := H.cells; simp only [CellsOf, KnCells, knc, Nat.reduceAdd] at hc
  go_enter Tryd.func22, Tryd.ntmps22
  repeat' (first | (go_big_may; (first
    | go_skip
    | ((first
        | (go_at_call 31; refine Calls.mono (hS.out _ vo0 _ (H.rep (R := GEnv) (by repeat (first | exact Split.here _ _ | apply Split.there))).2 (H.obj (by repeat (first | exact Split.here _ _ | apply Split.there)))) ?_; rintro e w' ⟨rfl, H'⟩; replace H := H.of_ext H'; clear H')
        | (go_at_call 32; refine Calls.mono (newMon _ _) ?_; rintro e w' ⟨p, rfl, H'⟩; replace H := H.merge (by first | exact Strikes.nil _ | (repeat (first | exact Strikes.nil _ | (apply Strikes.cons; focus (repeat (first | exact Split.here _ _ | apply Split.there)))))) H' rfl; clear H')
        | (go_at_call 41; refine Calls.mono (hU.out _ _ _ _ (H.pick (by repeat (first | exact Picks.nil _ | (apply Picks.wr; focus (repeat (first | exact Split.here _ _ | apply Split.there))) | (apply Picks.rd; focus (repeat (first | exact Split.here _ _ | apply Split.there))))))) ?_; rintro e w' ⟨rfl, H'⟩; replace H := H.merge (by first | exact Strikes.nil _ | (repeat (first | exact Strikes.nil _ | (apply Strikes.cons; focus (repeat (first | exact Split.here _ _ | apply Split.there)))))) H' rfl; clear H')
        | (refine loud_ rfl ?_; refine wpList_plain rfl (fun K hK => ?_); (first | (refine op_box _ _ rfl H (fun b w' H1 => hK _ _ ?_)) | (refine op_alloc _ rfl (zero_of _ _ rfl) H (fun b w' H1 => hK _ _ ?_)) | (refine op_store _ _ _ rfl rfl rfl H (by repeat (first | exact Split.here _ _ | apply Split.there)) (by kernel_rfl) (by kernel_rfl) (by kernel_rfl) (fun w' H1 => hK _ _ ?_)) | (refine op_buildSlice_all _ _ _ rfl (by first | exact elem22 | exact elem39 | exact elem76 | exact elem154) (by kernel_rfl) (by kernel_rfl) (by kernel_rfl) H (fun b w' H1 => hK _ _ ?_))); clear hK K; replace H := H1; clear H1)); (try clear hc); (try simp only [nrm, splice, Value.cells, Nat.reduceAdd, Act.eval, Act.put] at H); have hc := H.cells; simp only [CellsOf, KnCells, knc, Nat.reduceAdd] at hc))) | go_values | go_skip | go_guarded | go_step | go_upon | go_back | dsimp only)
  exact bodyPost_ret (v := .agg #[.int .i64 oe, .string ocl, .string ost, .bool oca, .bool oen, .string otg]) (by simp [results, Tryd.results22, go_sem, hc, Act.put]; try rfl) rfl ⟨rfl, H.ext⟩
set_option maxRecDepth 10000 in
theorem decide_no (d : VD) (ts : List ByteArray) (hS : Hid (∀ (g : Nat) (o : Vo) (w : World), ErrAt w → w.heap[g]? = some (guard d o) → Calls Tryd.prog 31 #[.pointer (some ⟨g, 0, none⟩)] w fun e w' => e = .returned (.bool false) ∧ Ext [] w w')) (w : World) (H : St [] w w [(false, .arr d.at' (strs ts)), genv]) :
    Calls Tryd.prog 11 #[d.val] w fun e w' => e = .returned (Vo.val ⟨98, ByteArray.empty, ByteArray.empty, false, false, ByteArray.empty⟩) ∧ Ext [] w w' := by
  obtain ⟨cl, st, tg, dn, hd, at', n, cap⟩ := d
  have hc := H.cells; simp only [CellsOf, KnCells, knc, Nat.reduceAdd] at hc
  go_enter Tryd.func11, Tryd.ntmps11
  repeat' (first | (go_big_may; (first
    | go_skip
    | ((first
        | (go_at_call 31; refine Calls.mono (hS.out _ vo0 _ (H.rep (R := GEnv) (by repeat (first | exact Split.here _ _ | apply Split.there))).2 (H.obj (by repeat (first | exact Split.here _ _ | apply Split.there)))) ?_; rintro e w' ⟨rfl, H'⟩; replace H := H.of_ext H'; clear H')
        | (go_at_call 32; refine Calls.mono (newMon _ _) ?_; rintro e w' ⟨p, rfl, H'⟩; replace H := H.merge (by first | exact Strikes.nil _ | (repeat (first | exact Strikes.nil _ | (apply Strikes.cons; focus (repeat (first | exact Split.here _ _ | apply Split.there)))))) H' rfl; clear H')
        | (refine loud_ rfl ?_; refine wpList_plain rfl (fun K hK => ?_); (first | (refine op_box _ _ rfl H (fun b w' H1 => hK _ _ ?_)) | (refine op_alloc _ rfl (zero_of _ _ rfl) H (fun b w' H1 => hK _ _ ?_)) | (refine op_store _ _ _ rfl rfl rfl H (by repeat (first | exact Split.here _ _ | apply Split.there)) (by kernel_rfl) (by kernel_rfl) (by kernel_rfl) (fun w' H1 => hK _ _ ?_)) | (refine op_buildSlice_all _ _ _ rfl (by first | exact elem22 | exact elem39 | exact elem76 | exact elem154) (by kernel_rfl) (by kernel_rfl) (by kernel_rfl) H (fun b w' H1 => hK _ _ ?_))); clear hK K; replace H := H1; clear H1)); (try clear hc); (try simp only [nrm, splice, Value.cells, Nat.reduceAdd, Act.eval, Act.put] at H); have hc := H.cells; simp only [CellsOf, KnCells, knc, Nat.reduceAdd] at hc))) | go_values | go_skip | go_guarded | go_step | go_upon | go_back | dsimp only)
  exact bodyPost_ret (v := .agg #[.int .i64 98, .string ByteArray.empty, .string ByteArray.empty, .bool false, .bool false, .string ByteArray.empty]) (by simp [results, Tryd.results11, go_sem, hc, Act.put]; try rfl) rfl ⟨rfl, H.ext⟩
set_option maxRecDepth 10000 in
theorem decide_ok (d : VD) (o' : Vo) (ev : Value) (k : Int) (ts : List ByteArray) (hS : Hid (∀ (g : Nat) (o : Vo) (w : World), ErrAt w → w.heap[g]? = some (guard d o) → Calls Tryd.prog 31 #[.pointer (some ⟨g, 0, none⟩)] w fun e w' => e = .returned (.bool true) ∧ Ext [] w w'))
    (hV : Hid (∀ (w : World), Calls Tryd.prog 34 #[ev] w fun e w' => e = .returned (.int .i64 k) ∧ Ext [] w w'))
    (hU : Hid (∀ (p g : Nat) (S : List Nat) (w : World), St S w w (mentsW p g d vo0 ts) →
      Calls Tryd.prog 33 #[.pointer (some ⟨p, 0, none⟩)] w fun e w' => e = .returned ev ∧ St S w w' [(true, .is g (guard d o'))]))
    (w : World) (H : St [] w w [(false, .arr d.at' (strs ts)), genv]) :
    Calls Tryd.prog 11 #[d.val] w fun e w' => e = .returned (Vo.val { o' with err := k }) ∧ Ext [] w w' := by
  obtain ⟨cl, st, tg, dn, hd, at', n, cap⟩ := d
  obtain ⟨oe, ocl, ost, oca, oen, otg⟩ := o'
  have hc := H.cells; simp only [CellsOf, KnCells, knc, Nat.reduceAdd] at hc
  go_enter Tryd.func11, Tryd.ntmps11
  repeat' (first | (go_big_may; (first
    | go_skip
    | ((first
        | (go_at_call 31; refine Calls.mono (hS.out _ vo0 _ (H.rep (R := GEnv) (by repeat (first | exact Split.here _ _ | apply Split.there))).2 (H.obj (by repeat (first | exact Split.here _ _ | apply Split.there)))) ?_; rintro e w' ⟨rfl, H'⟩; replace H := H.of_ext H'; clear H')
        | (go_at_call 32; refine Calls.mono (newMon _ _) ?_; rintro e w' ⟨p, rfl, H'⟩; replace H := H.merge (by first | exact Strikes.nil _ | (repeat (first | exact Strikes.nil _ | (apply Strikes.cons; focus (repeat (first | exact Split.here _ _ | apply Split.there)))))) H' rfl; clear H')
        | (go_at_call 33; refine Calls.mono (hU.out _ _ _ _ (H.pick (by repeat (first | exact Picks.nil _ | (apply Picks.wr; focus (repeat (first | exact Split.here _ _ | apply Split.there))) | (apply Picks.rd; focus (repeat (first | exact Split.here _ _ | apply Split.there))))))) ?_; rintro e w' ⟨rfl, H'⟩; replace H := H.merge (by first | exact Strikes.nil _ | (repeat (first | exact Strikes.nil _ | (apply Strikes.cons; focus (repeat (first | exact Split.here _ _ | apply Split.there)))))) H' rfl; clear H')
        | (go_at_call 34; refine Calls.mono (hV.out _) ?_; rintro e w' ⟨rfl, H'⟩; replace H := H.of_ext H'; clear H')
        | (refine loud_ rfl ?_; refine wpList_plain rfl (fun K hK => ?_); (first | (refine op_box _ _ rfl H (fun b w' H1 => hK _ _ ?_)) | (refine op_alloc _ rfl (zero_of _ _ rfl) H (fun b w' H1 => hK _ _ ?_)) | (refine op_store _ _ _ rfl rfl rfl H (by repeat (first | exact Split.here _ _ | apply Split.there)) (by kernel_rfl) (by kernel_rfl) (by kernel_rfl) (fun w' H1 => hK _ _ ?_)) | (refine op_buildSlice_all _ _ _ rfl (by first | exact elem22 | exact elem39 | exact elem76 | exact elem154) (by kernel_rfl) (by kernel_rfl) (by kernel_rfl) H (fun b w' H1 => hK _ _ ?_))); clear hK K; replace H := H1; clear H1)); (try clear hc); (try simp only [nrm, splice, Value.cells, Nat.reduceAdd, Act.eval, Act.put] at H); have hc := H.cells; simp only [CellsOf, KnCells, knc, Nat.reduceAdd] at hc))) | go_values | go_skip | go_guarded | go_step | go_upon | go_back | dsimp only)
  exact bodyPost_ret (v := .agg #[.int .i64 k, .string ocl, .string ost, .bool oca, .bool oen, .string otg]) (by simp [results, Tryd.results11, go_sem, hc, Act.put]; try rfl) rfl ⟨rfl, H.ext⟩
end Go.Proofs.YtdcijhdjddiboaaDoor
