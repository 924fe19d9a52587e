import Derived.Test.YtdcijhdjddiboaaDoorVerFb
import Derived.Test.YtdcijhdjddiboaaDoorVSkip
-- MORE
namespace Go.Proofs.YtdcijhdjddiboaaDoor
set_option linter.unusedVariables false
set_option linter.unusedSimpArgs false
set_option linter.unnecessarySimpa false
open Go.RowKit Go.V

theorem vval_eq (o : Option Vr) : vval o = (o.getD ⟨0, 0, 0⟩).val := by cases o <;> rfl
theorem verOf_gen (s : ByteArray) (hz : s.size ≤ 2147483647) : Hid (∀ (w : World), Calls Tryd.prog 14 #[.string s] w fun e w' => e = .returned (.tuple #[((verOf s).getD ⟨0, 0, 0⟩).val, .bool (verOf s).isSome]) ∧ Ext [] w w') := by
  have h := verOf_is (s := s) rfl hz
  rw [vval_eq] at h
  exact h
theorem Seen.least_gen {d : VD} {ts : List ByteArray} (h : Seen d ts) : Hid (∀ (w : World), St [] w w [(false, .arr d.at' (strs ts))] → Calls Tryd.prog 15 #[.slice d.at' d.n d.cap] w fun e w' => e = .returned (.tuple #[((leastOf (ts.map verOf)).getD ⟨0, 0, 0⟩).val, .bool (leastOf (ts.map verOf)).isSome]) ∧ Ext [] w w') := by
  have h := h.least rfl
  rw [vval_eq] at h
  exact h
set_option maxHeartbeats 4000000 in
set_option maxRecDepth 10000 in
theorem bounds_a (cl st tg : ByteArray) (dn hd : Bool) (at' : Option Addr) (n cap : Nat) (ts : List ByteArray) (c1 c2 c3 y1 y2 y3 : Int) (bc bl : Bool) (oe : Int)
    (hF : Hid (∀ (w : World), St [] w w [(false, .arr at' (strs ts))] → Calls Tryd.prog 9 #[.agg #[.string cl, .string st, .string tg, .bool dn, .bool hd, .slice at' n cap]] w fun e w' => ∃ b, e = .returned (.bool b) ∧ Ext [] w w' ∧ Hid (b = true → Fits ⟨cl, st, tg, dn, hd, at', n, cap⟩ ts)))
    (hG : Hid (∀ (w : World), Hid (Fits ⟨cl, st, tg, dn, hd, at', n, cap⟩ ts) → St [] w w [(false, .arr at' (strs ts))] → Calls Tryd.prog 10 #[.agg #[.string cl, .string st, .string tg, .bool dn, .bool hd, .slice at' n cap]] w fun e w' => ∃ b, e = .returned (.bool b) ∧ Ext [] w w'))
    (hI : Hid (∀ (w : World), St [] w w [(false, .arr at' (strs ts)), genv] → Calls Tryd.prog 11 #[.agg #[.string cl, .string st, .string tg, .bool dn, .bool hd, .slice at' n cap]] w fun e w' => e = .returned (Vo.val ⟨oe, ByteArray.empty, ByteArray.empty, false, false, ByteArray.empty⟩) ∧ Ext [] w w'))
    (hC : Hid (∀ (w : World), Calls Tryd.prog 14 #[.string cl] w fun e w' => e = .returned (.tuple #[.agg #[.int .i64 c1, .int .i64 c2, .int .i64 c3], .bool bc]) ∧ Ext [] w w'))
    (hL : Hid (∀ (w : World), St [] w w [(false, .arr at' (strs ts))] → Calls Tryd.prog 15 #[.slice at' n cap] w fun e w' => e = .returned (.tuple #[.agg #[.int .i64 y1, .int .i64 y2, .int .i64 y3], .bool bl]) ∧ Ext [] w w'))
    (hX : Hid (∀ (w : World), Calls Tryd.prog 14 #[.string ByteArray.empty] w fun e w' => e = .returned (.tuple #[.agg #[.int .i64 0, .int .i64 0, .int .i64 0], .bool false]) ∧ Ext [] w w'))
     (w : World) (H : St [] w w [(false, .arr at' (strs ts)), genv]) :
    Calls Tryd.prog 4 #[.agg #[.string cl, .string st, .string tg, .bool dn, .bool hd, .slice at' n cap]] w fun e w' => e = .returned (.bool true) ∧ Ext [] w w' := by
  have hc := H.cells; simp only [CellsOf, KnCells, knc, Nat.reduceAdd] at hc
  go_enter Tryd.func4, Tryd.ntmps4
  repeat' (first | (go_big_may; (first
    | go_skip
    | (go_at_call 9; refine Calls.mono (hF.out _ (H.pick (by repeat (first | exact Picks.nil _ | (apply Picks.wr; focus (repeat (first | exact Split.here _ _ | apply Split.there))) | (apply Picks.rd; focus (repeat (first | exact Split.here _ _ | apply Split.there))))))) ?_; rintro e w' ⟨bf, rfl, H', hbf⟩; replace H := H.of_ext H'; clear H'; (try clear hc); (try simp only [nrm, splice, Value.cells, Nat.reduceAdd, Act.eval, Act.put] at H); have hc := H.cells; simp only [CellsOf, KnCells, knc, Nat.reduceAdd] at hc; cases bf)
    | (go_at_call 10; refine Calls.mono (hG.out _ (Lib.hid (hbf.out rfl)) (H.pick (by repeat (first | exact Picks.nil _ | (apply Picks.wr; focus (repeat (first | exact Split.here _ _ | apply Split.there))) | (apply Picks.rd; focus (repeat (first | exact Split.here _ _ | apply Split.there))))))) ?_; rintro e w' ⟨bg, rfl, H'⟩; replace H := H.of_ext H'; clear H'; (try clear hc); (try simp only [nrm, splice, Value.cells, Nat.reduceAdd, Act.eval, Act.put] at H); have hc := H.cells; simp only [CellsOf, KnCells, knc, Nat.reduceAdd] at hc; cases bg)
    | ((first
        | (go_at_call 11; refine Calls.mono (hI.out _ (H.pick (by repeat (first | exact Picks.nil _ | (apply Picks.wr; focus (repeat (first | exact Split.here _ _ | apply Split.there))) | (apply Picks.rd; focus (repeat (first | exact Split.here _ _ | apply Split.there))))))) ?_; rintro e w' ⟨rfl, H'⟩; replace H := H.of_ext H'; clear H')
        | (go_at_call 14; (with_reducible refine gate_args (l := [.string cl]) ?_); refine Calls.mono (hC.out _) ?_; rintro e w' ⟨rfl, H'⟩; replace H := H.of_ext H'; clear H')
        | (go_at_call 15; refine Calls.mono (hL.out _ (H.pick (by repeat (first | exact Picks.nil _ | (apply Picks.wr; focus (repeat (first | exact Split.here _ _ | apply Split.there))) | (apply Picks.rd; focus (repeat (first | exact Split.here _ _ | apply Split.there))))))) ?_; rintro e w' ⟨rfl, H'⟩; replace H := H.of_ext H'; clear H')
        | (go_at_call 14; (with_reducible refine gate_args (l := [.string ByteArray.empty]) ?_); refine Calls.mono (hX.out _) ?_; rintro e w' ⟨rfl, H'⟩; replace H := H.of_ext H'; clear H')
        | (go_at_call 13; refine Calls.mono (awake_calls _ (H.pick (by repeat (first | exact Picks.nil _ | (apply Picks.wr; focus (repeat (first | exact Split.here _ _ | apply Split.there))) | (apply Picks.rd; focus (repeat (first | exact Split.here _ _ | apply Split.there))))))) ?_; rintro e w' ⟨rfl, H'⟩; replace H := H.of_ext H'; clear H')
        | (refine loud_ rfl ?_; refine wpList_plain rfl (fun K hK => ?_); (first | (refine op_box _ _ rfl H (fun b w' H1 => hK _ _ ?_)) | (refine op_alloc _ rfl (zero_of _ _ rfl) H (fun b w' H1 => hK _ _ ?_)) | (refine op_store _ _ _ rfl rfl rfl H (by repeat (first | exact Split.here _ _ | apply Split.there)) (by kernel_rfl) (by kernel_rfl) (by kernel_rfl) (fun w' H1 => hK _ _ ?_)) | (refine op_buildSlice_all _ _ _ rfl (by first | exact elem22 | exact elem39 | exact elem76 | exact elem154) (by kernel_rfl) (by kernel_rfl) (by kernel_rfl) H (fun b w' H1 => hK _ _ ?_))); clear hK K; replace H := H1; clear H1)); (try clear hc); (try simp only [nrm, splice, Value.cells, Nat.reduceAdd, Act.eval, Act.put] at H); have hc := H.cells; simp only [CellsOf, KnCells, knc, Nat.reduceAdd] at hc))) | go_values | go_skip | go_guarded | go_step | go_upon | go_back | dsimp only)
  · go_ret
    exact ⟨rfl, H.ext⟩
  · go_ret
    exact ⟨rfl, H.ext⟩
  · skip
    go_ret
    exact ⟨rfl, H.ext⟩
set_option maxHeartbeats 4000000 in
set_option maxRecDepth 10000 in
theorem bounds_b (cl st tg : ByteArray) (dn hd : Bool) (at' : Option Addr) (n cap : Nat) (ts : List ByteArray) (c1 c2 c3 y1 y2 y3 : Int) (bc bl : Bool) 
    (hF : Hid (∀ (w : World), St [] w w [(false, .arr at' (strs ts))] → Calls Tryd.prog 9 #[.agg #[.string cl, .string st, .string tg, .bool dn, .bool hd, .slice at' n cap]] w fun e w' => ∃ b, e = .returned (.bool b) ∧ Ext [] w w' ∧ Hid (b = true → Fits ⟨cl, st, tg, dn, hd, at', n, cap⟩ ts)))
    (hG : Hid (∀ (w : World), Hid (Fits ⟨cl, st, tg, dn, hd, at', n, cap⟩ ts) → St [] w w [(false, .arr at' (strs ts))] → Calls Tryd.prog 10 #[.agg #[.string cl, .string st, .string tg, .bool dn, .bool hd, .slice at' n cap]] w fun e w' => ∃ b, e = .returned (.bool b) ∧ Ext [] w w'))
    (hI : Hid (∀ (w : World), St [] w w [(false, .arr at' (strs ts)), genv] → Calls Tryd.prog 11 #[.agg #[.string cl, .string st, .string tg, .bool dn, .bool hd, .slice at' n cap]] w fun e w' => e = .returned (Vo.val ⟨0, ⟨#[51, 46, 48, 46, 48]⟩, ByteArray.empty, false, false, ByteArray.empty⟩) ∧ Ext [] w w'))
    (hC : Hid (∀ (w : World), Calls Tryd.prog 14 #[.string cl] w fun e w' => e = .returned (.tuple #[.agg #[.int .i64 c1, .int .i64 c2, .int .i64 c3], .bool bc]) ∧ Ext [] w w'))
    (hL : Hid (∀ (w : World), St [] w w [(false, .arr at' (strs ts))] → Calls Tryd.prog 15 #[.slice at' n cap] w fun e w' => e = .returned (.tuple #[.agg #[.int .i64 y1, .int .i64 y2, .int .i64 y3], .bool bl]) ∧ Ext [] w w'))
    (hX : Hid (∀ (w : World), Calls Tryd.prog 14 #[.string ⟨#[51, 46, 48, 46, 48]⟩] w fun e w' => e = .returned (.tuple #[.agg #[.int .i64 3, .int .i64 0, .int .i64 0], .bool true]) ∧ Ext [] w w'))
    (hbc : bc = false) (hbl : bl = false) (w : World) (H : St [] w w [(false, .arr at' (strs ts)), genv]) :
    Calls Tryd.prog 4 #[.agg #[.string cl, .string st, .string tg, .bool dn, .bool hd, .slice at' n cap]] w fun e w' => e = .returned (.bool true) ∧ Ext [] w w' := by
  subst hbc hbl
  have hc := H.cells; simp only [CellsOf, KnCells, knc, Nat.reduceAdd] at hc
  go_enter Tryd.func4, Tryd.ntmps4
  repeat' (first | (go_big_may; (first
    | go_skip
    | (go_at_call 9; refine Calls.mono (hF.out _ (H.pick (by repeat (first | exact Picks.nil _ | (apply Picks.wr; focus (repeat (first | exact Split.here _ _ | apply Split.there))) | (apply Picks.rd; focus (repeat (first | exact Split.here _ _ | apply Split.there))))))) ?_; rintro e w' ⟨bf, rfl, H', hbf⟩; replace H := H.of_ext H'; clear H'; (try clear hc); (try simp only [nrm, splice, Value.cells, Nat.reduceAdd, Act.eval, Act.put] at H); have hc := H.cells; simp only [CellsOf, KnCells, knc, Nat.reduceAdd] at hc; cases bf)
    | (go_at_call 10; refine Calls.mono (hG.out _ (Lib.hid (hbf.out rfl)) (H.pick (by repeat (first | exact Picks.nil _ | (apply Picks.wr; focus (repeat (first | exact Split.here _ _ | apply Split.there))) | (apply Picks.rd; focus (repeat (first | exact Split.here _ _ | apply Split.there))))))) ?_; rintro e w' ⟨bg, rfl, H'⟩; replace H := H.of_ext H'; clear H'; (try clear hc); (try simp only [nrm, splice, Value.cells, Nat.reduceAdd, Act.eval, Act.put] at H); have hc := H.cells; simp only [CellsOf, KnCells, knc, Nat.reduceAdd] at hc; cases bg)
    | ((first
        | (go_at_call 11; refine Calls.mono (hI.out _ (H.pick (by repeat (first | exact Picks.nil _ | (apply Picks.wr; focus (repeat (first | exact Split.here _ _ | apply Split.there))) | (apply Picks.rd; focus (repeat (first | exact Split.here _ _ | apply Split.there))))))) ?_; rintro e w' ⟨rfl, H'⟩; replace H := H.of_ext H'; clear H')
        | (go_at_call 14; (with_reducible refine gate_args (l := [.string cl]) ?_); refine Calls.mono (hC.out _) ?_; rintro e w' ⟨rfl, H'⟩; replace H := H.of_ext H'; clear H')
        | (go_at_call 15; refine Calls.mono (hL.out _ (H.pick (by repeat (first | exact Picks.nil _ | (apply Picks.wr; focus (repeat (first | exact Split.here _ _ | apply Split.there))) | (apply Picks.rd; focus (repeat (first | exact Split.here _ _ | apply Split.there))))))) ?_; rintro e w' ⟨rfl, H'⟩; replace H := H.of_ext H'; clear H')
        | (go_at_call 14; (with_reducible refine gate_args (l := [.string ⟨#[51, 46, 48, 46, 48]⟩]) ?_); refine Calls.mono (hX.out _) ?_; rintro e w' ⟨rfl, H'⟩; replace H := H.of_ext H'; clear H')
        | (refine loud_ rfl ?_; refine wpList_plain rfl (fun K hK => ?_); (first | (refine op_box _ _ rfl H (fun b w' H1 => hK _ _ ?_)) | (refine op_alloc _ rfl (zero_of _ _ rfl) H (fun b w' H1 => hK _ _ ?_)) | (refine op_store _ _ _ rfl rfl rfl H (by repeat (first | exact Split.here _ _ | apply Split.there)) (by kernel_rfl) (by kernel_rfl) (by kernel_rfl) (fun w' H1 => hK _ _ ?_)) | (refine op_buildSlice_all _ _ _ rfl (by first | exact elem22 | exact elem39 | exact elem76 | exact elem154) (by kernel_rfl) (by kernel_rfl) (by kernel_rfl) H (fun b w' H1 => hK _ _ ?_))); clear hK K; replace H := H1; clear H1)); (try clear hc); (try simp only [nrm, splice, Value.cells, Nat.reduceAdd, Act.eval, Act.put] at H); have hc := H.cells; simp only [CellsOf, KnCells, knc, Nat.reduceAdd] at hc))) | go_values | go_skip | go_guarded | go_step | go_upon | go_back | dsimp only)
  · go_ret
    exact ⟨rfl, H.ext⟩
  · go_ret
    exact ⟨rfl, H.ext⟩
  · (try simp only [Act.put, slt])
    refine wp_region_plan (.p [0] (.q [1] (.p [2, 3, 4, 5, 6] (.q [7] (.p [8, 9, 10, 11, 12, 13] (.q [14, 15] (.e 16 (.p [17, 18, 19, 20, 21] (.e 22 (.p [23, 24] .done)))))))))) [22] (by kernel_rfl) (by kernel_rfl) (fun _ _ d _ _ h => by cases d <;> exact h) H ?_
    clear H
    (try clear hc)
    intro X nX fX wd hcf hS H
    simp only [CellsOf, KnCells, knc, Nat.reduceAdd] at hcf
    have hc := H.cells
    simp only [CellsOf, KnCells, knc, Nat.reduceAdd] at hc
    iterate 1 (refine plan_p (o := ⟨_, _, _, _, _, _⟩) rfl (fun N hN => ?_); go_big_quiet_step (fail); refine wpQuiet_nil (hN _ ?_); clear hN N)
    refine plan_p0 ?_
    iterate 1 (refine plan_q (o := ⟨_, _, _, _, _, _⟩) rfl (fun N hN => ?_); go_big_quiet_step (fail); refine wpQuiet_nil (hN _ ?_); clear hN N)
    refine plan_q0 ?_
    iterate 2 (refine plan_p (o := ⟨_, _, _, _, _, _⟩) rfl (fun N hN => ?_); go_big_quiet_step (fail); refine wpQuiet_nil (hN _ ?_); clear hN N)
    first | (refine plan_p_no (o := ⟨_, _, _, _, _, _⟩) rfl rfl rfl rfl (rfl) ?_; (try simp only [Act.put, slt])) | (iterate 1 (refine plan_p (o := ⟨_, _, _, _, _, _⟩) rfl (fun N hN => ?_); go_big_quiet_step (fail); refine wpQuiet_nil (hN _ ?_); clear hN N))
    first | (refine plan_p_no (o := ⟨_, _, _, _, _, _⟩) rfl rfl rfl rfl (rfl) ?_; (try simp only [Act.put, slt])) | (iterate 1 (refine plan_p (o := ⟨_, _, _, _, _, _⟩) rfl (fun N hN => ?_); go_big_quiet_step (fail); refine wpQuiet_nil (hN _ ?_); clear hN N))
    first | (refine plan_p_no (o := ⟨_, _, _, _, _, _⟩) rfl rfl rfl rfl (rfl) ?_; (try simp only [Act.put, slt])) | (iterate 1 (refine plan_p (o := ⟨_, _, _, _, _, _⟩) rfl (fun N hN => ?_); go_big_quiet_step (fail); refine wpQuiet_nil (hN _ ?_); clear hN N))
    refine plan_p0 ?_
    first | (refine plan_q_no (o := ⟨_, _, _, _, _, _⟩) rfl rfl rfl rfl (rfl) ?_; (try simp only [Act.put, slt])) | (iterate 1 (refine plan_q (o := ⟨_, _, _, _, _, _⟩) rfl (fun N hN => ?_); go_big_quiet_step (fail); refine wpQuiet_nil (hN _ ?_); clear hN N))
    refine plan_q0 ?_
    first | (refine plan_p_no (o := ⟨_, _, _, _, _, _⟩) rfl rfl rfl rfl (rfl) ?_; (try simp only [Act.put, slt])) | (iterate 1 (refine plan_p (o := ⟨_, _, _, _, _, _⟩) rfl (fun N hN => ?_); go_big_quiet_step (fail); refine wpQuiet_nil (hN _ ?_); clear hN N))
    first | (refine plan_p_no (o := ⟨_, _, _, _, _, _⟩) rfl rfl rfl rfl (rfl) ?_; (try simp only [Act.put, slt])) | (iterate 1 (refine plan_p (o := ⟨_, _, _, _, _, _⟩) rfl (fun N hN => ?_); go_big_quiet_step (fail); refine wpQuiet_nil (hN _ ?_); clear hN N))
    first | (refine plan_p_no (o := ⟨_, _, _, _, _, _⟩) rfl rfl rfl rfl (rfl) ?_; (try simp only [Act.put, slt])) | (iterate 1 (refine plan_p (o := ⟨_, _, _, _, _, _⟩) rfl (fun N hN => ?_); go_big_quiet_step (fail); refine wpQuiet_nil (hN _ ?_); clear hN N))
    first | (refine plan_p_no (o := ⟨_, _, _, _, _, _⟩) rfl rfl rfl rfl (rfl) ?_; (try simp only [Act.put, slt])) | (iterate 1 (refine plan_p (o := ⟨_, _, _, _, _, _⟩) rfl (fun N hN => ?_); go_big_quiet_step (fail); refine wpQuiet_nil (hN _ ?_); clear hN N))
    first | (refine plan_p_no (o := ⟨_, _, _, _, _, _⟩) rfl rfl rfl rfl (rfl) ?_; (try simp only [Act.put, slt])) | (iterate 1 (refine plan_p (o := ⟨_, _, _, _, _, _⟩) rfl (fun N hN => ?_); go_big_quiet_step (fail); refine wpQuiet_nil (hN _ ?_); clear hN N))
    first | (refine plan_p_no (o := ⟨_, _, _, _, _, _⟩) rfl rfl rfl rfl (rfl) ?_; (try simp only [Act.put, slt])) | (iterate 1 (refine plan_p (o := ⟨_, _, _, _, _, _⟩) rfl (fun N hN => ?_); go_big_quiet_step (fail); refine wpQuiet_nil (hN _ ?_); clear hN N))
    refine plan_p0 ?_
    first | (refine plan_q_no (o := ⟨_, _, _, _, _, _⟩) rfl rfl rfl rfl (rfl) ?_; (try simp only [Act.put, slt])) | (iterate 1 (refine plan_q (o := ⟨_, _, _, _, _, _⟩) rfl (fun N hN => ?_); go_big_quiet_step (fail); refine wpQuiet_nil (hN _ ?_); clear hN N))
    first | (refine plan_q_no (o := ⟨_, _, _, _, _, _⟩) rfl rfl rfl rfl (rfl) ?_; (try simp only [Act.put, slt])) | (iterate 1 (refine plan_q (o := ⟨_, _, _, _, _, _⟩) rfl (fun N hN => ?_); go_big_quiet_step (fail); refine wpQuiet_nil (hN _ ?_); clear hN N))
    refine plan_q0 ?_
    first
      | (refine plan_e_no (o := ⟨_, _, _, _, _, _⟩) rfl rfl rfl rfl (rfl) ?_; (try simp only [Act.put, slt]))
      | (refine plan_e_skip (o := ⟨_, _, _, _, _, _⟩) rfl rfl ?_; (try simp only [Act.put, slt]))
      | (refine plan_e (o := ⟨_, _, _, _, _, _⟩) rfl rfl (fun K hK => ?_); (first | (go_step; refine Calls.mono (awake_calls _ (H.pick (by repeat (first | exact Picks.nil _ | (apply Picks.wr; focus (repeat (first | exact Split.here _ _ | apply Split.there))) | (apply Picks.rd; focus (repeat (first | exact Split.here _ _ | apply Split.there))))))) ?_; rintro e w' ⟨rfl, H'⟩; replace H := H.of_ext H'; clear H') | (refine op_box _ _ rfl H (fun b w' H1 => ?_); replace H := H1; clear H1) | (refine op_alloc _ rfl (zero_of _ _ rfl) H (fun b w' H1 => ?_); replace H := H1; clear H1) | (refine op_store _ _ _ rfl rfl rfl H (by repeat (first | exact Split.here _ _ | apply Split.there)) (by kernel_rfl) (by kernel_rfl) (by kernel_rfl) (fun w' H1 => ?_); replace H := H1; clear H1) | (refine op_buildSlice_all _ _ _ rfl (by first | exact elem22 | exact elem39 | exact elem76 | exact elem154) (by kernel_rfl) (by kernel_rfl) (by kernel_rfl) H (fun b w' H1 => ?_); replace H := H1; clear H1)); (try clear hc); (try simp only [nrm, splice, Value.cells, Nat.reduceAdd, Act.eval, Act.put] at H); have hc := H.cells; simp only [CellsOf, KnCells, knc, Nat.reduceAdd] at hc; refine hK _ _ (fun _ _ => hS _ (H.sublist (by repeat (first | exact List.Sublist.refl _ | apply List.Sublist.cons))).all) ?_; clear hK K; (try simp only [Act.put, slt]))
    first | (refine plan_p_no (o := ⟨_, _, _, _, _, _⟩) rfl rfl rfl rfl (rfl) ?_; (try simp only [Act.put, slt])) | (iterate 1 (refine plan_p (o := ⟨_, _, _, _, _, _⟩) rfl (fun N hN => ?_); go_big_quiet_step (fail); refine wpQuiet_nil (hN _ ?_); clear hN N))
    first | (refine plan_p_no (o := ⟨_, _, _, _, _, _⟩) rfl rfl rfl rfl (rfl) ?_; (try simp only [Act.put, slt])) | (iterate 1 (refine plan_p (o := ⟨_, _, _, _, _, _⟩) rfl (fun N hN => ?_); go_big_quiet_step (fail); refine wpQuiet_nil (hN _ ?_); clear hN N))
    first | (refine plan_p_no (o := ⟨_, _, _, _, _, _⟩) rfl rfl rfl rfl (rfl) ?_; (try simp only [Act.put, slt])) | (iterate 1 (refine plan_p (o := ⟨_, _, _, _, _, _⟩) rfl (fun N hN => ?_); go_big_quiet_step (fail); refine wpQuiet_nil (hN _ ?_); clear hN N))
    iterate 2 (refine plan_p (o := ⟨_, _, _, _, _, _⟩) rfl (fun N hN => ?_); go_big_quiet_step (fail); refine wpQuiet_nil (hN _ ?_); clear hN N)
    refine plan_p0 ?_
    first
      | (refine plan_e_no (o := ⟨_, _, _, _, _, _⟩) rfl rfl rfl rfl (rfl) ?_; (try simp only [Act.put, slt]))
      | (refine plan_e_skip (o := ⟨_, _, _, _, _, _⟩) rfl rfl ?_; (try simp only [Act.put, slt]))
      | (refine plan_e (o := ⟨_, _, _, _, _, _⟩) rfl rfl (fun K hK => ?_); (first | (go_step; refine Calls.mono (awake_calls _ (H.pick (by repeat (first | exact Picks.nil _ | (apply Picks.wr; focus (repeat (first | exact Split.here _ _ | apply Split.there))) | (apply Picks.rd; focus (repeat (first | exact Split.here _ _ | apply Split.there))))))) ?_; rintro e w' ⟨rfl, H'⟩; replace H := H.of_ext H'; clear H') | (refine op_box _ _ rfl H (fun b w' H1 => ?_); replace H := H1; clear H1) | (refine op_alloc _ rfl (zero_of _ _ rfl) H (fun b w' H1 => ?_); replace H := H1; clear H1) | (refine op_store _ _ _ rfl rfl rfl H (by repeat (first | exact Split.here _ _ | apply Split.there)) (by kernel_rfl) (by kernel_rfl) (by kernel_rfl) (fun w' H1 => ?_); replace H := H1; clear H1) | (refine op_buildSlice_all _ _ _ rfl (by first | exact elem22 | exact elem39 | exact elem76 | exact elem154) (by kernel_rfl) (by kernel_rfl) (by kernel_rfl) H (fun b w' H1 => ?_); replace H := H1; clear H1)); (try clear hc); (try simp only [nrm, splice, Value.cells, Nat.reduceAdd, Act.eval, Act.put] at H); have hc := H.cells; simp only [CellsOf, KnCells, knc, Nat.reduceAdd] at hc; refine hK _ _ (fun h => (h (by decide)).elim) ?_; clear hK K; (try simp only [Act.put, slt]))
    iterate 2 (refine plan_p (o := ⟨_, _, _, _, _, _⟩) rfl (fun N hN => ?_); go_big_quiet_step (fail); refine wpQuiet_nil (hN _ ?_); clear hN N)
    refine plan_p0 ?_
    refine plan_done ?_
    repeat' (first | (go_big_may; (first
    | ((first
        | (refine loud_ rfl ?_; refine wpList_plain rfl (fun K hK => ?_); (first | (refine op_box _ _ rfl H (fun b w' H1 => hK _ _ ?_)) | (refine op_alloc _ rfl (zero_of _ _ rfl) H (fun b w' H1 => hK _ _ ?_)) | (refine op_store _ _ _ rfl rfl rfl H (by repeat (first | exact Split.here _ _ | apply Split.there)) (by kernel_rfl) (by kernel_rfl) (by kernel_rfl) (fun w' H1 => hK _ _ ?_)) | (refine op_buildSlice_all _ _ _ rfl (by first | exact elem22 | exact elem39 | exact elem76 | exact elem154) (by kernel_rfl) (by kernel_rfl) (by kernel_rfl) H (fun b w' H1 => hK _ _ ?_))); clear hK K; replace H := H1; clear H1)); (try clear hc); (try simp only [nrm, splice, Value.cells, Nat.reduceAdd, Act.eval, Act.put] at H); have hc := H.cells; simp only [CellsOf, KnCells, knc, Nat.reduceAdd] at hc))) | go_values | go_skip | go_guarded | go_step | go_upon | go_back | dsimp only)
    go_ret
    exact ⟨rfl, H.ext⟩
set_option maxHeartbeats 4000000 in
set_option maxRecDepth 10000 in
theorem bounds_c (cl st tg : ByteArray) (dn hd : Bool) (at' : Option Addr) (n cap : Nat) (ts : List ByteArray) (c1 c2 c3 y1 y2 y3 : Int) (bc bl : Bool) (xc : ByteArray)
    (hF : Hid (∀ (w : World), St [] w w [(false, .arr at' (strs ts))] → Calls Tryd.prog 9 #[.agg #[.string cl, .string st, .string tg, .bool dn, .bool hd, .slice at' n cap]] w fun e w' => ∃ b, e = .returned (.bool b) ∧ Ext [] w w' ∧ Hid (b = true → Fits ⟨cl, st, tg, dn, hd, at', n, cap⟩ ts)))
    (hG : Hid (∀ (w : World), Hid (Fits ⟨cl, st, tg, dn, hd, at', n, cap⟩ ts) → St [] w w [(false, .arr at' (strs ts))] → Calls Tryd.prog 10 #[.agg #[.string cl, .string st, .string tg, .bool dn, .bool hd, .slice at' n cap]] w fun e w' => ∃ b, e = .returned (.bool b) ∧ Ext [] w w'))
    (hI : Hid (∀ (w : World), St [] w w [(false, .arr at' (strs ts)), genv] → Calls Tryd.prog 11 #[.agg #[.string cl, .string st, .string tg, .bool dn, .bool hd, .slice at' n cap]] w fun e w' => e = .returned (Vo.val ⟨0, xc, ByteArray.empty, false, false, ByteArray.empty⟩) ∧ Ext [] w w'))
    (hC : Hid (∀ (w : World), Calls Tryd.prog 14 #[.string cl] w fun e w' => e = .returned (.tuple #[.agg #[.int .i64 c1, .int .i64 c2, .int .i64 c3], .bool bc]) ∧ Ext [] w w'))
    (hL : Hid (∀ (w : World), St [] w w [(false, .arr at' (strs ts))] → Calls Tryd.prog 15 #[.slice at' n cap] w fun e w' => e = .returned (.tuple #[.agg #[.int .i64 y1, .int .i64 y2, .int .i64 y3], .bool bl]) ∧ Ext [] w w'))
    (hX : Hid (∀ (w : World), Calls Tryd.prog 14 #[.string xc] w fun e w' => e = .returned (.tuple #[.agg #[.int .i64 y1, .int .i64 y2, .int .i64 0], .bool true]) ∧ Ext [] w w'))
    (hxe : xc.toList.isEmpty = false) (hbc : bc = false) (hbl : bl = true) (w : World) (H : St [] w w [(false, .arr at' (strs ts)), genv]) :
    Calls Tryd.prog 4 #[.agg #[.string cl, .string st, .string tg, .bool dn, .bool hd, .slice at' n cap]] w fun e w' => e = .returned (.bool true) ∧ Ext [] w w' := by
  subst hbc hbl
  have hc := H.cells; simp only [CellsOf, KnCells, knc, Nat.reduceAdd] at hc
  go_enter Tryd.func4, Tryd.ntmps4
  repeat' (first | (go_big_may; (first
    | go_skip
    | (go_at_call 9; refine Calls.mono (hF.out _ (H.pick (by repeat (first | exact Picks.nil _ | (apply Picks.wr; focus (repeat (first | exact Split.here _ _ | apply Split.there))) | (apply Picks.rd; focus (repeat (first | exact Split.here _ _ | apply Split.there))))))) ?_; rintro e w' ⟨bf, rfl, H', hbf⟩; replace H := H.of_ext H'; clear H'; (try clear hc); (try simp only [nrm, splice, Value.cells, Nat.reduceAdd, Act.eval, Act.put] at H); have hc := H.cells; simp only [CellsOf, KnCells, knc, Nat.reduceAdd] at hc; cases bf)
    | (go_at_call 10; refine Calls.mono (hG.out _ (Lib.hid (hbf.out rfl)) (H.pick (by repeat (first | exact Picks.nil _ | (apply Picks.wr; focus (repeat (first | exact Split.here _ _ | apply Split.there))) | (apply Picks.rd; focus (repeat (first | exact Split.here _ _ | apply Split.there))))))) ?_; rintro e w' ⟨bg, rfl, H'⟩; replace H := H.of_ext H'; clear H'; (try clear hc); (try simp only [nrm, splice, Value.cells, Nat.reduceAdd, Act.eval, Act.put] at H); have hc := H.cells; simp only [CellsOf, KnCells, knc, Nat.reduceAdd] at hc; cases bg)
    | ((first
        | (go_at_call 11; refine Calls.mono (hI.out _ (H.pick (by repeat (first | exact Picks.nil _ | (apply Picks.wr; focus (repeat (first | exact Split.here _ _ | apply Split.there))) | (apply Picks.rd; focus (repeat (first | exact Split.here _ _ | apply Split.there))))))) ?_; rintro e w' ⟨rfl, H'⟩; replace H := H.of_ext H'; clear H')
        | (go_at_call 14; (with_reducible refine gate_args (l := [.string cl]) ?_); refine Calls.mono (hC.out _) ?_; rintro e w' ⟨rfl, H'⟩; replace H := H.of_ext H'; clear H')
        | (go_at_call 15; refine Calls.mono (hL.out _ (H.pick (by repeat (first | exact Picks.nil _ | (apply Picks.wr; focus (repeat (first | exact Split.here _ _ | apply Split.there))) | (apply Picks.rd; focus (repeat (first | exact Split.here _ _ | apply Split.there))))))) ?_; rintro e w' ⟨rfl, H'⟩; replace H := H.of_ext H'; clear H')
        | (go_at_call 14; (with_reducible refine gate_args (l := [.string xc]) ?_); refine Calls.mono (hX.out _) ?_; rintro e w' ⟨rfl, H'⟩; replace H := H.of_ext H'; clear H')
        | (refine loud_ rfl ?_; refine wpList_plain rfl (fun K hK => ?_); (first | (refine op_box _ _ rfl H (fun b w' H1 => hK _ _ ?_)) | (refine op_alloc _ rfl (zero_of _ _ rfl) H (fun b w' H1 => hK _ _ ?_)) | (refine op_store _ _ _ rfl rfl rfl H (by repeat (first | exact Split.here _ _ | apply Split.there)) (by kernel_rfl) (by kernel_rfl) (by kernel_rfl) (fun w' H1 => hK _ _ ?_)) | (refine op_buildSlice_all _ _ _ rfl (by first | exact elem22 | exact elem39 | exact elem76 | exact elem154) (by kernel_rfl) (by kernel_rfl) (by kernel_rfl) H (fun b w' H1 => hK _ _ ?_))); clear hK K; replace H := H1; clear H1)); (try clear hc); (try simp only [nrm, splice, Value.cells, Nat.reduceAdd, Act.eval, Act.put] at H); have hc := H.cells; simp only [CellsOf, KnCells, knc, Nat.reduceAdd] at hc))) | go_values | go_skip | go_guarded | go_step | go_upon | go_back | dsimp only)
  · go_ret
    exact ⟨rfl, H.ext⟩
  · go_ret
    exact ⟨rfl, H.ext⟩
  · (try simp only [Act.put, slt])
    refine wp_region_plan (.p [0] (.q [1] (.p [2, 3, 4, 5, 6] (.q [7] (.p [8, 9, 10, 11, 12, 13] (.q [14, 15] (.e 16 (.p [17, 18, 19, 20, 21] (.e 22 (.p [23, 24] .done)))))))))) [22] (by kernel_rfl) (by kernel_rfl) (fun _ _ d _ _ h => by cases d <;> exact h) H ?_
    clear H
    (try clear hc)
    intro X nX fX wd hcf hS H
    simp only [CellsOf, KnCells, knc, Nat.reduceAdd] at hcf
    have hc := H.cells
    simp only [CellsOf, KnCells, knc, Nat.reduceAdd] at hc
    iterate 1 (refine plan_p (o := ⟨_, _, _, _, _, _⟩) rfl (fun N hN => ?_); go_big_quiet_step (fail); refine wpQuiet_nil (hN _ ?_); clear hN N)
    refine plan_p0 ?_
    iterate 1 (refine plan_q (o := ⟨_, _, _, _, _, _⟩) rfl (fun N hN => ?_); go_big_quiet_step (fail); refine wpQuiet_nil (hN _ ?_); clear hN N)
    refine plan_q0 ?_
    iterate 2 (refine plan_p (o := ⟨_, _, _, _, _, _⟩) rfl (fun N hN => ?_); go_big_quiet_step (fail); refine wpQuiet_nil (hN _ ?_); clear hN N)
    first | (refine plan_p_no (o := ⟨_, _, _, _, _, _⟩) rfl rfl rfl rfl (rfl) ?_; (try simp only [Act.put, slt])) | (iterate 1 (refine plan_p (o := ⟨_, _, _, _, _, _⟩) rfl (fun N hN => ?_); go_big_quiet_step (fail); refine wpQuiet_nil (hN _ ?_); clear hN N))
    first | (refine plan_p_no (o := ⟨_, _, _, _, _, _⟩) rfl rfl rfl rfl (rfl) ?_; (try simp only [Act.put, slt])) | (iterate 1 (refine plan_p (o := ⟨_, _, _, _, _, _⟩) rfl (fun N hN => ?_); go_big_quiet_step (fail); refine wpQuiet_nil (hN _ ?_); clear hN N))
    first | (refine plan_p_no (o := ⟨_, _, _, _, _, _⟩) rfl rfl rfl rfl (rfl) ?_; (try simp only [Act.put, slt])) | (iterate 1 (refine plan_p (o := ⟨_, _, _, _, _, _⟩) rfl (fun N hN => ?_); go_big_quiet_step (fail); refine wpQuiet_nil (hN _ ?_); clear hN N))
    refine plan_p0 ?_
    first | (refine plan_q_no (o := ⟨_, _, _, _, _, _⟩) rfl rfl rfl rfl (rfl) ?_; (try simp only [Act.put, slt])) | (iterate 1 (refine plan_q (o := ⟨_, _, _, _, _, _⟩) rfl (fun N hN => ?_); go_big_quiet_step (fail); refine wpQuiet_nil (hN _ ?_); clear hN N))
    refine plan_q0 ?_
    first | (refine plan_p_no (o := ⟨_, _, _, _, _, _⟩) rfl rfl rfl rfl (rfl) ?_; (try simp only [Act.put, slt])) | (iterate 1 (refine plan_p (o := ⟨_, _, _, _, _, _⟩) rfl (fun N hN => ?_); go_big_quiet_step (fail); refine wpQuiet_nil (hN _ ?_); clear hN N))
    first | (refine plan_p_no (o := ⟨_, _, _, _, _, _⟩) rfl rfl rfl rfl (rfl) ?_; (try simp only [Act.put, slt])) | (iterate 1 (refine plan_p (o := ⟨_, _, _, _, _, _⟩) rfl (fun N hN => ?_); go_big_quiet_step (fail); refine wpQuiet_nil (hN _ ?_); clear hN N))
    first | (refine plan_p_no (o := ⟨_, _, _, _, _, _⟩) rfl rfl rfl rfl (rfl) ?_; (try simp only [Act.put, slt])) | (iterate 1 (refine plan_p (o := ⟨_, _, _, _, _, _⟩) rfl (fun N hN => ?_); go_big_quiet_step (fail); refine wpQuiet_nil (hN _ ?_); clear hN N))
    first | (refine plan_p_no (o := ⟨_, _, _, _, _, _⟩) rfl rfl rfl rfl (rfl) ?_; (try simp only [Act.put, slt])) | (iterate 1 (refine plan_p (o := ⟨_, _, _, _, _, _⟩) rfl (fun N hN => ?_); go_big_quiet_step (fail); refine wpQuiet_nil (hN _ ?_); clear hN N))
    first | (refine plan_p_no (o := ⟨_, _, _, _, _, _⟩) rfl rfl rfl rfl (rfl) ?_; (try simp only [Act.put, slt])) | (iterate 1 (refine plan_p (o := ⟨_, _, _, _, _, _⟩) rfl (fun N hN => ?_); go_big_quiet_step (fail); refine wpQuiet_nil (hN _ ?_); clear hN N))
    first | (refine plan_p_no (o := ⟨_, _, _, _, _, _⟩) rfl rfl rfl rfl (rfl) ?_; (try simp only [Act.put, slt])) | (iterate 1 (refine plan_p (o := ⟨_, _, _, _, _, _⟩) rfl (fun N hN => ?_); go_big_quiet_step (fail); refine wpQuiet_nil (hN _ ?_); clear hN N))
    refine plan_p0 ?_
    first | (refine plan_q_no (o := ⟨_, _, _, _, _, _⟩) rfl rfl rfl rfl (rfl) ?_; (try simp only [Act.put, slt])) | (iterate 1 (refine plan_q (o := ⟨_, _, _, _, _, _⟩) rfl (fun N hN => ?_); go_big_quiet_step (fail); refine wpQuiet_nil (hN _ ?_); clear hN N))
    first | (refine plan_q_no (o := ⟨_, _, _, _, _, _⟩) rfl rfl rfl rfl (rfl) ?_; (try simp only [Act.put, slt])) | (iterate 1 (refine plan_q (o := ⟨_, _, _, _, _, _⟩) rfl (fun N hN => ?_); go_big_quiet_step (fail); refine wpQuiet_nil (hN _ ?_); clear hN N))
    refine plan_q0 ?_
    first
      | (refine plan_e_no (o := ⟨_, _, _, _, _, _⟩) rfl rfl rfl rfl (rfl) ?_; (try simp only [Act.put, slt]))
      | (refine plan_e_skip (o := ⟨_, _, _, _, _, _⟩) rfl rfl ?_; (try simp only [Act.put, slt]))
      | (refine plan_e (o := ⟨_, _, _, _, _, _⟩) rfl rfl (fun K hK => ?_); (first | (go_step; refine Calls.mono (verBase_at _ _ _ _) ?_; rintro e w' ⟨rfl, H'⟩; replace H := H.of_ext H'; clear H') | (go_step; refine Calls.mono (awake_calls _ (H.pick (by repeat (first | exact Picks.nil _ | (apply Picks.wr; focus (repeat (first | exact Split.here _ _ | apply Split.there))) | (apply Picks.rd; focus (repeat (first | exact Split.here _ _ | apply Split.there))))))) ?_; rintro e w' ⟨rfl, H'⟩; replace H := H.of_ext H'; clear H') | (refine op_box _ _ rfl H (fun b w' H1 => ?_); replace H := H1; clear H1) | (refine op_alloc _ rfl (zero_of _ _ rfl) H (fun b w' H1 => ?_); replace H := H1; clear H1) | (refine op_store _ _ _ rfl rfl rfl H (by repeat (first | exact Split.here _ _ | apply Split.there)) (by kernel_rfl) (by kernel_rfl) (by kernel_rfl) (fun w' H1 => ?_); replace H := H1; clear H1) | (refine op_buildSlice_all _ _ _ rfl (by first | exact elem22 | exact elem39 | exact elem76 | exact elem154) (by kernel_rfl) (by kernel_rfl) (by kernel_rfl) H (fun b w' H1 => ?_); replace H := H1; clear H1)); (try clear hc); (try simp only [nrm, splice, Value.cells, Nat.reduceAdd, Act.eval, Act.put] at H); have hc := H.cells; simp only [CellsOf, KnCells, knc, Nat.reduceAdd] at hc; refine hK _ _ (fun _ _ => hS _ (H.sublist (by repeat (first | exact List.Sublist.refl _ | apply List.Sublist.cons))).all) ?_; clear hK K; (try simp only [Act.put, slt]))
    first | (refine plan_p_no (o := ⟨_, _, _, _, _, _⟩) rfl rfl rfl rfl (rfl) ?_; (try simp only [Act.put, slt])) | (iterate 1 (refine plan_p (o := ⟨_, _, _, _, _, _⟩) rfl (fun N hN => ?_); go_big_quiet_step (fail); refine wpQuiet_nil (hN _ ?_); clear hN N))
    first | (refine plan_p_no (o := ⟨_, _, _, _, _, _⟩) rfl rfl rfl rfl (rfl) ?_; (try simp only [Act.put, slt])) | (iterate 1 (refine plan_p (o := ⟨_, _, _, _, _, _⟩) rfl (fun N hN => ?_); go_big_quiet_step (fail); refine wpQuiet_nil (hN _ ?_); clear hN N))
    first | (refine plan_p_no (o := ⟨_, _, _, _, _, _⟩) rfl rfl rfl rfl (rfl) ?_; (try simp only [Act.put, slt])) | (iterate 1 (refine plan_p (o := ⟨_, _, _, _, _, _⟩) rfl (fun N hN => ?_); go_big_quiet_step (fail); refine wpQuiet_nil (hN _ ?_); clear hN N))
    iterate 2 (refine plan_p (o := ⟨_, _, _, _, _, _⟩) rfl (fun N hN => ?_); go_big_quiet_step (fail); refine wpQuiet_nil (hN _ ?_); clear hN N)
    refine plan_p0 ?_
    first
      | (refine plan_e_no (o := ⟨_, _, _, _, _, _⟩) rfl rfl rfl rfl (rfl) ?_; (try simp only [Act.put, slt]))
      | (refine plan_e_skip (o := ⟨_, _, _, _, _, _⟩) rfl rfl ?_; (try simp only [Act.put, slt]))
      | (refine plan_e (o := ⟨_, _, _, _, _, _⟩) rfl rfl (fun K hK => ?_); (first | (go_step; refine Calls.mono (verBase_at _ _ _ _) ?_; rintro e w' ⟨rfl, H'⟩; replace H := H.of_ext H'; clear H') | (go_step; refine Calls.mono (awake_calls _ (H.pick (by repeat (first | exact Picks.nil _ | (apply Picks.wr; focus (repeat (first | exact Split.here _ _ | apply Split.there))) | (apply Picks.rd; focus (repeat (first | exact Split.here _ _ | apply Split.there))))))) ?_; rintro e w' ⟨rfl, H'⟩; replace H := H.of_ext H'; clear H') | (refine op_box _ _ rfl H (fun b w' H1 => ?_); replace H := H1; clear H1) | (refine op_alloc _ rfl (zero_of _ _ rfl) H (fun b w' H1 => ?_); replace H := H1; clear H1) | (refine op_store _ _ _ rfl rfl rfl H (by repeat (first | exact Split.here _ _ | apply Split.there)) (by kernel_rfl) (by kernel_rfl) (by kernel_rfl) (fun w' H1 => ?_); replace H := H1; clear H1) | (refine op_buildSlice_all _ _ _ rfl (by first | exact elem22 | exact elem39 | exact elem76 | exact elem154) (by kernel_rfl) (by kernel_rfl) (by kernel_rfl) H (fun b w' H1 => ?_); replace H := H1; clear H1)); (try clear hc); (try simp only [nrm, splice, Value.cells, Nat.reduceAdd, Act.eval, Act.put] at H); have hc := H.cells; simp only [CellsOf, KnCells, knc, Nat.reduceAdd] at hc; refine hK _ _ (fun h => (h (by decide)).elim) ?_; clear hK K; (try simp only [Act.put, slt]))
    iterate 2 (refine plan_p (o := ⟨_, _, _, _, _, _⟩) rfl (fun N hN => ?_); go_big_quiet_step (fail); refine wpQuiet_nil (hN _ ?_); clear hN N)
    refine plan_p0 ?_
    refine plan_done ?_
    repeat' (first | (go_big_may; (first
    | ((first
        | (refine loud_ rfl ?_; refine wpList_plain rfl (fun K hK => ?_); (first | (refine op_box _ _ rfl H (fun b w' H1 => hK _ _ ?_)) | (refine op_alloc _ rfl (zero_of _ _ rfl) H (fun b w' H1 => hK _ _ ?_)) | (refine op_store _ _ _ rfl rfl rfl H (by repeat (first | exact Split.here _ _ | apply Split.there)) (by kernel_rfl) (by kernel_rfl) (by kernel_rfl) (fun w' H1 => hK _ _ ?_)) | (refine op_buildSlice_all _ _ _ rfl (by first | exact elem22 | exact elem39 | exact elem76 | exact elem154) (by kernel_rfl) (by kernel_rfl) (by kernel_rfl) H (fun b w' H1 => hK _ _ ?_))); clear hK K; replace H := H1; clear H1)); (try clear hc); (try simp only [nrm, splice, Value.cells, Nat.reduceAdd, Act.eval, Act.put] at H); have hc := H.cells; simp only [CellsOf, KnCells, knc, Nat.reduceAdd] at hc))) | go_values | go_skip | go_guarded | go_step | go_upon | go_back | dsimp only)
    go_ret
    exact ⟨rfl, H.ext⟩
set_option maxHeartbeats 4000000 in
set_option maxRecDepth 10000 in
theorem bounds_d (cl st tg : ByteArray) (dn hd : Bool) (at' : Option Addr) (n cap : Nat) (ts : List ByteArray) (c1 c2 c3 y1 y2 y3 : Int) (bc bl : Bool) (xc : ByteArray)
    (hF : Hid (∀ (w : World), St [] w w [(false, .arr at' (strs ts))] → Calls Tryd.prog 9 #[.agg #[.string cl, .string st, .string tg, .bool dn, .bool hd, .slice at' n cap]] w fun e w' => ∃ b, e = .returned (.bool b) ∧ Ext [] w w' ∧ Hid (b = true → Fits ⟨cl, st, tg, dn, hd, at', n, cap⟩ ts)))
    (hG : Hid (∀ (w : World), Hid (Fits ⟨cl, st, tg, dn, hd, at', n, cap⟩ ts) → St [] w w [(false, .arr at' (strs ts))] → Calls Tryd.prog 10 #[.agg #[.string cl, .string st, .string tg, .bool dn, .bool hd, .slice at' n cap]] w fun e w' => ∃ b, e = .returned (.bool b) ∧ Ext [] w w'))
    (hI : Hid (∀ (w : World), St [] w w [(false, .arr at' (strs ts)), genv] → Calls Tryd.prog 11 #[.agg #[.string cl, .string st, .string tg, .bool dn, .bool hd, .slice at' n cap]] w fun e w' => e = .returned (Vo.val ⟨0, xc, ByteArray.empty, false, false, ByteArray.empty⟩) ∧ Ext [] w w'))
    (hC : Hid (∀ (w : World), Calls Tryd.prog 14 #[.string cl] w fun e w' => e = .returned (.tuple #[.agg #[.int .i64 c1, .int .i64 c2, .int .i64 c3], .bool bc]) ∧ Ext [] w w'))
    (hL : Hid (∀ (w : World), St [] w w [(false, .arr at' (strs ts))] → Calls Tryd.prog 15 #[.slice at' n cap] w fun e w' => e = .returned (.tuple #[.agg #[.int .i64 y1, .int .i64 y2, .int .i64 y3], .bool bl]) ∧ Ext [] w w'))
    (hX : Hid (∀ (w : World), Calls Tryd.prog 14 #[.string xc] w fun e w' => e = .returned (.tuple #[.agg #[.int .i64 c1, .int .i64 y2, .int .i64 0], .bool true]) ∧ Ext [] w w'))
    (hbc : bc = true) (hbl : bl = true) (hyc : y1 = c1) (hdn : dn = false) (hS : Hid (∀ (w : World), Calls Tryd.prog 17 #[.agg #[.int .i64 c1, .int .i64 c2, .int .i64 c3], .agg #[.int .i64 c1, .int .i64 y2, .int .i64 0]] w fun e w' => e = .returned (.bool true) ∧ Ext [] w w'))  (w : World) (H : St [] w w [(false, .arr at' (strs ts)), genv]) :
    Calls Tryd.prog 4 #[.agg #[.string cl, .string st, .string tg, .bool dn, .bool hd, .slice at' n cap]] w fun e w' => e = .returned (.bool true) ∧ Ext [] w w' := by
  subst hbc hbl hyc hdn
  have hc := H.cells; simp only [CellsOf, KnCells, knc, Nat.reduceAdd] at hc
  go_enter Tryd.func4, Tryd.ntmps4
  repeat' (first | (go_big_may; (first
    | go_skip
    | (go_at_call 9; refine Calls.mono (hF.out _ (H.pick (by repeat (first | exact Picks.nil _ | (apply Picks.wr; focus (repeat (first | exact Split.here _ _ | apply Split.there))) | (apply Picks.rd; focus (repeat (first | exact Split.here _ _ | apply Split.there))))))) ?_; rintro e w' ⟨bf, rfl, H', hbf⟩; replace H := H.of_ext H'; clear H'; (try clear hc); (try simp only [nrm, splice, Value.cells, Nat.reduceAdd, Act.eval, Act.put] at H); have hc := H.cells; simp only [CellsOf, KnCells, knc, Nat.reduceAdd] at hc; cases bf)
    | (go_at_call 10; refine Calls.mono (hG.out _ (Lib.hid (hbf.out rfl)) (H.pick (by repeat (first | exact Picks.nil _ | (apply Picks.wr; focus (repeat (first | exact Split.here _ _ | apply Split.there))) | (apply Picks.rd; focus (repeat (first | exact Split.here _ _ | apply Split.there))))))) ?_; rintro e w' ⟨bg, rfl, H'⟩; replace H := H.of_ext H'; clear H'; (try clear hc); (try simp only [nrm, splice, Value.cells, Nat.reduceAdd, Act.eval, Act.put] at H); have hc := H.cells; simp only [CellsOf, KnCells, knc, Nat.reduceAdd] at hc; cases bg)
    | ((first
        | (go_at_call 11; refine Calls.mono (hI.out _ (H.pick (by repeat (first | exact Picks.nil _ | (apply Picks.wr; focus (repeat (first | exact Split.here _ _ | apply Split.there))) | (apply Picks.rd; focus (repeat (first | exact Split.here _ _ | apply Split.there))))))) ?_; rintro e w' ⟨rfl, H'⟩; replace H := H.of_ext H'; clear H')
        | (go_at_call 14; (with_reducible refine gate_args (l := [.string cl]) ?_); refine Calls.mono (hC.out _) ?_; rintro e w' ⟨rfl, H'⟩; replace H := H.of_ext H'; clear H')
        | (go_at_call 15; refine Calls.mono (hL.out _ (H.pick (by repeat (first | exact Picks.nil _ | (apply Picks.wr; focus (repeat (first | exact Split.here _ _ | apply Split.there))) | (apply Picks.rd; focus (repeat (first | exact Split.here _ _ | apply Split.there))))))) ?_; rintro e w' ⟨rfl, H'⟩; replace H := H.of_ext H'; clear H')
        | (go_at_call 14; (with_reducible refine gate_args (l := [.string xc]) ?_); refine Calls.mono (hX.out _) ?_; rintro e w' ⟨rfl, H'⟩; replace H := H.of_ext H'; clear H')
        | (go_at_call 17; refine Calls.mono (hS.out _) ?_; rintro e w' ⟨rfl, H'⟩; replace H := H.of_ext H'; clear H')
        | (refine loud_ rfl ?_; refine wpList_plain rfl (fun K hK => ?_); (first | (refine op_box _ _ rfl H (fun b w' H1 => hK _ _ ?_)) | (refine op_alloc _ rfl (zero_of _ _ rfl) H (fun b w' H1 => hK _ _ ?_)) | (refine op_store _ _ _ rfl rfl rfl H (by repeat (first | exact Split.here _ _ | apply Split.there)) (by kernel_rfl) (by kernel_rfl) (by kernel_rfl) (fun w' H1 => hK _ _ ?_)) | (refine op_buildSlice_all _ _ _ rfl (by first | exact elem22 | exact elem39 | exact elem76 | exact elem154) (by kernel_rfl) (by kernel_rfl) (by kernel_rfl) H (fun b w' H1 => hK _ _ ?_))); clear hK K; replace H := H1; clear H1)); (try clear hc); (try simp only [nrm, splice, Value.cells, Nat.reduceAdd, Act.eval, Act.put] at H); have hc := H.cells; simp only [CellsOf, KnCells, knc, Nat.reduceAdd] at hc))) | go_values | go_skip | go_guarded | go_step | go_upon | go_back | dsimp only)
  · go_ret
    exact ⟨rfl, H.ext⟩
  · go_ret
    exact ⟨rfl, H.ext⟩
  · (try simp only [Act.put, slt])
    refine wp_region_plan (.p [0, 1] (.q [2, 3] (.e 4 (.p [5, 6, 7, 8] (.q [9] (.p [10] (.q [11] (.p [12, 13, 14, 15] (.q [16] (.p [17, 18, 19] (.e 20 (.p [21, 22] .done)))))))))))) [20] (by kernel_rfl) (by kernel_rfl) (fun _ _ d _ _ h => by cases d <;> exact h) H ?_
    clear H
    (try clear hc)
    intro X nX fX wd hcf hS H
    simp only [CellsOf, KnCells, knc, Nat.reduceAdd] at hcf
    have hc := H.cells
    simp only [CellsOf, KnCells, knc, Nat.reduceAdd] at hc
    iterate 2 (refine plan_p (o := ⟨_, _, _, _, _, _⟩) rfl (fun N hN => ?_); go_big_quiet_step (fail); refine wpQuiet_nil (hN _ ?_); clear hN N)
    refine plan_p0 ?_
    first | (refine plan_q_no (o := ⟨_, _, _, _, _, _⟩) rfl rfl rfl rfl (rfl) ?_; (try simp only [Act.put, slt])) | (iterate 1 (refine plan_q (o := ⟨_, _, _, _, _, _⟩) rfl (fun N hN => ?_); go_big_quiet_step (fail); refine wpQuiet_nil (hN _ ?_); clear hN N))
    first | (refine plan_q_no (o := ⟨_, _, _, _, _, _⟩) rfl rfl rfl rfl (rfl) ?_; (try simp only [Act.put, slt])) | (iterate 1 (refine plan_q (o := ⟨_, _, _, _, _, _⟩) rfl (fun N hN => ?_); go_big_quiet_step (fail); refine wpQuiet_nil (hN _ ?_); clear hN N))
    refine plan_q0 ?_
    first
      | (refine plan_e_no (o := ⟨_, _, _, _, _, _⟩) rfl rfl rfl rfl (rfl) ?_; (try simp only [Act.put, slt]))
      | (refine plan_e_skip (o := ⟨_, _, _, _, _, _⟩) rfl rfl ?_; (try simp only [Act.put, slt]))
      | (refine plan_e (o := ⟨_, _, _, _, _, _⟩) rfl rfl (fun K hK => ?_); (first | (go_step; refine Calls.mono (verBase_at _ _ _ _) ?_; rintro e w' ⟨rfl, H'⟩; replace H := H.of_ext H'; clear H') | (go_step; refine Calls.mono (awake_calls _ (H.pick (by repeat (first | exact Picks.nil _ | (apply Picks.wr; focus (repeat (first | exact Split.here _ _ | apply Split.there))) | (apply Picks.rd; focus (repeat (first | exact Split.here _ _ | apply Split.there))))))) ?_; rintro e w' ⟨rfl, H'⟩; replace H := H.of_ext H'; clear H') | (refine op_box _ _ rfl H (fun b w' H1 => ?_); replace H := H1; clear H1) | (refine op_alloc _ rfl (zero_of _ _ rfl) H (fun b w' H1 => ?_); replace H := H1; clear H1) | (refine op_store _ _ _ rfl rfl rfl H (by repeat (first | exact Split.here _ _ | apply Split.there)) (by kernel_rfl) (by kernel_rfl) (by kernel_rfl) (fun w' H1 => ?_); replace H := H1; clear H1) | (refine op_buildSlice_all _ _ _ rfl (by first | exact elem22 | exact elem39 | exact elem76 | exact elem154) (by kernel_rfl) (by kernel_rfl) (by kernel_rfl) H (fun b w' H1 => ?_); replace H := H1; clear H1)); (try clear hc); (try simp only [nrm, splice, Value.cells, Nat.reduceAdd, Act.eval, Act.put] at H); have hc := H.cells; simp only [CellsOf, KnCells, knc, Nat.reduceAdd] at hc; refine hK _ _ (fun _ _ => hS _ (H.sublist (by repeat (first | exact List.Sublist.refl _ | apply List.Sublist.cons))).all) ?_; clear hK K; (try simp only [Act.put, slt]))
    first | (refine plan_p_no (o := ⟨_, _, _, _, _, _⟩) rfl rfl rfl rfl (rfl) ?_; (try simp only [Act.put, slt])) | (iterate 1 (refine plan_p (o := ⟨_, _, _, _, _, _⟩) rfl (fun N hN => ?_); go_big_quiet_step (fail); refine wpQuiet_nil (hN _ ?_); clear hN N))
    iterate 2 (refine plan_p (o := ⟨_, _, _, _, _, _⟩) rfl (fun N hN => ?_); go_big_quiet_step (fail); refine wpQuiet_nil (hN _ ?_); clear hN N)
    first | (refine plan_p_no (o := ⟨_, _, _, _, _, _⟩) rfl rfl rfl rfl (rfl) ?_; (try simp only [Act.put, slt])) | (iterate 1 (refine plan_p (o := ⟨_, _, _, _, _, _⟩) rfl (fun N hN => ?_); go_big_quiet_step (fail); refine wpQuiet_nil (hN _ ?_); clear hN N))
    refine plan_p0 ?_
    first | (refine plan_q_no (o := ⟨_, _, _, _, _, _⟩) rfl rfl rfl rfl (rfl) ?_; (try simp only [Act.put, slt])) | (iterate 1 (refine plan_q (o := ⟨_, _, _, _, _, _⟩) rfl (fun N hN => ?_); go_big_quiet_step (fail); refine wpQuiet_nil (hN _ ?_); clear hN N))
    refine plan_q0 ?_
    first | (refine plan_p_no (o := ⟨_, _, _, _, _, _⟩) rfl rfl rfl rfl (rfl) ?_; (try simp only [Act.put, slt])) | (iterate 1 (refine plan_p (o := ⟨_, _, _, _, _, _⟩) rfl (fun N hN => ?_); go_big_quiet_step (fail); refine wpQuiet_nil (hN _ ?_); clear hN N))
    refine plan_p0 ?_
    first | (refine plan_q_no (o := ⟨_, _, _, _, _, _⟩) rfl rfl rfl rfl (rfl) ?_; (try simp only [Act.put, slt])) | (iterate 1 (refine plan_q (o := ⟨_, _, _, _, _, _⟩) rfl (fun N hN => ?_); go_big_quiet_step (fail); refine wpQuiet_nil (hN _ ?_); clear hN N))
    refine plan_q0 ?_
    first | (refine plan_p_no (o := ⟨_, _, _, _, _, _⟩) rfl rfl rfl rfl (rfl) ?_; (try simp only [Act.put, slt])) | (iterate 1 (refine plan_p (o := ⟨_, _, _, _, _, _⟩) rfl (fun N hN => ?_); go_big_quiet_step (fail); refine wpQuiet_nil (hN _ ?_); clear hN N))
    iterate 2 (refine plan_p (o := ⟨_, _, _, _, _, _⟩) rfl (fun N hN => ?_); go_big_quiet_step (fail); refine wpQuiet_nil (hN _ ?_); clear hN N)
    first | (refine plan_p_no (o := ⟨_, _, _, _, _, _⟩) rfl rfl rfl rfl (rfl) ?_; (try simp only [Act.put, slt])) | (iterate 1 (refine plan_p (o := ⟨_, _, _, _, _, _⟩) rfl (fun N hN => ?_); go_big_quiet_step (fail); refine wpQuiet_nil (hN _ ?_); clear hN N))
    refine plan_p0 ?_
    first | (refine plan_q_no (o := ⟨_, _, _, _, _, _⟩) rfl rfl rfl rfl (rfl) ?_; (try simp only [Act.put, slt])) | (iterate 1 (refine plan_q (o := ⟨_, _, _, _, _, _⟩) rfl (fun N hN => ?_); go_big_quiet_step (fail); refine wpQuiet_nil (hN _ ?_); clear hN N))
    refine plan_q0 ?_
    first | (refine plan_p_no (o := ⟨_, _, _, _, _, _⟩) rfl rfl rfl rfl (rfl) ?_; (try simp only [Act.put, slt])) | (iterate 1 (refine plan_p (o := ⟨_, _, _, _, _, _⟩) rfl (fun N hN => ?_); go_big_quiet_step (fail); refine wpQuiet_nil (hN _ ?_); clear hN N))
    iterate 2 (refine plan_p (o := ⟨_, _, _, _, _, _⟩) rfl (fun N hN => ?_); go_big_quiet_step (fail); refine wpQuiet_nil (hN _ ?_); clear hN N)
    refine plan_p0 ?_
    first
      | (refine plan_e_no (o := ⟨_, _, _, _, _, _⟩) rfl rfl rfl rfl (rfl) ?_; (try simp only [Act.put, slt]))
      | (refine plan_e_skip (o := ⟨_, _, _, _, _, _⟩) rfl rfl ?_; (try simp only [Act.put, slt]))
      | (refine plan_e (o := ⟨_, _, _, _, _, _⟩) rfl rfl (fun K hK => ?_); (first | (go_step; refine Calls.mono (verBase_at _ _ _ _) ?_; rintro e w' ⟨rfl, H'⟩; replace H := H.of_ext H'; clear H') | (go_step; refine Calls.mono (awake_calls _ (H.pick (by repeat (first | exact Picks.nil _ | (apply Picks.wr; focus (repeat (first | exact Split.here _ _ | apply Split.there))) | (apply Picks.rd; focus (repeat (first | exact Split.here _ _ | apply Split.there))))))) ?_; rintro e w' ⟨rfl, H'⟩; replace H := H.of_ext H'; clear H') | (refine op_box _ _ rfl H (fun b w' H1 => ?_); replace H := H1; clear H1) | (refine op_alloc _ rfl (zero_of _ _ rfl) H (fun b w' H1 => ?_); replace H := H1; clear H1) | (refine op_store _ _ _ rfl rfl rfl H (by repeat (first | exact Split.here _ _ | apply Split.there)) (by kernel_rfl) (by kernel_rfl) (by kernel_rfl) (fun w' H1 => ?_); replace H := H1; clear H1) | (refine op_buildSlice_all _ _ _ rfl (by first | exact elem22 | exact elem39 | exact elem76 | exact elem154) (by kernel_rfl) (by kernel_rfl) (by kernel_rfl) H (fun b w' H1 => ?_); replace H := H1; clear H1)); (try clear hc); (try simp only [nrm, splice, Value.cells, Nat.reduceAdd, Act.eval, Act.put] at H); have hc := H.cells; simp only [CellsOf, KnCells, knc, Nat.reduceAdd] at hc; refine hK _ _ (fun h => (h (by decide)).elim) ?_; clear hK K; (try simp only [Act.put, slt]))
    iterate 2 (refine plan_p (o := ⟨_, _, _, _, _, _⟩) rfl (fun N hN => ?_); go_big_quiet_step (fail); refine wpQuiet_nil (hN _ ?_); clear hN N)
    refine plan_p0 ?_
    refine plan_done ?_
    repeat' (first | (go_big_may; (first
    | ((first
        | (refine loud_ rfl ?_; refine wpList_plain rfl (fun K hK => ?_); (first | (refine op_box _ _ rfl H (fun b w' H1 => hK _ _ ?_)) | (refine op_alloc _ rfl (zero_of _ _ rfl) H (fun b w' H1 => hK _ _ ?_)) | (refine op_store _ _ _ rfl rfl rfl H (by repeat (first | exact Split.here _ _ | apply Split.there)) (by kernel_rfl) (by kernel_rfl) (by kernel_rfl) (fun w' H1 => hK _ _ ?_)) | (refine op_buildSlice_all _ _ _ rfl (by first | exact elem22 | exact elem39 | exact elem76 | exact elem154) (by kernel_rfl) (by kernel_rfl) (by kernel_rfl) H (fun b w' H1 => hK _ _ ?_))); clear hK K; replace H := H1; clear H1)); (try clear hc); (try simp only [nrm, splice, Value.cells, Nat.reduceAdd, Act.eval, Act.put] at H); have hc := H.cells; simp only [CellsOf, KnCells, knc, Nat.reduceAdd] at hc))) | go_values | go_skip | go_guarded | go_step | go_upon | go_back | dsimp only)
    go_ret
    exact ⟨rfl, H.ext⟩
set_option maxHeartbeats 4000000 in
set_option maxRecDepth 10000 in
theorem bounds_e (cl st tg : ByteArray) (dn hd : Bool) (at' : Option Addr) (n cap : Nat) (ts : List ByteArray) (c1 c2 c3 y1 y2 y3 : Int) (bc bl : Bool) 
    (hF : Hid (∀ (w : World), St [] w w [(false, .arr at' (strs ts))] → Calls Tryd.prog 9 #[.agg #[.string cl, .string st, .string tg, .bool dn, .bool hd, .slice at' n cap]] w fun e w' => ∃ b, e = .returned (.bool b) ∧ Ext [] w w' ∧ Hid (b = true → Fits ⟨cl, st, tg, dn, hd, at', n, cap⟩ ts)))
    (hG : Hid (∀ (w : World), Hid (Fits ⟨cl, st, tg, dn, hd, at', n, cap⟩ ts) → St [] w w [(false, .arr at' (strs ts))] → Calls Tryd.prog 10 #[.agg #[.string cl, .string st, .string tg, .bool dn, .bool hd, .slice at' n cap]] w fun e w' => ∃ b, e = .returned (.bool b) ∧ Ext [] w w'))
    (hI : Hid (∀ (w : World), St [] w w [(false, .arr at' (strs ts)), genv] → Calls Tryd.prog 11 #[.agg #[.string cl, .string st, .string tg, .bool dn, .bool hd, .slice at' n cap]] w fun e w' => e = .returned (Vo.val ⟨0, tg, ByteArray.empty, false, false, ByteArray.empty⟩) ∧ Ext [] w w'))
    (hC : Hid (∀ (w : World), Calls Tryd.prog 14 #[.string cl] w fun e w' => e = .returned (.tuple #[.agg #[.int .i64 c1, .int .i64 c2, .int .i64 c3], .bool bc]) ∧ Ext [] w w'))
    (hL : Hid (∀ (w : World), St [] w w [(false, .arr at' (strs ts))] → Calls Tryd.prog 15 #[.slice at' n cap] w fun e w' => e = .returned (.tuple #[.agg #[.int .i64 y1, .int .i64 y2, .int .i64 y3], .bool bl]) ∧ Ext [] w w'))
    (hX : Hid (∀ (w : World), Calls Tryd.prog 14 #[.string tg] w fun e w' => e = .returned (.tuple #[.agg #[.int .i64 c1, .int .i64 (c2 - 1), .int .i64 0], .bool true]) ∧ Ext [] w w'))
    (hbc : bc = true) (hbl : bl = true) (hdn : dn = true) (hb1 : 0 ≤ c2) (hb2 : c2 ≤ 9999) (hS : Hid (∀ (w : World), Calls Tryd.prog 17 #[.agg #[.int .i64 c1, .int .i64 c2, .int .i64 c3], .agg #[.int .i64 c1, .int .i64 (c2 - 1), .int .i64 0]] w fun e w' => e = .returned (.bool false) ∧ Ext [] w w')) (hT : Hid (∀ (w : World), Calls Tryd.prog 18 #[.agg #[.int .i64 c1, .int .i64 (c2 - 1), .int .i64 0]] w fun e w' => e = .returned (.string tg) ∧ Ext [] w w')) (w : World) (H : St [] w w [(false, .arr at' (strs ts)), genv]) :
    Calls Tryd.prog 4 #[.agg #[.string cl, .string st, .string tg, .bool dn, .bool hd, .slice at' n cap]] w fun e w' => e = .returned (.bool true) ∧ Ext [] w w' := by
  subst hbc hbl hdn
  have hc := H.cells; simp only [CellsOf, KnCells, knc, Nat.reduceAdd] at hc
  go_enter Tryd.func4, Tryd.ntmps4
  repeat' (first | (go_big_may; (first
    | go_skip
    | (go_at_call 9; refine Calls.mono (hF.out _ (H.pick (by repeat (first | exact Picks.nil _ | (apply Picks.wr; focus (repeat (first | exact Split.here _ _ | apply Split.there))) | (apply Picks.rd; focus (repeat (first | exact Split.here _ _ | apply Split.there))))))) ?_; rintro e w' ⟨bf, rfl, H', hbf⟩; replace H := H.of_ext H'; clear H'; (try clear hc); (try simp only [nrm, splice, Value.cells, Nat.reduceAdd, Act.eval, Act.put] at H); have hc := H.cells; simp only [CellsOf, KnCells, knc, Nat.reduceAdd] at hc; cases bf)
    | (go_at_call 10; refine Calls.mono (hG.out _ (Lib.hid (hbf.out rfl)) (H.pick (by repeat (first | exact Picks.nil _ | (apply Picks.wr; focus (repeat (first | exact Split.here _ _ | apply Split.there))) | (apply Picks.rd; focus (repeat (first | exact Split.here _ _ | apply Split.there))))))) ?_; rintro e w' ⟨bg, rfl, H'⟩; replace H := H.of_ext H'; clear H'; (try clear hc); (try simp only [nrm, splice, Value.cells, Nat.reduceAdd, Act.eval, Act.put] at H); have hc := H.cells; simp only [CellsOf, KnCells, knc, Nat.reduceAdd] at hc; cases bg)
    | ((first
        | (go_at_call 11; refine Calls.mono (hI.out _ (H.pick (by repeat (first | exact Picks.nil _ | (apply Picks.wr; focus (repeat (first | exact Split.here _ _ | apply Split.there))) | (apply Picks.rd; focus (repeat (first | exact Split.here _ _ | apply Split.there))))))) ?_; rintro e w' ⟨rfl, H'⟩; replace H := H.of_ext H'; clear H')
        | (go_at_call 14; (with_reducible refine gate_args (l := [.string cl]) ?_); refine Calls.mono (hC.out _) ?_; rintro e w' ⟨rfl, H'⟩; replace H := H.of_ext H'; clear H')
        | (go_at_call 15; refine Calls.mono (hL.out _ (H.pick (by repeat (first | exact Picks.nil _ | (apply Picks.wr; focus (repeat (first | exact Split.here _ _ | apply Split.there))) | (apply Picks.rd; focus (repeat (first | exact Split.here _ _ | apply Split.there))))))) ?_; rintro e w' ⟨rfl, H'⟩; replace H := H.of_ext H'; clear H')
        | (go_at_call 14; (with_reducible refine gate_args (l := [.string tg]) ?_); refine Calls.mono (hX.out _) ?_; rintro e w' ⟨rfl, H'⟩; replace H := H.of_ext H'; clear H')
        | (go_at_call 17; refine Calls.mono (hS.out _) ?_; rintro e w' ⟨rfl, H'⟩; replace H := H.of_ext H'; clear H')
        | (refine loud_ rfl ?_; refine wpList_plain rfl (fun K hK => ?_); (first | (refine op_box _ _ rfl H (fun b w' H1 => hK _ _ ?_)) | (refine op_alloc _ rfl (zero_of _ _ rfl) H (fun b w' H1 => hK _ _ ?_)) | (refine op_store _ _ _ rfl rfl rfl H (by repeat (first | exact Split.here _ _ | apply Split.there)) (by kernel_rfl) (by kernel_rfl) (by kernel_rfl) (fun w' H1 => hK _ _ ?_)) | (refine op_buildSlice_all _ _ _ rfl (by first | exact elem22 | exact elem39 | exact elem76 | exact elem154) (by kernel_rfl) (by kernel_rfl) (by kernel_rfl) H (fun b w' H1 => hK _ _ ?_))); clear hK K; replace H := H1; clear H1)); (try clear hc); (try simp only [nrm, splice, Value.cells, Nat.reduceAdd, Act.eval, Act.put] at H); have hc := H.cells; simp only [CellsOf, KnCells, knc, Nat.reduceAdd] at hc))) | go_values | go_skip | go_guarded | go_step | go_upon | go_back | dsimp only)
  · go_ret
    exact ⟨rfl, H.ext⟩
  · go_ret
    exact ⟨rfl, H.ext⟩
  · (try simp only [Act.put, slt])
    refine wp_region_plan (.p [0] (.q [1] (.p [2, 3] (.q [4] (.p [5] (.q [6] (.p [7] (.q [8] (.p [9, 10] (.e 11 (.p [12, 13, 14, 15] (.q [16] (.p [17] (.q [18] (.p [19, 20, 21] (.e 22 (.p [23, 24] .done))))))))))))))))) [22] (by kernel_rfl) (by kernel_rfl) (fun _ _ d _ _ h => by cases d <;> exact h) H ?_
    clear H
    (try clear hc)
    intro X nX fX wd hcf hS H
    simp only [CellsOf, KnCells, knc, Nat.reduceAdd] at hcf
    have hc := H.cells
    simp only [CellsOf, KnCells, knc, Nat.reduceAdd] at hc
    iterate 1 (refine plan_p (o := ⟨_, _, _, _, _, _⟩) rfl (fun N hN => ?_); go_big_quiet_step (fail); refine wpQuiet_nil (hN _ ?_); clear hN N)
    refine plan_p0 ?_
    iterate 1 (refine plan_q (o := ⟨_, _, _, _, _, _⟩) rfl (fun N hN => ?_); go_big_quiet_step (fail); refine wpQuiet_nil (hN _ ?_); clear hN N)
    refine plan_q0 ?_
    iterate 1 (refine plan_p (o := ⟨_, _, _, _, _, _⟩) rfl (fun N hN => ?_); go_big_quiet_step (fail); refine wpQuiet_nil (hN _ ?_); clear hN N)
    first | (refine plan_p_no (o := ⟨_, _, _, _, _, _⟩) rfl rfl rfl rfl (rfl) ?_; (try simp only [Act.put, slt])) | (iterate 1 (refine plan_p (o := ⟨_, _, _, _, _, _⟩) rfl (fun N hN => ?_); go_big_quiet_step (fail); refine wpQuiet_nil (hN _ ?_); clear hN N))
    refine plan_p0 ?_
    first | (refine plan_q_no (o := ⟨_, _, _, _, _, _⟩) rfl rfl rfl rfl (rfl) ?_; (try simp only [Act.put, slt])) | (iterate 1 (refine plan_q (o := ⟨_, _, _, _, _, _⟩) rfl (fun N hN => ?_); go_big_quiet_step (fail); refine wpQuiet_nil (hN _ ?_); clear hN N))
    refine plan_q0 ?_
    first | (refine plan_p_no (o := ⟨_, _, _, _, _, _⟩) rfl rfl rfl rfl (rfl) ?_; (try simp only [Act.put, slt])) | (iterate 1 (refine plan_p (o := ⟨_, _, _, _, _, _⟩) rfl (fun N hN => ?_); go_big_quiet_step (fail); refine wpQuiet_nil (hN _ ?_); clear hN N))
    refine plan_p0 ?_
    first | (refine plan_q_no (o := ⟨_, _, _, _, _, _⟩) rfl rfl rfl rfl (rfl) ?_; (try simp only [Act.put, slt])) | (iterate 1 (refine plan_q (o := ⟨_, _, _, _, _, _⟩) rfl (fun N hN => ?_); go_big_quiet_step (fail); refine wpQuiet_nil (hN _ ?_); clear hN N))
    refine plan_q0 ?_
    first | (refine plan_p_no (o := ⟨_, _, _, _, _, _⟩) rfl rfl rfl rfl (rfl) ?_; (try simp only [Act.put, slt])) | (iterate 1 (refine plan_p (o := ⟨_, _, _, _, _, _⟩) rfl (fun N hN => ?_); go_big_quiet_step (fail); refine wpQuiet_nil (hN _ ?_); clear hN N))
    refine plan_p0 ?_
    first | (refine plan_q_no (o := ⟨_, _, _, _, _, _⟩) rfl rfl rfl rfl (rfl) ?_; (try simp only [Act.put, slt])) | (iterate 1 (refine plan_q (o := ⟨_, _, _, _, _, _⟩) rfl (fun N hN => ?_); go_big_quiet_step (fail); refine wpQuiet_nil (hN _ ?_); clear hN N))
    refine plan_q0 ?_
    first | (refine plan_p_no (o := ⟨_, _, _, _, _, _⟩) rfl rfl rfl rfl (rfl) ?_; (try simp only [Act.put, slt])) | (iterate 1 (refine plan_p (o := ⟨_, _, _, _, _, _⟩) rfl (fun N hN => ?_); go_big_quiet_step (fail); refine wpQuiet_nil (hN _ ?_); clear hN N))
    first | (refine plan_p_no (o := ⟨_, _, _, _, _, _⟩) rfl rfl rfl rfl (rfl) ?_; (try simp only [Act.put, slt])) | (iterate 1 (refine plan_p (o := ⟨_, _, _, _, _, _⟩) rfl (fun N hN => ?_); go_big_quiet_step (fail); refine wpQuiet_nil (hN _ ?_); clear hN N))
    refine plan_p0 ?_
    first
      | (refine plan_e_no (o := ⟨_, _, _, _, _, _⟩) rfl rfl rfl rfl (rfl) ?_; (try simp only [Act.put, slt]))
      | (refine plan_e_skip (o := ⟨_, _, _, _, _, _⟩) rfl rfl ?_; (try simp only [Act.put, slt]))
      | (refine plan_e (o := ⟨_, _, _, _, _, _⟩) rfl rfl (fun K hK => ?_); (first | (go_step; refine Calls.mono (hT.out _) ?_; rintro e w' ⟨rfl, H'⟩; replace H := H.of_ext H'; clear H') | (go_step; refine Calls.mono (awake_calls _ (H.pick (by repeat (first | exact Picks.nil _ | (apply Picks.wr; focus (repeat (first | exact Split.here _ _ | apply Split.there))) | (apply Picks.rd; focus (repeat (first | exact Split.here _ _ | apply Split.there))))))) ?_; rintro e w' ⟨rfl, H'⟩; replace H := H.of_ext H'; clear H') | (refine op_box _ _ rfl H (fun b w' H1 => ?_); replace H := H1; clear H1) | (refine op_alloc _ rfl (zero_of _ _ rfl) H (fun b w' H1 => ?_); replace H := H1; clear H1) | (refine op_store _ _ _ rfl rfl rfl H (by repeat (first | exact Split.here _ _ | apply Split.there)) (by kernel_rfl) (by kernel_rfl) (by kernel_rfl) (fun w' H1 => ?_); replace H := H1; clear H1) | (refine op_buildSlice_all _ _ _ rfl (by first | exact elem22 | exact elem39 | exact elem76 | exact elem154) (by kernel_rfl) (by kernel_rfl) (by kernel_rfl) H (fun b w' H1 => ?_); replace H := H1; clear H1)); (try clear hc); (try simp only [nrm, splice, Value.cells, Nat.reduceAdd, Act.eval, Act.put] at H); have hc := H.cells; simp only [CellsOf, KnCells, knc, Nat.reduceAdd] at hc; refine hK _ _ (fun _ _ => hS _ (H.sublist (by repeat (first | exact List.Sublist.refl _ | apply List.Sublist.cons))).all) ?_; clear hK K; (try simp only [Act.put, slt]))
    first | (refine plan_p_no (o := ⟨_, _, _, _, _, _⟩) rfl rfl rfl rfl (rfl) ?_; (try simp only [Act.put, slt])) | (iterate 1 (refine plan_p (o := ⟨_, _, _, _, _, _⟩) rfl (fun N hN => ?_); go_big_quiet_step (fail); refine wpQuiet_nil (hN _ ?_); clear hN N))
    iterate 2 (refine plan_p (o := ⟨_, _, _, _, _, _⟩) rfl (fun N hN => ?_); go_big_quiet_step (fail); refine wpQuiet_nil (hN _ ?_); clear hN N)
    first | (refine plan_p_no (o := ⟨_, _, _, _, _, _⟩) rfl rfl rfl rfl (rfl) ?_; (try simp only [Act.put, slt])) | (iterate 1 (refine plan_p (o := ⟨_, _, _, _, _, _⟩) rfl (fun N hN => ?_); go_big_quiet_step (fail); refine wpQuiet_nil (hN _ ?_); clear hN N))
    refine plan_p0 ?_
    first | (refine plan_q_no (o := ⟨_, _, _, _, _, _⟩) rfl rfl rfl rfl (rfl) ?_; (try simp only [Act.put, slt])) | (iterate 1 (refine plan_q (o := ⟨_, _, _, _, _, _⟩) rfl (fun N hN => ?_); go_big_quiet_step (fail); refine wpQuiet_nil (hN _ ?_); clear hN N))
    refine plan_q0 ?_
    first | (refine plan_p_no (o := ⟨_, _, _, _, _, _⟩) rfl rfl rfl rfl (rfl) ?_; (try simp only [Act.put, slt])) | (iterate 1 (refine plan_p (o := ⟨_, _, _, _, _, _⟩) rfl (fun N hN => ?_); go_big_quiet_step (fail); refine wpQuiet_nil (hN _ ?_); clear hN N))
    refine plan_p0 ?_
    first | (refine plan_q_no (o := ⟨_, _, _, _, _, _⟩) rfl rfl rfl rfl (rfl) ?_; (try simp only [Act.put, slt])) | (iterate 1 (refine plan_q (o := ⟨_, _, _, _, _, _⟩) rfl (fun N hN => ?_); go_big_quiet_step (fail); refine wpQuiet_nil (hN _ ?_); clear hN N))
    refine plan_q0 ?_
    first | (refine plan_p_no (o := ⟨_, _, _, _, _, _⟩) rfl rfl rfl rfl (rfl) ?_; (try simp only [Act.put, slt])) | (iterate 1 (refine plan_p (o := ⟨_, _, _, _, _, _⟩) rfl (fun N hN => ?_); go_big_quiet_step (fail); refine wpQuiet_nil (hN _ ?_); clear hN N))
    iterate 2 (refine plan_p (o := ⟨_, _, _, _, _, _⟩) rfl (fun N hN => ?_); go_big_quiet_step (fail); refine wpQuiet_nil (hN _ ?_); clear hN N)
    refine plan_p0 ?_
    first
      | (refine plan_e_no (o := ⟨_, _, _, _, _, _⟩) rfl rfl rfl rfl (rfl) ?_; (try simp only [Act.put, slt]))
      | (refine plan_e_skip (o := ⟨_, _, _, _, _, _⟩) rfl rfl ?_; (try simp only [Act.put, slt]))
      | (refine plan_e (o := ⟨_, _, _, _, _, _⟩) rfl rfl (fun K hK => ?_); (first | (go_step; refine Calls.mono (hT.out _) ?_; rintro e w' ⟨rfl, H'⟩; replace H := H.of_ext H'; clear H') | (go_step; refine Calls.mono (awake_calls _ (H.pick (by repeat (first | exact Picks.nil _ | (apply Picks.wr; focus (repeat (first | exact Split.here _ _ | apply Split.there))) | (apply Picks.rd; focus (repeat (first | exact Split.here _ _ | apply Split.there))))))) ?_; rintro e w' ⟨rfl, H'⟩; replace H := H.of_ext H'; clear H') | (refine op_box _ _ rfl H (fun b w' H1 => ?_); replace H := H1; clear H1) | (refine op_alloc _ rfl (zero_of _ _ rfl) H (fun b w' H1 => ?_); replace H := H1; clear H1) | (refine op_store _ _ _ rfl rfl rfl H (by repeat (first | exact Split.here _ _ | apply Split.there)) (by kernel_rfl) (by kernel_rfl) (by kernel_rfl) (fun w' H1 => ?_); replace H := H1; clear H1) | (refine op_buildSlice_all _ _ _ rfl (by first | exact elem22 | exact elem39 | exact elem76 | exact elem154) (by kernel_rfl) (by kernel_rfl) (by kernel_rfl) H (fun b w' H1 => ?_); replace H := H1; clear H1)); (try clear hc); (try simp only [nrm, splice, Value.cells, Nat.reduceAdd, Act.eval, Act.put] at H); have hc := H.cells; simp only [CellsOf, KnCells, knc, Nat.reduceAdd] at hc; refine hK _ _ (fun h => (h (by decide)).elim) ?_; clear hK K; (try simp only [Act.put, slt]))
    iterate 2 (refine plan_p (o := ⟨_, _, _, _, _, _⟩) rfl (fun N hN => ?_); go_big_quiet_step (fail); refine wpQuiet_nil (hN _ ?_); clear hN N)
    refine plan_p0 ?_
    refine plan_done ?_
    repeat' (first | (go_big_may; (first
    | ((first
        | (refine loud_ rfl ?_; refine wpList_plain rfl (fun K hK => ?_); (first | (refine op_box _ _ rfl H (fun b w' H1 => hK _ _ ?_)) | (refine op_alloc _ rfl (zero_of _ _ rfl) H (fun b w' H1 => hK _ _ ?_)) | (refine op_store _ _ _ rfl rfl rfl H (by repeat (first | exact Split.here _ _ | apply Split.there)) (by kernel_rfl) (by kernel_rfl) (by kernel_rfl) (fun w' H1 => hK _ _ ?_)) | (refine op_buildSlice_all _ _ _ rfl (by first | exact elem22 | exact elem39 | exact elem76 | exact elem154) (by kernel_rfl) (by kernel_rfl) (by kernel_rfl) H (fun b w' H1 => hK _ _ ?_))); clear hK K; replace H := H1; clear H1)); (try clear hc); (try simp only [nrm, splice, Value.cells, Nat.reduceAdd, Act.eval, Act.put] at H); have hc := H.cells; simp only [CellsOf, KnCells, knc, Nat.reduceAdd] at hc))) | go_values | go_skip | go_guarded | go_step | go_upon | go_back | dsimp only)
    go_ret
    exact ⟨rfl, H.ext⟩
end Go.Proofs.YtdcijhdjddiboaaDoor
