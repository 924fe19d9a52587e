import Derived.Test.YtelddhcggmfloaaCkI
-- MORE
-- SUB2
namespace Go.Proofs.Ytelddhcggmfloaa
set_option linter.unusedVariables false
set_option linter.unusedSimpArgs false
set_option linter.unnecessarySimpa false
open Go Go.RowKit Go.V

/-- The address of the lock: a part without cells. -/
theorem part_mux {w : World} {cb hb : Nat} {last : Int} (hw : w.heap[cb]? = some (chkO hb last)) : (partAt ⟨cb, 0, none⟩ 2 24).run Try.prog w = .ok ⟨cb, 2, none⟩ w := by
  have hs : w.shape? cb = some (87, 3) := by
    unfold World.shape?
    rw [hw]
    rfl
  have hb0 : byteOfCell Try.prog Try.prog.depth 87 0 = some 0 := by kernel_rfl
  have hb2 : byteOfCell Try.prog Try.prog.depth 87 2 = some 24 := by kernel_rfl
  have hc : Try.prog.cellsOf 87 = 3 := by kernel_rfl
  have hrs : (shape cb).run Try.prog w = .ok (some (87, 3)) w := by
    show (Sem.shape cb .pure).run Try.prog w = _
    rw [Sem.run, hs]
    rfl
  unfold partAt byteOf noView viewAt
  simp [hrs, hb0, hb2, hc, Result.andThen]
theorem op_mux {w : World} {o : Oper} {a : Act} {K : Act → World → Prop} {Q : Exit → Act → World → Prop} (x : Operand) (ho : o.op = .fieldAddr 87 x 2) {cb hb : Nat} {last : Int} (hx : a.eval x = pt cb) (hw : w.heap[cb]? = some (chkO hb last))
    (h : K (a.put o.dst (.pointer (some ⟨cb, 2, none⟩))) w) : o.wp Try.prog a w K Q := by
  refine op_val ?_ h
  have hp := part_mux hw
  unfold execOp
  rw [ho]
  simp only [Sem.run_bind, Sem.run_pure, hx]
  simp [go_sem, hp, Result.andThen]
set_option maxRecDepth 8000 in
theorem lock_calls (v : Value) (w : World) : Calls Try.prog 69 #[v] w fun e w' => e = .returned (.tuple #[]) ∧ Ext [] w w' := by
  have H := St.init [] w
  go_enter Try.func69, Try.ntmps69
  repeat' (first | (go_big_may; (first
    | ((first
        | (refine loud_ rfl ?_; refine wpList_plain rfl (fun K hK => ?_); (first | (refine op_box _ _ rfl H (fun b w' H1 => hK _ _ ?_)) | (refine op_alloc _ rfl (zero_of _ _ rfl) H (fun b w' H1 => hK _ _ ?_)) | (refine op_store _ _ _ rfl rfl rfl H (by repeat (first | exact Split.here _ _ | apply Split.there)) (by kernel_rfl) (by kernel_rfl) (by kernel_rfl) (fun w' H1 => hK _ _ ?_)) | (refine op_buildSlice_all _ _ _ rfl (by first | exact elem25 | exact elem32 | exact elem35 | exact elem36 | exact elem37 | exact elem38 | exact elem41 | exact elem42 | exact elem45 | exact elem57 | exact elem62 | exact elem74 | exact elem98 | exact elem100 | exact elem137 | exact elem178 | exact elem179) (by kernel_rfl) (by kernel_rfl) (by kernel_rfl) H (fun b w' H1 => hK _ _ ?_))); clear hK K; replace H := H1; clear H1)); (try clear hc); (try simp only [nrm, splice, Value.cells, Nat.reduceAdd, Act.eval, Act.put] at H); have hc := H.cells; simp only [CellsOf, KnCells, knc, Nat.reduceAdd] at hc))) | go_values | go_skip | go_guarded | go_step | go_upon | go_back | dsimp only)
  go_end0
  exact ⟨rfl, H.ext⟩
set_option maxRecDepth 8000 in
theorem unlock_calls (v : Value) (w : World) : Calls Try.prog 70 #[v] w fun e w' => e = .returned (.tuple #[]) ∧ Ext [] w w' := by
  have H := St.init [] w
  go_enter Try.func70, Try.ntmps70
  repeat' (first | (go_big_may; (first
    | ((first
        | (refine loud_ rfl ?_; refine wpList_plain rfl (fun K hK => ?_); (first | (refine op_box _ _ rfl H (fun b w' H1 => hK _ _ ?_)) | (refine op_alloc _ rfl (zero_of _ _ rfl) H (fun b w' H1 => hK _ _ ?_)) | (refine op_store _ _ _ rfl rfl rfl H (by repeat (first | exact Split.here _ _ | apply Split.there)) (by kernel_rfl) (by kernel_rfl) (by kernel_rfl) (fun w' H1 => hK _ _ ?_)) | (refine op_buildSlice_all _ _ _ rfl (by first | exact elem25 | exact elem32 | exact elem35 | exact elem36 | exact elem37 | exact elem38 | exact elem41 | exact elem42 | exact elem45 | exact elem57 | exact elem62 | exact elem74 | exact elem98 | exact elem100 | exact elem137 | exact elem178 | exact elem179) (by kernel_rfl) (by kernel_rfl) (by kernel_rfl) H (fun b w' H1 => hK _ _ ?_))); clear hK K; replace H := H1; clear H1)); (try clear hc); (try simp only [nrm, splice, Value.cells, Nat.reduceAdd, Act.eval, Act.put] at H); have hc := H.cells; simp only [CellsOf, KnCells, knc, Nat.reduceAdd] at hc))) | go_values | go_skip | go_guarded | go_step | go_upon | go_back | dsimp only)
  go_end0
  exact ⟨rfl, H.ext⟩
set_option maxRecDepth 8000 in
theorem rlock_calls (v : Value) (w : World) : Calls Try.prog 55 #[v] w fun e w' => e = .returned (.tuple #[]) ∧ Ext [] w w' := by
  have H := St.init [] w
  go_enter Try.func55, Try.ntmps55
  repeat' (first | (go_big_may; (first
    | ((first
        | (refine loud_ rfl ?_; refine wpList_plain rfl (fun K hK => ?_); (first | (refine op_box _ _ rfl H (fun b w' H1 => hK _ _ ?_)) | (refine op_alloc _ rfl (zero_of _ _ rfl) H (fun b w' H1 => hK _ _ ?_)) | (refine op_store _ _ _ rfl rfl rfl H (by repeat (first | exact Split.here _ _ | apply Split.there)) (by kernel_rfl) (by kernel_rfl) (by kernel_rfl) (fun w' H1 => hK _ _ ?_)) | (refine op_buildSlice_all _ _ _ rfl (by first | exact elem25 | exact elem32 | exact elem35 | exact elem36 | exact elem37 | exact elem38 | exact elem41 | exact elem42 | exact elem45 | exact elem57 | exact elem62 | exact elem74 | exact elem98 | exact elem100 | exact elem137 | exact elem178 | exact elem179) (by kernel_rfl) (by kernel_rfl) (by kernel_rfl) H (fun b w' H1 => hK _ _ ?_))); clear hK K; replace H := H1; clear H1)); (try clear hc); (try simp only [nrm, splice, Value.cells, Nat.reduceAdd, Act.eval, Act.put] at H); have hc := H.cells; simp only [CellsOf, KnCells, knc, Nat.reduceAdd] at hc))) | go_values | go_skip | go_guarded | go_step | go_upon | go_back | dsimp only)
  go_end0
  exact ⟨rfl, H.ext⟩
set_option maxRecDepth 8000 in
theorem runlock_calls (v : Value) (w : World) : Calls Try.prog 56 #[v] w fun e w' => e = .returned (.tuple #[]) ∧ Ext [] w w' := by
  have H := St.init [] w
  go_enter Try.func56, Try.ntmps56
  repeat' (first | (go_big_may; (first
    | ((first
        | (refine loud_ rfl ?_; refine wpList_plain rfl (fun K hK => ?_); (first | (refine op_box _ _ rfl H (fun b w' H1 => hK _ _ ?_)) | (refine op_alloc _ rfl (zero_of _ _ rfl) H (fun b w' H1 => hK _ _ ?_)) | (refine op_store _ _ _ rfl rfl rfl H (by repeat (first | exact Split.here _ _ | apply Split.there)) (by kernel_rfl) (by kernel_rfl) (by kernel_rfl) (fun w' H1 => hK _ _ ?_)) | (refine op_buildSlice_all _ _ _ rfl (by first | exact elem25 | exact elem32 | exact elem35 | exact elem36 | exact elem37 | exact elem38 | exact elem41 | exact elem42 | exact elem45 | exact elem57 | exact elem62 | exact elem74 | exact elem98 | exact elem100 | exact elem137 | exact elem178 | exact elem179) (by kernel_rfl) (by kernel_rfl) (by kernel_rfl) H (fun b w' H1 => hK _ _ ?_))); clear hK K; replace H := H1; clear H1)); (try clear hc); (try simp only [nrm, splice, Value.cells, Nat.reduceAdd, Act.eval, Act.put] at H); have hc := H.cells; simp only [CellsOf, KnCells, knc, Nat.reduceAdd] at hc))) | go_values | go_skip | go_guarded | go_step | go_upon | go_back | dsimp only)
  go_end0
  exact ⟨rfl, H.ext⟩
set_option maxRecDepth 8000 in
set_option maxHeartbeats 1000000 in
theorem handle_calls (cb hb : Nat) (last : Int) (h : KH) (m n : Nat) (S : List Nat) (w : World) (H : St S w w [(true, .is cb (chkO hb last))]) :
    Calls Try.prog 60 #[pt cb, h.val, .int .i64 m, .int .i64 n] w fun e w' => ∃ r last', Hid (r = decide (m = n) ∧ last' = if m = n then max last h.rev else last) ∧ e = .returned (.bool r) ∧ St S w w' [(true, .is cb (chkO hb last'))] := by
  obtain ⟨fh, fc, fr⟩ := h
  by_cases e1 : m = n
  · subst e1
    by_cases e2 : last < fr
    · have hc := H.cells; simp only [CellsOf, KnCells, knc, Nat.reduceAdd] at hc
      go_enter Try.func60, Try.ntmps60
      repeat' (first | (go_big_may; (first
    | go_skip
    | (refine wpList_plain rfl (fun K hK => ?_); refine op_mux _ rfl rfl (H.obj (b := cb) (by repeat (first | exact Split.here _ _ | apply Split.there))) (hK _ _ ?_); clear hK K)
    | ((first
        | (go_at_call 69; refine Calls.mono (lock_calls _ _) ?_; rintro e w' ⟨rfl, H'⟩; replace H := H.of_ext H'; clear H')
        | (refine loud_ rfl ?_; refine wpList_plain rfl (fun K hK => ?_); (first | (refine op_box _ _ rfl H (fun b w' H1 => hK _ _ ?_)) | (refine op_alloc _ rfl (zero_of _ _ rfl) H (fun b w' H1 => hK _ _ ?_)) | (refine op_store _ _ _ rfl rfl rfl H (by repeat (first | exact Split.here _ _ | apply Split.there)) (by kernel_rfl) (by kernel_rfl) (by kernel_rfl) (fun w' H1 => hK _ _ ?_)) | (refine op_buildSlice_all _ _ _ rfl (by first | exact elem25 | exact elem32 | exact elem35 | exact elem36 | exact elem37 | exact elem38 | exact elem41 | exact elem42 | exact elem45 | exact elem57 | exact elem62 | exact elem74 | exact elem98 | exact elem100 | exact elem137 | exact elem178 | exact elem179) (by kernel_rfl) (by kernel_rfl) (by kernel_rfl) H (fun b w' H1 => hK _ _ ?_))); clear hK K; replace H := H1; clear H1)); (try clear hc); (try simp only [nrm, splice, Value.cells, Nat.reduceAdd, Act.eval, Act.put] at H); have hc := H.cells; simp only [CellsOf, KnCells, knc, Nat.reduceAdd] at hc))) | go_values | go_skip | go_guarded | go_step | go_upon | go_back | dsimp only)
      (try simp only [Act.put, slt])
      refine wp_region_plan (.p [0] (.q [1] (.p [2, 3, 4] (.q [5] (.p [6] .done))))) [] (by kernel_rfl) (by kernel_rfl) (fun _ _ d _ _ h => by cases d <;> exact h) H ?_
      clear H
      (try clear hc)
      intro X nX fX wd hcf hS H
      simp only [CellsOf, KnCells, knc, Nat.reduceAdd] at hcf
      have hc := H.cells
      simp only [CellsOf, KnCells, knc, Nat.reduceAdd] at hc
      iterate 1 (refine plan_p (o := ⟨_, _, _, _, _, _⟩) rfl (fun N hN => ?_); go_big_quiet_step (fail); refine wpQuiet_nil (hN _ ?_); clear hN N)
      refine plan_p0 ?_
      iterate 1 (refine plan_q (o := ⟨_, _, _, _, _, _⟩) rfl (fun N hN => ?_); go_big_quiet_step (fail); refine wpQuiet_nil (hN _ ?_); clear hN N)
      refine plan_q0 ?_
      iterate 3 (refine plan_p (o := ⟨_, _, _, _, _, _⟩) rfl (fun N hN => ?_); go_big_quiet_step (fail); refine wpQuiet_nil (hN _ ?_); clear hN N)
      refine plan_p0 ?_
      iterate 1 (refine plan_q (o := ⟨_, _, _, _, _, _⟩) rfl (fun N hN => ?_); go_big_quiet_step (fail); refine wpQuiet_nil (hN _ ?_); clear hN N)
      refine plan_q0 ?_
      iterate 1 (refine plan_p (o := ⟨_, _, _, _, _, _⟩) rfl (fun N hN => ?_); go_big_quiet_step (fail); refine wpQuiet_nil (hN _ ?_); clear hN N)
      refine plan_p0 ?_
      refine plan_done ?_
      repeat' (first | (go_big_may; (first
    | go_skip
    | (refine wpList_plain rfl (fun K hK => ?_); refine op_mux _ rfl rfl (H.obj (b := cb) (by repeat (first | exact Split.here _ _ | apply Split.there))) (hK _ _ ?_); clear hK K)
    | ((first
        | (go_at_call 70; refine Calls.mono (unlock_calls _ _) ?_; rintro e w' ⟨rfl, H'⟩; replace H := H.of_ext H'; clear H')
        | (refine loud_ rfl ?_; refine wpList_plain rfl (fun K hK => ?_); (first | (refine op_box _ _ rfl H (fun b w' H1 => hK _ _ ?_)) | (refine op_alloc _ rfl (zero_of _ _ rfl) H (fun b w' H1 => hK _ _ ?_)) | (refine op_store _ _ _ rfl rfl rfl H (by repeat (first | exact Split.here _ _ | apply Split.there)) (by kernel_rfl) (by kernel_rfl) (by kernel_rfl) (fun w' H1 => hK _ _ ?_)) | (refine op_buildSlice_all _ _ _ rfl (by first | exact elem25 | exact elem32 | exact elem35 | exact elem36 | exact elem37 | exact elem38 | exact elem41 | exact elem42 | exact elem45 | exact elem57 | exact elem62 | exact elem74 | exact elem98 | exact elem100 | exact elem137 | exact elem178 | exact elem179) (by kernel_rfl) (by kernel_rfl) (by kernel_rfl) H (fun b w' H1 => hK _ _ ?_))); clear hK K; replace H := H1; clear H1)); (try clear hc); (try simp only [nrm, splice, Value.cells, Nat.reduceAdd, Act.eval, Act.put] at H); have hc := H.cells; simp only [CellsOf, KnCells, knc, Nat.reduceAdd] at hc))) | go_values | go_skip | go_guarded | go_step | go_upon | go_back | dsimp only)
      go_ret
      exact ⟨true, fr, ⟨by simp, by simp; omega⟩, rfl, H.sel (by repeat (first | exact Sel.nil _ | (apply Sel.cons; focus (repeat (first | exact Split.here _ _ | apply Split.there)))))⟩
    · have hc := H.cells; simp only [CellsOf, KnCells, knc, Nat.reduceAdd] at hc
      go_enter Try.func60, Try.ntmps60
      repeat' (first | (go_big_may; (first
    | go_skip
    | (refine wpList_plain rfl (fun K hK => ?_); refine op_mux _ rfl rfl (H.obj (b := cb) (by repeat (first | exact Split.here _ _ | apply Split.there))) (hK _ _ ?_); clear hK K)
    | ((first
        | (go_at_call 69; refine Calls.mono (lock_calls _ _) ?_; rintro e w' ⟨rfl, H'⟩; replace H := H.of_ext H'; clear H')
        | (refine loud_ rfl ?_; refine wpList_plain rfl (fun K hK => ?_); (first | (refine op_box _ _ rfl H (fun b w' H1 => hK _ _ ?_)) | (refine op_alloc _ rfl (zero_of _ _ rfl) H (fun b w' H1 => hK _ _ ?_)) | (refine op_store _ _ _ rfl rfl rfl H (by repeat (first | exact Split.here _ _ | apply Split.there)) (by kernel_rfl) (by kernel_rfl) (by kernel_rfl) (fun w' H1 => hK _ _ ?_)) | (refine op_buildSlice_all _ _ _ rfl (by first | exact elem25 | exact elem32 | exact elem35 | exact elem36 | exact elem37 | exact elem38 | exact elem41 | exact elem42 | exact elem45 | exact elem57 | exact elem62 | exact elem74 | exact elem98 | exact elem100 | exact elem137 | exact elem178 | exact elem179) (by kernel_rfl) (by kernel_rfl) (by kernel_rfl) H (fun b w' H1 => hK _ _ ?_))); clear hK K; replace H := H1; clear H1)); (try clear hc); (try simp only [nrm, splice, Value.cells, Nat.reduceAdd, Act.eval, Act.put] at H); have hc := H.cells; simp only [CellsOf, KnCells, knc, Nat.reduceAdd] at hc))) | go_values | go_skip | go_guarded | go_step | go_upon | go_back | dsimp only)
      (try simp only [Act.put, slt])
      refine wp_region_plan (.p [0] (.q [1] (.p [2, 3, 4] (.q [5] (.p [6] .done))))) [] (by kernel_rfl) (by kernel_rfl) (fun _ _ d _ _ h => by cases d <;> exact h) H ?_
      clear H
      (try clear hc)
      intro X nX fX wd hcf hS H
      simp only [CellsOf, KnCells, knc, Nat.reduceAdd] at hcf
      have hc := H.cells
      simp only [CellsOf, KnCells, knc, Nat.reduceAdd] at hc
      iterate 1 (refine plan_p (o := ⟨_, _, _, _, _, _⟩) rfl (fun N hN => ?_); go_big_quiet_step (fail); refine wpQuiet_nil (hN _ ?_); clear hN N)
      refine plan_p0 ?_
      iterate 1 (refine plan_q (o := ⟨_, _, _, _, _, _⟩) rfl (fun N hN => ?_); go_big_quiet_step (fail); refine wpQuiet_nil (hN _ ?_); clear hN N)
      refine plan_q0 ?_
      iterate 3 (refine plan_p (o := ⟨_, _, _, _, _, _⟩) rfl (fun N hN => ?_); go_big_quiet_step (fail); refine wpQuiet_nil (hN _ ?_); clear hN N)
      refine plan_p0 ?_
      iterate 1 (refine plan_q (o := ⟨_, _, _, _, _, _⟩) rfl (fun N hN => ?_); go_big_quiet_step (fail); refine wpQuiet_nil (hN _ ?_); clear hN N)
      refine plan_q0 ?_
      iterate 1 (refine plan_p (o := ⟨_, _, _, _, _, _⟩) rfl (fun N hN => ?_); go_big_quiet_step (fail); refine wpQuiet_nil (hN _ ?_); clear hN N)
      refine plan_p0 ?_
      refine plan_done ?_
      repeat' (first | (go_big_may; (first
    | go_skip
    | (refine wpList_plain rfl (fun K hK => ?_); refine op_mux _ rfl rfl (H.obj (b := cb) (by repeat (first | exact Split.here _ _ | apply Split.there))) (hK _ _ ?_); clear hK K)
    | ((first
        | (go_at_call 70; refine Calls.mono (unlock_calls _ _) ?_; rintro e w' ⟨rfl, H'⟩; replace H := H.of_ext H'; clear H')
        | (refine loud_ rfl ?_; refine wpList_plain rfl (fun K hK => ?_); (first | (refine op_box _ _ rfl H (fun b w' H1 => hK _ _ ?_)) | (refine op_alloc _ rfl (zero_of _ _ rfl) H (fun b w' H1 => hK _ _ ?_)) | (refine op_store _ _ _ rfl rfl rfl H (by repeat (first | exact Split.here _ _ | apply Split.there)) (by kernel_rfl) (by kernel_rfl) (by kernel_rfl) (fun w' H1 => hK _ _ ?_)) | (refine op_buildSlice_all _ _ _ rfl (by first | exact elem25 | exact elem32 | exact elem35 | exact elem36 | exact elem37 | exact elem38 | exact elem41 | exact elem42 | exact elem45 | exact elem57 | exact elem62 | exact elem74 | exact elem98 | exact elem100 | exact elem137 | exact elem178 | exact elem179) (by kernel_rfl) (by kernel_rfl) (by kernel_rfl) H (fun b w' H1 => hK _ _ ?_))); clear hK K; replace H := H1; clear H1)); (try clear hc); (try simp only [nrm, splice, Value.cells, Nat.reduceAdd, Act.eval, Act.put] at H); have hc := H.cells; simp only [CellsOf, KnCells, knc, Nat.reduceAdd] at hc))) | go_values | go_skip | go_guarded | go_step | go_upon | go_back | dsimp only)
      go_ret
      exact ⟨true, last, ⟨by simp, by simp; omega⟩, rfl, H.sel (by repeat (first | exact Sel.nil _ | (apply Sel.cons; focus (repeat (first | exact Split.here _ _ | apply Split.there)))))⟩
  · have e1' : ¬ ((m : Int) = (n : Int)) := by omega
    have hc := H.cells; simp only [CellsOf, KnCells, knc, Nat.reduceAdd] at hc
    go_enter Try.func60, Try.ntmps60
    repeat' (first | (go_big_may; (first
    | ((first
        | (refine loud_ rfl ?_; refine wpList_plain rfl (fun K hK => ?_); (first | (refine op_box _ _ rfl H (fun b w' H1 => hK _ _ ?_)) | (refine op_alloc _ rfl (zero_of _ _ rfl) H (fun b w' H1 => hK _ _ ?_)) | (refine op_store _ _ _ rfl rfl rfl H (by repeat (first | exact Split.here _ _ | apply Split.there)) (by kernel_rfl) (by kernel_rfl) (by kernel_rfl) (fun w' H1 => hK _ _ ?_)) | (refine op_buildSlice_all _ _ _ rfl (by first | exact elem25 | exact elem32 | exact elem35 | exact elem36 | exact elem37 | exact elem38 | exact elem41 | exact elem42 | exact elem45 | exact elem57 | exact elem62 | exact elem74 | exact elem98 | exact elem100 | exact elem137 | exact elem178 | exact elem179) (by kernel_rfl) (by kernel_rfl) (by kernel_rfl) H (fun b w' H1 => hK _ _ ?_))); clear hK K; replace H := H1; clear H1)); (try clear hc); (try simp only [nrm, splice, Value.cells, Nat.reduceAdd, Act.eval, Act.put] at H); have hc := H.cells; simp only [CellsOf, KnCells, knc, Nat.reduceAdd] at hc))) | go_values | go_skip | go_guarded | go_step | go_upon | go_back | dsimp only)
    go_ret
    exact ⟨false, last, ⟨by simp [e1], by simp [e1]⟩, rfl, H.sel (by repeat (first | exact Sel.nil _ | (apply Sel.cons; focus (repeat (first | exact Split.here _ _ | apply Split.there)))))⟩
theorem ents_of {es : Array MapEntry} {gs : List Gp} (h : KV1 uk es (gAL gs)) : (∀ e ∈ es.toList, ∃ g ∈ gs, e.key = uk g.hash ∧ e.val = g.val) ∧ (∀ g ∈ gs, ∃ e ∈ es.toList, e.key = uk g.hash ∧ e.val = g.val) := by
  have h1 : es.toList.map (fun e => (e.key, e.val)) = gs.map (fun g => (uk g.hash, g.val)) := by
    have := h
    unfold KV1 gAL at this
    rw [this, List.map_map]
    rfl
  refine ⟨fun e he => ?_, fun g hg => ?_⟩
  · have : (e.key, e.val) ∈ es.toList.map (fun e => (e.key, e.val)) := List.mem_map.2 ⟨e, he, rfl⟩
    rw [h1] at this
    obtain ⟨g, hg, hk⟩ := List.mem_map.1 this
    simp only [Prod.mk.injEq] at hk
    exact ⟨g, hg, hk.1.symm, hk.2.symm⟩
  · have : (uk g.hash, g.val) ∈ gs.map (fun g => (uk g.hash, g.val)) := List.mem_map.2 ⟨g, hg, rfl⟩
    rw [← h1] at this
    obtain ⟨e, he, hk⟩ := List.mem_map.1 this
    simp only [Prod.mk.injEq] at hk
    exact ⟨e, he, hk.1, hk.2⟩
theorem once_hash {gs : List Gp} (h : AOnce (gAL gs)) : (gs.map Gp.hash).Nodup := by
  have := h
  unfold AOnce gAL at this
  rw [List.map_map] at this
  exact this
theorem once_eq {gs : List Gp} (h : AOnce (gAL gs)) {a b : Gp} (ha : a ∈ gs) (hb : b ∈ gs) (e : a.hash = b.hash) : a = b := map_inj_of_nodup Gp.hash (once_hash h) ha hb e
theorem adel_mid {A B : List Gp} {g : Gp} (h : AOnce (gAL (A ++ g :: B))) : adel (gAL (A ++ g :: B)) g.hash = gAL (A ++ B) := by
  induction A with
  | nil =>
    show (if g.hash = g.hash then _ else _) = _
    rw [if_pos rfl]
    rfl
  | cons x A ih =>
    have h1 := once_hash h
    simp only [List.cons_append, List.map_cons, List.nodup_cons, List.map_append] at h1
    have hx : ¬ x.hash = g.hash := fun e => h1.1 (by rw [e]; simp)
    show (if x.hash = g.hash then _ else (x.hash, x.val) :: adel (gAL (A ++ g :: B)) g.hash) = _
    rw [if_neg hx, ih]
    · rfl
    · have := h
      unfold AOnce gAL at this ⊢
      simp only [List.cons_append, List.map_cons, List.nodup_cons] at this
      exact this.2
theorem gval_hash {a b : Gp} (h : a.val = b.val) : a.b = b.b ∧ a.ids.length = b.ids.length ∧ a.cap = b.cap := by
  unfold Gp.val at h
  simpa using h
theorem gl_perm {es : Array MapEntry} {gs1 : List MapEntry} {gs gl : List Gp} (hp : gs1.Perm es.toList) (hk : KV1 uk es (gAL gs)) (ho : AOnce (gAL gs)) (hm : gs1.map (·.key) = gl.map fun g => uk g.hash) (hg : ∀ g ∈ gl, g ∈ gs) : gl.Perm gs := by
  have h1 : es.toList.map (·.key) = gs.map (fun g => uk g.hash) := by
    have := congrArg (List.map Prod.fst) hk
    simpa [gAL, List.map_map, Function.comp_def] using this
  have h2 : (gl.map Gp.hash).Perm (gs.map Gp.hash) := by
    have h3 := (hp.map (·.key))
    rw [hm, h1] at h3
    have h4 := h3.map (fun v => match v with | Value.int _ n => n | _ => 0)
    simpa [List.map_map, Function.comp_def] using h4
  have hn := once_hash ho
  have hn2 : (gl.map Gp.hash).Nodup := h2.nodup_iff.2 hn
  refine (List.perm_ext_iff_of_nodup (nodup_of_map _ hn2) (nodup_of_map _ hn)).2 fun x => ⟨hg x, fun hx => ?_⟩
  obtain ⟨y, hy, hyx⟩ := List.mem_map.1 (h2.mem_iff.2 (List.mem_map_of_mem hx))
  have : y = x := once_eq ho (hg y hy) hx hyx
  exact this ▸ hy
theorem filt_mid {A B : List Gp} {g : Gp} (h : AOnce (gAL (A ++ g :: B))) : (((A ++ g :: B).map Gp.pl).filter fun y => decide (y.1 ≠ g.hash)) = (A ++ B).map Gp.pl := by
  have hn := once_hash h
  rw [List.map_append, List.map_cons, List.nodup_append] at hn
  obtain ⟨_, h2, h3⟩ := hn
  rw [List.nodup_cons] at h2
  rw [List.map_append, List.map_cons, List.filter_append, List.filter_cons, List.map_append]
  have hg : decide (g.pl.1 ≠ g.hash) = false := by simp [Gp.pl]
  rw [hg]
  congr 1
  · rw [List.filter_eq_self]
    intro x hx
    obtain ⟨a, ha, rfl⟩ := List.mem_map.1 hx
    have := h3 a.hash (List.mem_map_of_mem ha) g.hash (by simp)
    exact decide_eq_true this
  · show List.filter _ (B.map Gp.pl) = _
    rw [List.filter_eq_self]
    intro x hx
    obtain ⟨a, ha, rfl⟩ := List.mem_map.1 hx
    have : a.hash ≠ g.hash := fun e => h2.1 (e ▸ List.mem_map_of_mem ha)
    exact decide_eq_true this
theorem once_mid {A B : List Gp} {g : Gp} (h : AOnce (gAL (A ++ g :: B))) : AOnce (gAL (A ++ B)) := by
  unfold AOnce gAL at *
  simp only [List.map_append, List.map_cons] at h ⊢
  exact h.sublist (List.Sublist.append_left (List.sublist_cons_self _ _) _)
end Go.Proofs.Ytelddhcggmfloaa
