import Derived.Test.YtikaldcoakpfoaaGreatDoorSetG
import Derived.Deep.DeepCutAuto
-- MORE
-- SUB2
namespace Go.Proofs.YtikaldcoakpfoaaGreatDoor
set_option linter.unusedVariables false
set_option linter.unusedSimpArgs false
set_option linter.unnecessarySimpa false
open Go Go.RowKit Go.V Go.Lib

/-! Sets of processors. -/
theorem cpuU : Tryz.prog.underlying 40 = some (.map 3 62) := Tryz.underlying40
set_option maxHeartbeats 800000 in
set_option maxRecDepth 8000 in
theorem ccont_calls (m clock : Nat) (es : Array MapEntry) (l : List Int) (k : Int) (hl : Hid (SetI es clock l)) (w : World) (hm : w.heap[m]? = some (.map es clock)) :
    Calls Tryz.prog 34 #[setV m, .int .i64 k] w fun e w' => e = .returned (.bool (decide (k ∈ l))) ∧ Ext [] w w' := by
  have H : St [] w w [(false, .is m (.map es clock))] := (St.init [] w).read _ hm (by simp)
  go_enter Tryz.func34, Tryz.ntmps34
  repeat' (first | (go_big_may; (first
    | go_skip
    | (refine wpList_plain rfl (fun K hK => ?_); refine op_has _ _ _ _ _ rfl cpuU keyN zeroS rfl rfl (H.obj (b := m) (by repeat (first | exact Split.here _ _ | apply Split.there))) hl.out (hK _ _ ?_); clear hK K)
    | ((first
        | (refine loud_ rfl ?_; refine wpList_plain rfl (fun K hK => ?_); (first | (refine op_box _ _ rfl H (fun b w' H1 => hK _ _ ?_)) | (refine op_alloc _ rfl (zero_of _ _ rfl) H (fun b w' H1 => hK _ _ ?_)) | (refine op_store _ _ _ rfl rfl rfl H (by repeat (first | exact Split.here _ _ | apply Split.there)) (by kernel_rfl) (by kernel_rfl) (by kernel_rfl) (fun w' H1 => hK _ _ ?_)) | (refine op_buildSlice_all _ _ _ rfl (by first | exact elem22 | exact elem60 | exact elem66 | exact elem72 | exact elem74) (by kernel_rfl) (by kernel_rfl) (by kernel_rfl) H (fun b w' H1 => hK _ _ ?_))); clear hK K; replace H := H1; clear H1)); (try clear hc); (try simp only [nrm, splice, Value.cells, Nat.reduceAdd, Act.eval, Act.put] at H); have hc := H.cells; simp only [CellsOf, KnCells, knc, Nat.reduceAdd] at hc))) | go_values | go_skip | go_guarded | go_step | go_upon | go_back | dsimp only)
  go_ret
  exact ⟨rfl, H.ext⟩
set_option maxHeartbeats 800000 in
set_option maxRecDepth 8000 in
theorem clIntersection_calls (bx m clock : Nat) (es : Array MapEntry) (l : List Int) (k : Int) (q : Bool) (hq : Hid ((decide (k ∈ l)) = q)) (hl : Hid (SetI es clock l)) (w : World) (H : St [] w w [(false, .is bx (setObj m)), (false, .is m (.map es clock))]) :
    Calls Tryz.prog 50 #[.int .i64 k, .pointer (some ⟨bx, 0, none⟩)] w fun e w' => e = .returned (.bool q) ∧ Ext [] w w' := by
  rw [← hq.out]
  have hc := H.cells; simp only [CellsOf, KnCells, knc, Nat.reduceAdd] at hc
  go_enter Tryz.func50, Tryz.ntmps50
  repeat' (first | (go_big_may; (first
    | go_skip
    | ((first
        | (go_at_call 34; refine Calls.mono (ccont_calls m clock es l k hl _ (H.obj (b := m) (by repeat (first | exact Split.here _ _ | apply Split.there)))) ?_; rintro e w' ⟨rfl, H'⟩; replace H := H.of_ext H'; clear H')
        | (refine loud_ rfl ?_; refine wpList_plain rfl (fun K hK => ?_); (first | (refine op_box _ _ rfl H (fun b w' H1 => hK _ _ ?_)) | (refine op_alloc _ rfl (zero_of _ _ rfl) H (fun b w' H1 => hK _ _ ?_)) | (refine op_store _ _ _ rfl rfl rfl H (by repeat (first | exact Split.here _ _ | apply Split.there)) (by kernel_rfl) (by kernel_rfl) (by kernel_rfl) (fun w' H1 => hK _ _ ?_)) | (refine op_buildSlice_all _ _ _ rfl (by first | exact elem22 | exact elem60 | exact elem66 | exact elem72 | exact elem74) (by kernel_rfl) (by kernel_rfl) (by kernel_rfl) H (fun b w' H1 => hK _ _ ?_))); clear hK K; replace H := H1; clear H1)); (try clear hc); (try simp only [nrm, splice, Value.cells, Nat.reduceAdd, Act.eval, Act.put] at H); have hc := H.cells; simp only [CellsOf, KnCells, knc, Nat.reduceAdd] at hc))) | go_values | go_skip | go_guarded | go_step | go_upon | go_back | dsimp only)
  go_ret
  exact ⟨rfl, H.ext⟩
set_option maxHeartbeats 800000 in
set_option maxRecDepth 8000 in
theorem clDifference_calls (bx m clock : Nat) (es : Array MapEntry) (l : List Int) (k : Int) (q : Bool) (hq : Hid ((!decide (k ∈ l)) = q)) (hl : Hid (SetI es clock l)) (w : World) (H : St [] w w [(false, .is bx (setObj m)), (false, .is m (.map es clock))]) :
    Calls Tryz.prog 51 #[.int .i64 k, .pointer (some ⟨bx, 0, none⟩)] w fun e w' => e = .returned (.bool q) ∧ Ext [] w w' := by
  rw [← hq.out]
  have hc := H.cells; simp only [CellsOf, KnCells, knc, Nat.reduceAdd] at hc
  go_enter Tryz.func51, Tryz.ntmps51
  repeat' (first | (go_big_may; (first
    | go_skip
    | ((first
        | (go_at_call 34; refine Calls.mono (ccont_calls m clock es l k hl _ (H.obj (b := m) (by repeat (first | exact Split.here _ _ | apply Split.there)))) ?_; rintro e w' ⟨rfl, H'⟩; replace H := H.of_ext H'; clear H')
        | (refine loud_ rfl ?_; refine wpList_plain rfl (fun K hK => ?_); (first | (refine op_box _ _ rfl H (fun b w' H1 => hK _ _ ?_)) | (refine op_alloc _ rfl (zero_of _ _ rfl) H (fun b w' H1 => hK _ _ ?_)) | (refine op_store _ _ _ rfl rfl rfl H (by repeat (first | exact Split.here _ _ | apply Split.there)) (by kernel_rfl) (by kernel_rfl) (by kernel_rfl) (fun w' H1 => hK _ _ ?_)) | (refine op_buildSlice_all _ _ _ rfl (by first | exact elem22 | exact elem60 | exact elem66 | exact elem72 | exact elem74) (by kernel_rfl) (by kernel_rfl) (by kernel_rfl) H (fun b w' H1 => hK _ _ ?_))); clear hK K; replace H := H1; clear H1)); (try clear hc); (try simp only [nrm, splice, Value.cells, Nat.reduceAdd, Act.eval, Act.put] at H); have hc := H.cells; simp only [CellsOf, KnCells, knc, Nat.reduceAdd] at hc))) | go_values | go_skip | go_guarded | go_step | go_upon | go_back | dsimp only)
  go_ret
  exact ⟨rfl, H.ext⟩
def AtFc (w : World) (m r bx rx ry mr clock : Nat) (es : Array MapEntry) (p : Int → Prop) (L : List Ent) (wr : World) : Prop := ∃ (seen : Array Nat) (gs : List MapEntry) (er : Array MapEntry) (cr : Nat) (lr : List Int), Hid (SeenIs es seen gs) ∧ Hid (FiltIs p gs lr) ∧ Hid (SetI er cr lr) ∧
  St [] w wr ((true, .is mr (.map er cr)) :: (true, .is r (.mapIter (some m) clock seen clock)) :: (true, .is rx (setObj mr)) :: (true, .is ry set0) :: (true, .is bx (setObj m)) :: (false, .is m (.map es clock)) :: L)
theorem makeIntersection (b2 : Nat) (w : World) : (Instr.makeFunc (.func 50) #[] #[.pointer (some ⟨b2, 0, none⟩)]).run Tryz.prog w = .ok (.func (.func 50) #[] #[.pointer (some ⟨b2, 0, none⟩)]) w := rfl
set_option maxHeartbeats 800000 in
set_option maxRecDepth 8000 in
theorem filterIntersection_calls (m clock b2 m2 clock2 : Nat) (es es2 : Array MapEntry) (l l2 : List Int) (hl : Hid (SetI es clock l)) (hl2 : Hid (SetI es2 clock2 l2)) (w : World) (H : St [] w w [(false, .is m (.map es clock)), (false, .is b2 (setObj m2)), (false, .is m2 (.map es2 clock2))]) :
    Calls Tryz.prog 49 #[setV m, (.func (.func 50) #[] #[.pointer (some ⟨b2, 0, none⟩)])] w fun e w' => ∃ mr er cr lr, Hid (SetI er cr lr ∧ lr.length ≤ l.length ∧ ∀ x, x ∈ lr ↔ x ∈ l ∧ (fun x => x ∈ l2) x) ∧ e = .returned (setV mr) ∧ St [] w w' [(true, .is mr (.map er cr))] := by
  go_enter Tryz.func49, Tryz.ntmps49
  repeat' (first | (go_big_may; (first
    | go_skip
    | (refine wpList_plain rfl (fun K hK => ?_); (refine op_range _ _ _ _ rfl cpuU (es := es) (clock := clock) rfl H (H.obj (b := m) (by repeat (first | exact Split.here _ _ | apply Split.there))) (fun r w' H1 => hK _ _ ?_); clear hK K; replace H := H1; clear H1; (try clear hc); (try simp only [nrm, splice, Value.cells, Nat.reduceAdd, Act.eval, Act.put] at H); have hc := H.cells; simp only [CellsOf, KnCells, knc, Nat.reduceAdd] at hc))
    | ((first
        | (go_at_call 27; refine Calls.mono (new0_calls _) ?_; rintro e w' ⟨mr, er0, cr0, hs0, rfl, H'⟩; replace H := H.merge (by first | exact Strikes.nil _ | (repeat (first | exact Strikes.nil _ | (apply Strikes.cons; focus (repeat (first | exact Split.here _ _ | apply Split.there)))))) H' rfl; clear H')
        | (refine loud_ rfl ?_; refine wpList_plain rfl (fun K hK => ?_); (first | (refine op_box _ _ rfl H (fun b w' H1 => hK _ _ ?_)) | (refine op_alloc _ rfl (zero_of _ _ rfl) H (fun b w' H1 => hK _ _ ?_)) | (refine op_store _ _ _ rfl rfl rfl H (by repeat (first | exact Split.here _ _ | apply Split.there)) (by kernel_rfl) (by kernel_rfl) (by kernel_rfl) (fun w' H1 => hK _ _ ?_)) | (refine op_buildSlice_all _ _ _ rfl (by first | exact elem22 | exact elem60 | exact elem66 | exact elem72 | exact elem74) (by kernel_rfl) (by kernel_rfl) (by kernel_rfl) H (fun b w' H1 => hK _ _ ?_))); clear hK K; replace H := H1; clear H1)); (try clear hc); (try simp only [nrm, splice, Value.cells, Nat.reduceAdd, Act.eval, Act.put] at H); have hc := H.cells; simp only [CellsOf, KnCells, knc, Nat.reduceAdd] at hc))) | go_values | go_skip | go_guarded | go_step | go_upon | go_back | dsimp only)
  (try simp only [Act.put, slt])
  obtain ⟨rx, rfl⟩ : ∃ q, q = b := ⟨_, rfl⟩
  obtain ⟨ry, rfl⟩ : ∃ q, q = b := ⟨_, rfl⟩
  obtain ⟨bx, rfl⟩ : ∃ q, q = b := ⟨_, rfl⟩
  have hA0 : AtFc w m r bx rx ry mr clock es (fun x => x ∈ l2) [(false, .is b2 (setObj m2)), (false, .is m2 (.map es2 clock2))] w' := ⟨#[], [], er0, cr0, [], seen_nil _, filt_nil _, hs0, H.sel (by repeat (first | exact Sel.nil _ | (apply Sel.cons; focus (repeat (first | exact Split.here _ _ | apply Split.there)))))⟩
  clear H hs0
  (try clear hc)
  go_loopw [] (AtFc w m r bx rx ry mr clock es (fun x => x ∈ l2) [(false, .is b2 (setObj m2)), (false, .is m2 (.map es2 clock2))]) (fun wr => wr.rangeLeft m r)
  case atStart => exact hA0
  case round =>
    clear hA0
    obtain ⟨seen, gs, er, cr, lr, hs, hfi, hset, H⟩ := hrel
    have hleft := Lib.hid (range_left (H.obj (b := m) (by repeat (first | exact Split.here _ _ | apply Split.there))) (H.obj (b := r) (by repeat (first | exact Split.here _ _ | apply Split.there))))
    have hborn := hl.out.2.1
    have hnd := hl.out.2.2.1
    have hkeys := Lib.hid (setM_keys hl.out)
    by_cases hlf : (leftOf es seen).size = 0
    · have hall := Lib.hid (keyIn_all hkeys.out (seen_all hs.out hlf hnd))
      have hgl := Lib.hid (seen_all hs.out hlf hnd).length_eq
      have hc := H.cells; simp only [CellsOf, KnCells, knc, Nat.reduceAdd] at hc
      repeat' (first | (go_big_may; (first
    | go_skip
    | (refine wpList_plain rfl (fun K hK => ?_); refine op_next_done _ rfl rfl H (by repeat (first | exact Split.here _ _ | apply Split.there)) (H.obj (by repeat (first | exact Split.here _ _ | apply Split.there))) hborn (Nat.le_refl _) hlf (hK _ _ ?_); clear hK K)
    | ((first
        | (refine loud_ rfl ?_; refine wpList_plain rfl (fun K hK => ?_); (first | (refine op_box _ _ rfl H (fun b w' H1 => hK _ _ ?_)) | (refine op_alloc _ rfl (zero_of _ _ rfl) H (fun b w' H1 => hK _ _ ?_)) | (refine op_store _ _ _ rfl rfl rfl H (by repeat (first | exact Split.here _ _ | apply Split.there)) (by kernel_rfl) (by kernel_rfl) (by kernel_rfl) (fun w' H1 => hK _ _ ?_)) | (refine op_buildSlice_all _ _ _ rfl (by first | exact elem22 | exact elem60 | exact elem66 | exact elem72 | exact elem74) (by kernel_rfl) (by kernel_rfl) (by kernel_rfl) H (fun b w' H1 => hK _ _ ?_))); clear hK K; replace H := H1; clear H1)); (try clear hc); (try simp only [nrm, splice, Value.cells, Nat.reduceAdd, Act.eval, Act.put] at H); have hc := H.cells; simp only [CellsOf, KnCells, knc, Nat.reduceAdd] at hc))) | go_values | go_skip | go_guarded | go_step | go_upon | go_back | dsimp only)
      have hfin : Hid (∀ x, x ∈ lr ↔ x ∈ l ∧ (fun x => x ∈ l2) x) := by
        intro x
        rw [hfi.out.1, hall.out]
      have hfl : lr.length ≤ l.length := by have := hfi.out.2; have := hgl.out; have := setM_size hl.out; simp at *; omega
      have hc := H.cells; simp only [CellsOf, KnCells, knc, Nat.reduceAdd] at hc
      exact bodyPost_ret (v := setV mr) (by simp [results, Tryz.results49, go_sem, hc, Act.put]; try rfl) rfl ⟨mr, er, cr, lr, ⟨hset.out, hfl, hfin.out⟩, rfl, H.sel (by repeat (first | exact Sel.nil _ | (apply Sel.cons; focus (repeat (first | exact Split.here _ _ | apply Split.there)))))⟩
    · have hc := H.cells; simp only [CellsOf, KnCells, knc, Nat.reduceAdd] at hc
      go_upto_region 4 with (first
    | go_skip
    | (refine wpList_plain rfl (fun K hK => ?_); (refine op_next_more _ rfl rfl H (by repeat (first | exact Split.here _ _ | apply Split.there)) (H.obj (by repeat (first | exact Split.here _ _ | apply Split.there))) hborn (Nat.le_refl _) hlf (fun en w' he H1 => hK _ _ ?_); clear hK K; replace H := H1; clear H1; (try clear hc); (try simp only [nrm, splice, Value.cells, Nat.reduceAdd, Act.eval, Act.put] at H); have hc := H.cells; simp only [CellsOf, KnCells, knc, Nat.reduceAdd] at hc))
    | ((first
        | (refine loud_ rfl ?_; refine wpList_plain rfl (fun K hK => ?_); (first | (refine op_box _ _ rfl H (fun b w' H1 => hK _ _ ?_)) | (refine op_alloc _ rfl (zero_of _ _ rfl) H (fun b w' H1 => hK _ _ ?_)) | (refine op_store _ _ _ rfl rfl rfl H (by repeat (first | exact Split.here _ _ | apply Split.there)) (by kernel_rfl) (by kernel_rfl) (by kernel_rfl) (fun w' H1 => hK _ _ ?_)) | (refine op_buildSlice_all _ _ _ rfl (by first | exact elem22 | exact elem60 | exact elem66 | exact elem72 | exact elem74) (by kernel_rfl) (by kernel_rfl) (by kernel_rfl) H (fun b w' H1 => hK _ _ ?_))); clear hK K; replace H := H1; clear H1)); (try clear hc); (try simp only [nrm, splice, Value.cells, Nat.reduceAdd, Act.eval, Act.put] at H); have hc := H.cells; simp only [CellsOf, KnCells, knc, Nat.reduceAdd] at hc))
      have hlt := Lib.hid (left_shrinks es seen en he)
      have hsp := Lib.hid (seen_push hs.out he)
      have hmem := Lib.hid (mem_left he).1
      obtain ⟨sk, hsk⟩ : ∃ k, en.key = ki k := by
        have : en.key ∈ es.toList.map (·.key) := List.mem_map.2 ⟨en, hmem.out, rfl⟩
        rw [hkeys.out] at this
        obtain ⟨k, _, hk⟩ := List.mem_map.1 this
        exact ⟨k, hk.symm⟩
      clear he
      obtain ⟨ky, vl, bo⟩ := en
      simp only at hsk
      subst hsk
      by_cases hq : sk ∈ l2
      · have hd : decide (sk ∈ l2) = true := by simpa using hq
        have hdn : Hid ((decide (sk ∈ l2)) = true) := by show _ = _; rw [hd] <;> try rfl
        have hfi2 := Lib.hid (filt_in (v := vl) (b := bo) hfi.out (k := sk) (by exact hq))
        have hq2 := Lib.hid hq
        clear hq
        have hc := H.cells; simp only [CellsOf, KnCells, knc, Nat.reduceAdd] at hc
        repeat' (first | (go_big_may; (first
    | go_skip
    | (refine wpList_plain rfl (fun K hK => ?_); refine op_entry _ rfl rfl H (by repeat (first | exact Split.here _ _ | apply Split.there)) (H.obj (by repeat (first | exact Split.here _ _ | apply Split.there))) hmem.out hnd (hK _ _ ?_); clear hK K)
    | ((first
        | (go_at_call 50; refine Calls.mono (clIntersection_calls b2 m2 clock2 es2 l2 sk true hdn hl2 _ (H.pick (by repeat (first | exact Picks.nil _ | (apply Picks.wr; focus (repeat (first | exact Split.here _ _ | apply Split.there))) | (apply Picks.rd; focus (repeat (first | exact Split.here _ _ | apply Split.there))))))) ?_; rintro e w' ⟨rfl, H'⟩; replace H := H.of_ext H'; clear H')
        | (go_at_call 46; refine Calls.mono (add1_calls _ mr _ sk er cr lr hset _ (H.pick (by repeat (first | exact Picks.nil _ | (apply Picks.wr; focus (repeat (first | exact Split.here _ _ | apply Split.there))) | (apply Picks.rd; focus (repeat (first | exact Split.here _ _ | apply Split.there))))))) ?_; rintro e w' ⟨es', clock', hset', rfl, H'⟩; replace H := H.merge (by first | exact Strikes.nil _ | (repeat (first | exact Strikes.nil _ | (apply Strikes.cons; focus (repeat (first | exact Split.here _ _ | apply Split.there)))))) H' rfl; clear H')
        | (refine loud_ rfl ?_; refine wpList_plain rfl (fun K hK => ?_); (first | (refine op_box _ _ rfl H (fun b w' H1 => hK _ _ ?_)) | (refine op_alloc _ rfl (zero_of _ _ rfl) H (fun b w' H1 => hK _ _ ?_)) | (refine op_store _ _ _ rfl rfl rfl H (by repeat (first | exact Split.here _ _ | apply Split.there)) (by kernel_rfl) (by kernel_rfl) (by kernel_rfl) (fun w' H1 => hK _ _ ?_)) | (refine op_buildSlice_all _ _ _ rfl (by first | exact elem22 | exact elem60 | exact elem66 | exact elem72 | exact elem74) (by kernel_rfl) (by kernel_rfl) (by kernel_rfl) H (fun b w' H1 => hK _ _ ?_))); clear hK K; replace H := H1; clear H1)); (try clear hc); (try simp only [nrm, splice, Value.cells, Nat.reduceAdd, Act.eval, Act.put] at H); have hc := H.cells; simp only [CellsOf, KnCells, knc, Nat.reduceAdd] at hc))) | go_values | go_skip | go_guarded | go_step | go_upon | go_back | dsimp only)
        exact ⟨⟨_, _, es', clock', _, hsp.out, hfi2, hset', H.sel (by repeat (first | exact Sel.nil _ | (apply Sel.cons; focus (repeat (first | exact Split.here _ _ | apply Split.there)))))⟩, by have hleft2 := range_left (H.obj (b := m) (by repeat (first | exact Split.here _ _ | apply Split.there))) (H.obj (b := r) (by repeat (first | exact Split.here _ _ | apply Split.there))); rw [hleft2, hleft.out]; exact hlt.out⟩
      · have hd : decide (sk ∈ l2) = false := by simpa using hq
        have hdn : Hid ((decide (sk ∈ l2)) = false) := by show _ = _; rw [hd] <;> try rfl
        have hfi2 := Lib.hid (filt_out (v := vl) (b := bo) hfi.out (k := sk) (by exact hq))
        have hq2 := Lib.hid hq
        clear hq
        have hc := H.cells; simp only [CellsOf, KnCells, knc, Nat.reduceAdd] at hc
        repeat' (first | (go_big_may; (first
    | go_skip
    | (refine wpList_plain rfl (fun K hK => ?_); refine op_entry _ rfl rfl H (by repeat (first | exact Split.here _ _ | apply Split.there)) (H.obj (by repeat (first | exact Split.here _ _ | apply Split.there))) hmem.out hnd (hK _ _ ?_); clear hK K)
    | ((first
        | (go_at_call 50; refine Calls.mono (clIntersection_calls b2 m2 clock2 es2 l2 sk false hdn hl2 _ (H.pick (by repeat (first | exact Picks.nil _ | (apply Picks.wr; focus (repeat (first | exact Split.here _ _ | apply Split.there))) | (apply Picks.rd; focus (repeat (first | exact Split.here _ _ | apply Split.there))))))) ?_; rintro e w' ⟨rfl, H'⟩; replace H := H.of_ext H'; clear H')
        | (refine loud_ rfl ?_; refine wpList_plain rfl (fun K hK => ?_); (first | (refine op_box _ _ rfl H (fun b w' H1 => hK _ _ ?_)) | (refine op_alloc _ rfl (zero_of _ _ rfl) H (fun b w' H1 => hK _ _ ?_)) | (refine op_store _ _ _ rfl rfl rfl H (by repeat (first | exact Split.here _ _ | apply Split.there)) (by kernel_rfl) (by kernel_rfl) (by kernel_rfl) (fun w' H1 => hK _ _ ?_)) | (refine op_buildSlice_all _ _ _ rfl (by first | exact elem22 | exact elem60 | exact elem66 | exact elem72 | exact elem74) (by kernel_rfl) (by kernel_rfl) (by kernel_rfl) H (fun b w' H1 => hK _ _ ?_))); clear hK K; replace H := H1; clear H1)); (try clear hc); (try simp only [nrm, splice, Value.cells, Nat.reduceAdd, Act.eval, Act.put] at H); have hc := H.cells; simp only [CellsOf, KnCells, knc, Nat.reduceAdd] at hc))) | go_values | go_skip | go_guarded | go_step | go_upon | go_back | dsimp only)
        exact ⟨⟨_, _, er, cr, _, hsp.out, hfi2, hset, H.sel (by repeat (first | exact Sel.nil _ | (apply Sel.cons; focus (repeat (first | exact Split.here _ _ | apply Split.there)))))⟩, by have hleft2 := range_left (H.obj (b := m) (by repeat (first | exact Split.here _ _ | apply Split.there))) (H.obj (b := r) (by repeat (first | exact Split.here _ _ | apply Split.there))); rw [hleft2, hleft.out]; exact hlt.out⟩
set_option maxHeartbeats 800000 in
set_option maxRecDepth 8000 in
theorem cIntersection_calls (m clock m2 clock2 : Nat) (es es2 : Array MapEntry) (l l2 : List Int) (hl : Hid (SetI es clock l)) (hl2 : Hid (SetI es2 clock2 l2)) (w : World) (H : St [] w w [(false, .is m (.map es clock)), (false, .is m2 (.map es2 clock2))]) :
    Calls Tryz.prog 30 #[setV m, setV m2] w fun e w' => ∃ mr er cr lr, Hid (SetI er cr lr ∧ lr.length ≤ l.length ∧ ∀ x, x ∈ lr ↔ x ∈ l ∧ (fun x => x ∈ l2) x) ∧ e = .returned (setV mr) ∧ St [] w w' [(true, .is mr (.map er cr))] := by
  have hmf := fun b2 w => makeIntersection b2 w
  go_enter Tryz.func30, Tryz.ntmps30
  repeat' (first | (go_big_may; (first
    | go_skip
    | ((first
        | (go_at_call 49; refine Calls.mono (filterIntersection_calls m clock _ m2 clock2 es es2 l l2 hl hl2 _ (H.pick (by repeat (first | exact Picks.nil _ | (apply Picks.wr; focus (repeat (first | exact Split.here _ _ | apply Split.there))) | (apply Picks.rd; focus (repeat (first | exact Split.here _ _ | apply Split.there))))))) ?_; rintro e w' ⟨mr, er, cr, lr, hr, rfl, H'⟩; replace H := H.merge (by first | exact Strikes.nil _ | (repeat (first | exact Strikes.nil _ | (apply Strikes.cons; focus (repeat (first | exact Split.here _ _ | apply Split.there)))))) H' rfl; clear H')
        | (refine loud_ rfl ?_; refine wpList_plain rfl (fun K hK => ?_); (first | (refine op_box _ _ rfl H (fun b w' H1 => hK _ _ ?_)) | (refine op_alloc _ rfl (zero_of _ _ rfl) H (fun b w' H1 => hK _ _ ?_)) | (refine op_store _ _ _ rfl rfl rfl H (by repeat (first | exact Split.here _ _ | apply Split.there)) (by kernel_rfl) (by kernel_rfl) (by kernel_rfl) (fun w' H1 => hK _ _ ?_)) | (refine op_buildSlice_all _ _ _ rfl (by first | exact elem22 | exact elem60 | exact elem66 | exact elem72 | exact elem74) (by kernel_rfl) (by kernel_rfl) (by kernel_rfl) H (fun b w' H1 => hK _ _ ?_))); clear hK K; replace H := H1; clear H1)); (try clear hc); (try simp only [nrm, splice, Value.cells, Nat.reduceAdd, Act.eval, Act.put] at H); have hc := H.cells; simp only [CellsOf, KnCells, knc, Nat.reduceAdd] at hc))) | go_values | go_skip | go_guarded | go_step | go_upon | go_back | dsimp only)
  have hc := H.cells; simp only [CellsOf, KnCells, knc, Nat.reduceAdd] at hc
  exact bodyPost_ret (v := setV mr) (by simp [results, Tryz.results30, go_sem, hc, Act.put]; try rfl) rfl ⟨mr, er, cr, lr, hr, rfl, H.sel (by repeat (first | exact Sel.nil _ | (apply Sel.cons; focus (repeat (first | exact Split.here _ _ | apply Split.there)))))⟩
theorem makeDifference (b2 : Nat) (w : World) : (Instr.makeFunc (.func 51) #[] #[.pointer (some ⟨b2, 0, none⟩)]).run Tryz.prog w = .ok (.func (.func 51) #[] #[.pointer (some ⟨b2, 0, none⟩)]) w := rfl
set_option maxHeartbeats 800000 in
set_option maxRecDepth 8000 in
theorem filterDifference_calls (m clock b2 m2 clock2 : Nat) (es es2 : Array MapEntry) (l l2 : List Int) (hl : Hid (SetI es clock l)) (hl2 : Hid (SetI es2 clock2 l2)) (w : World) (H : St [] w w [(false, .is m (.map es clock)), (false, .is b2 (setObj m2)), (false, .is m2 (.map es2 clock2))]) :
    Calls Tryz.prog 49 #[setV m, (.func (.func 51) #[] #[.pointer (some ⟨b2, 0, none⟩)])] w fun e w' => ∃ mr er cr lr, Hid (SetI er cr lr ∧ lr.length ≤ l.length ∧ ∀ x, x ∈ lr ↔ x ∈ l ∧ (fun x => x ∉ l2) x) ∧ e = .returned (setV mr) ∧ St [] w w' [(true, .is mr (.map er cr))] := by
  go_enter Tryz.func49, Tryz.ntmps49
  repeat' (first | (go_big_may; (first
    | go_skip
    | (refine wpList_plain rfl (fun K hK => ?_); (refine op_range _ _ _ _ rfl cpuU (es := es) (clock := clock) rfl H (H.obj (b := m) (by repeat (first | exact Split.here _ _ | apply Split.there))) (fun r w' H1 => hK _ _ ?_); clear hK K; replace H := H1; clear H1; (try clear hc); (try simp only [nrm, splice, Value.cells, Nat.reduceAdd, Act.eval, Act.put] at H); have hc := H.cells; simp only [CellsOf, KnCells, knc, Nat.reduceAdd] at hc))
    | ((first
        | (go_at_call 27; refine Calls.mono (new0_calls _) ?_; rintro e w' ⟨mr, er0, cr0, hs0, rfl, H'⟩; replace H := H.merge (by first | exact Strikes.nil _ | (repeat (first | exact Strikes.nil _ | (apply Strikes.cons; focus (repeat (first | exact Split.here _ _ | apply Split.there)))))) H' rfl; clear H')
        | (refine loud_ rfl ?_; refine wpList_plain rfl (fun K hK => ?_); (first | (refine op_box _ _ rfl H (fun b w' H1 => hK _ _ ?_)) | (refine op_alloc _ rfl (zero_of _ _ rfl) H (fun b w' H1 => hK _ _ ?_)) | (refine op_store _ _ _ rfl rfl rfl H (by repeat (first | exact Split.here _ _ | apply Split.there)) (by kernel_rfl) (by kernel_rfl) (by kernel_rfl) (fun w' H1 => hK _ _ ?_)) | (refine op_buildSlice_all _ _ _ rfl (by first | exact elem22 | exact elem60 | exact elem66 | exact elem72 | exact elem74) (by kernel_rfl) (by kernel_rfl) (by kernel_rfl) H (fun b w' H1 => hK _ _ ?_))); clear hK K; replace H := H1; clear H1)); (try clear hc); (try simp only [nrm, splice, Value.cells, Nat.reduceAdd, Act.eval, Act.put] at H); have hc := H.cells; simp only [CellsOf, KnCells, knc, Nat.reduceAdd] at hc))) | go_values | go_skip | go_guarded | go_step | go_upon | go_back | dsimp only)
  (try simp only [Act.put, slt])
  obtain ⟨rx, rfl⟩ : ∃ q, q = b := ⟨_, rfl⟩
  obtain ⟨ry, rfl⟩ : ∃ q, q = b := ⟨_, rfl⟩
  obtain ⟨bx, rfl⟩ : ∃ q, q = b := ⟨_, rfl⟩
  have hA0 : AtFc w m r bx rx ry mr clock es (fun x => x ∉ l2) [(false, .is b2 (setObj m2)), (false, .is m2 (.map es2 clock2))] w' := ⟨#[], [], er0, cr0, [], seen_nil _, filt_nil _, hs0, H.sel (by repeat (first | exact Sel.nil _ | (apply Sel.cons; focus (repeat (first | exact Split.here _ _ | apply Split.there)))))⟩
  clear H hs0
  (try clear hc)
  go_loopw [] (AtFc w m r bx rx ry mr clock es (fun x => x ∉ l2) [(false, .is b2 (setObj m2)), (false, .is m2 (.map es2 clock2))]) (fun wr => wr.rangeLeft m r)
  case atStart => exact hA0
  case round =>
    clear hA0
    obtain ⟨seen, gs, er, cr, lr, hs, hfi, hset, H⟩ := hrel
    have hleft := Lib.hid (range_left (H.obj (b := m) (by repeat (first | exact Split.here _ _ | apply Split.there))) (H.obj (b := r) (by repeat (first | exact Split.here _ _ | apply Split.there))))
    have hborn := hl.out.2.1
    have hnd := hl.out.2.2.1
    have hkeys := Lib.hid (setM_keys hl.out)
    by_cases hlf : (leftOf es seen).size = 0
    · have hall := Lib.hid (keyIn_all hkeys.out (seen_all hs.out hlf hnd))
      have hgl := Lib.hid (seen_all hs.out hlf hnd).length_eq
      have hc := H.cells; simp only [CellsOf, KnCells, knc, Nat.reduceAdd] at hc
      repeat' (first | (go_big_may; (first
    | go_skip
    | (refine wpList_plain rfl (fun K hK => ?_); refine op_next_done _ rfl rfl H (by repeat (first | exact Split.here _ _ | apply Split.there)) (H.obj (by repeat (first | exact Split.here _ _ | apply Split.there))) hborn (Nat.le_refl _) hlf (hK _ _ ?_); clear hK K)
    | ((first
        | (refine loud_ rfl ?_; refine wpList_plain rfl (fun K hK => ?_); (first | (refine op_box _ _ rfl H (fun b w' H1 => hK _ _ ?_)) | (refine op_alloc _ rfl (zero_of _ _ rfl) H (fun b w' H1 => hK _ _ ?_)) | (refine op_store _ _ _ rfl rfl rfl H (by repeat (first | exact Split.here _ _ | apply Split.there)) (by kernel_rfl) (by kernel_rfl) (by kernel_rfl) (fun w' H1 => hK _ _ ?_)) | (refine op_buildSlice_all _ _ _ rfl (by first | exact elem22 | exact elem60 | exact elem66 | exact elem72 | exact elem74) (by kernel_rfl) (by kernel_rfl) (by kernel_rfl) H (fun b w' H1 => hK _ _ ?_))); clear hK K; replace H := H1; clear H1)); (try clear hc); (try simp only [nrm, splice, Value.cells, Nat.reduceAdd, Act.eval, Act.put] at H); have hc := H.cells; simp only [CellsOf, KnCells, knc, Nat.reduceAdd] at hc))) | go_values | go_skip | go_guarded | go_step | go_upon | go_back | dsimp only)
      have hfin : Hid (∀ x, x ∈ lr ↔ x ∈ l ∧ (fun x => x ∉ l2) x) := by
        intro x
        rw [hfi.out.1, hall.out]
      have hfl : lr.length ≤ l.length := by have := hfi.out.2; have := hgl.out; have := setM_size hl.out; simp at *; omega
      have hc := H.cells; simp only [CellsOf, KnCells, knc, Nat.reduceAdd] at hc
      exact bodyPost_ret (v := setV mr) (by simp [results, Tryz.results49, go_sem, hc, Act.put]; try rfl) rfl ⟨mr, er, cr, lr, ⟨hset.out, hfl, hfin.out⟩, rfl, H.sel (by repeat (first | exact Sel.nil _ | (apply Sel.cons; focus (repeat (first | exact Split.here _ _ | apply Split.there)))))⟩
    · have hc := H.cells; simp only [CellsOf, KnCells, knc, Nat.reduceAdd] at hc
      go_upto_region 4 with (first
    | go_skip
    | (refine wpList_plain rfl (fun K hK => ?_); (refine op_next_more _ rfl rfl H (by repeat (first | exact Split.here _ _ | apply Split.there)) (H.obj (by repeat (first | exact Split.here _ _ | apply Split.there))) hborn (Nat.le_refl _) hlf (fun en w' he H1 => hK _ _ ?_); clear hK K; replace H := H1; clear H1; (try clear hc); (try simp only [nrm, splice, Value.cells, Nat.reduceAdd, Act.eval, Act.put] at H); have hc := H.cells; simp only [CellsOf, KnCells, knc, Nat.reduceAdd] at hc))
    | ((first
        | (refine loud_ rfl ?_; refine wpList_plain rfl (fun K hK => ?_); (first | (refine op_box _ _ rfl H (fun b w' H1 => hK _ _ ?_)) | (refine op_alloc _ rfl (zero_of _ _ rfl) H (fun b w' H1 => hK _ _ ?_)) | (refine op_store _ _ _ rfl rfl rfl H (by repeat (first | exact Split.here _ _ | apply Split.there)) (by kernel_rfl) (by kernel_rfl) (by kernel_rfl) (fun w' H1 => hK _ _ ?_)) | (refine op_buildSlice_all _ _ _ rfl (by first | exact elem22 | exact elem60 | exact elem66 | exact elem72 | exact elem74) (by kernel_rfl) (by kernel_rfl) (by kernel_rfl) H (fun b w' H1 => hK _ _ ?_))); clear hK K; replace H := H1; clear H1)); (try clear hc); (try simp only [nrm, splice, Value.cells, Nat.reduceAdd, Act.eval, Act.put] at H); have hc := H.cells; simp only [CellsOf, KnCells, knc, Nat.reduceAdd] at hc))
      have hlt := Lib.hid (left_shrinks es seen en he)
      have hsp := Lib.hid (seen_push hs.out he)
      have hmem := Lib.hid (mem_left he).1
      obtain ⟨sk, hsk⟩ : ∃ k, en.key = ki k := by
        have : en.key ∈ es.toList.map (·.key) := List.mem_map.2 ⟨en, hmem.out, rfl⟩
        rw [hkeys.out] at this
        obtain ⟨k, _, hk⟩ := List.mem_map.1 this
        exact ⟨k, hk.symm⟩
      clear he
      obtain ⟨ky, vl, bo⟩ := en
      simp only at hsk
      subst hsk
      by_cases hq : sk ∉ l2
      · have hd : decide (sk ∈ l2) = false := by simpa using hq
        have hdn : Hid ((!decide (sk ∈ l2)) = true) := by show _ = _; rw [hd] <;> try rfl
        have hfi2 := Lib.hid (filt_in (v := vl) (b := bo) hfi.out (k := sk) (by exact hq))
        have hq2 := Lib.hid hq
        clear hq
        have hc := H.cells; simp only [CellsOf, KnCells, knc, Nat.reduceAdd] at hc
        repeat' (first | (go_big_may; (first
    | go_skip
    | (refine wpList_plain rfl (fun K hK => ?_); refine op_entry _ rfl rfl H (by repeat (first | exact Split.here _ _ | apply Split.there)) (H.obj (by repeat (first | exact Split.here _ _ | apply Split.there))) hmem.out hnd (hK _ _ ?_); clear hK K)
    | ((first
        | (go_at_call 51; refine Calls.mono (clDifference_calls b2 m2 clock2 es2 l2 sk true hdn hl2 _ (H.pick (by repeat (first | exact Picks.nil _ | (apply Picks.wr; focus (repeat (first | exact Split.here _ _ | apply Split.there))) | (apply Picks.rd; focus (repeat (first | exact Split.here _ _ | apply Split.there))))))) ?_; rintro e w' ⟨rfl, H'⟩; replace H := H.of_ext H'; clear H')
        | (go_at_call 46; refine Calls.mono (add1_calls _ mr _ sk er cr lr hset _ (H.pick (by repeat (first | exact Picks.nil _ | (apply Picks.wr; focus (repeat (first | exact Split.here _ _ | apply Split.there))) | (apply Picks.rd; focus (repeat (first | exact Split.here _ _ | apply Split.there))))))) ?_; rintro e w' ⟨es', clock', hset', rfl, H'⟩; replace H := H.merge (by first | exact Strikes.nil _ | (repeat (first | exact Strikes.nil _ | (apply Strikes.cons; focus (repeat (first | exact Split.here _ _ | apply Split.there)))))) H' rfl; clear H')
        | (refine loud_ rfl ?_; refine wpList_plain rfl (fun K hK => ?_); (first | (refine op_box _ _ rfl H (fun b w' H1 => hK _ _ ?_)) | (refine op_alloc _ rfl (zero_of _ _ rfl) H (fun b w' H1 => hK _ _ ?_)) | (refine op_store _ _ _ rfl rfl rfl H (by repeat (first | exact Split.here _ _ | apply Split.there)) (by kernel_rfl) (by kernel_rfl) (by kernel_rfl) (fun w' H1 => hK _ _ ?_)) | (refine op_buildSlice_all _ _ _ rfl (by first | exact elem22 | exact elem60 | exact elem66 | exact elem72 | exact elem74) (by kernel_rfl) (by kernel_rfl) (by kernel_rfl) H (fun b w' H1 => hK _ _ ?_))); clear hK K; replace H := H1; clear H1)); (try clear hc); (try simp only [nrm, splice, Value.cells, Nat.reduceAdd, Act.eval, Act.put] at H); have hc := H.cells; simp only [CellsOf, KnCells, knc, Nat.reduceAdd] at hc))) | go_values | go_skip | go_guarded | go_step | go_upon | go_back | dsimp only)
        exact ⟨⟨_, _, es', clock', _, hsp.out, hfi2, hset', H.sel (by repeat (first | exact Sel.nil _ | (apply Sel.cons; focus (repeat (first | exact Split.here _ _ | apply Split.there)))))⟩, by have hleft2 := range_left (H.obj (b := m) (by repeat (first | exact Split.here _ _ | apply Split.there))) (H.obj (b := r) (by repeat (first | exact Split.here _ _ | apply Split.there))); rw [hleft2, hleft.out]; exact hlt.out⟩
      · have hd : decide (sk ∈ l2) = true := by simpa using hq
        have hdn : Hid ((!decide (sk ∈ l2)) = false) := by show _ = _; rw [hd] <;> try rfl
        have hfi2 := Lib.hid (filt_out (v := vl) (b := bo) hfi.out (k := sk) (by exact hq))
        have hq2 := Lib.hid hq
        clear hq
        have hc := H.cells; simp only [CellsOf, KnCells, knc, Nat.reduceAdd] at hc
        repeat' (first | (go_big_may; (first
    | go_skip
    | (refine wpList_plain rfl (fun K hK => ?_); refine op_entry _ rfl rfl H (by repeat (first | exact Split.here _ _ | apply Split.there)) (H.obj (by repeat (first | exact Split.here _ _ | apply Split.there))) hmem.out hnd (hK _ _ ?_); clear hK K)
    | ((first
        | (go_at_call 51; refine Calls.mono (clDifference_calls b2 m2 clock2 es2 l2 sk false hdn hl2 _ (H.pick (by repeat (first | exact Picks.nil _ | (apply Picks.wr; focus (repeat (first | exact Split.here _ _ | apply Split.there))) | (apply Picks.rd; focus (repeat (first | exact Split.here _ _ | apply Split.there))))))) ?_; rintro e w' ⟨rfl, H'⟩; replace H := H.of_ext H'; clear H')
        | (refine loud_ rfl ?_; refine wpList_plain rfl (fun K hK => ?_); (first | (refine op_box _ _ rfl H (fun b w' H1 => hK _ _ ?_)) | (refine op_alloc _ rfl (zero_of _ _ rfl) H (fun b w' H1 => hK _ _ ?_)) | (refine op_store _ _ _ rfl rfl rfl H (by repeat (first | exact Split.here _ _ | apply Split.there)) (by kernel_rfl) (by kernel_rfl) (by kernel_rfl) (fun w' H1 => hK _ _ ?_)) | (refine op_buildSlice_all _ _ _ rfl (by first | exact elem22 | exact elem60 | exact elem66 | exact elem72 | exact elem74) (by kernel_rfl) (by kernel_rfl) (by kernel_rfl) H (fun b w' H1 => hK _ _ ?_))); clear hK K; replace H := H1; clear H1)); (try clear hc); (try simp only [nrm, splice, Value.cells, Nat.reduceAdd, Act.eval, Act.put] at H); have hc := H.cells; simp only [CellsOf, KnCells, knc, Nat.reduceAdd] at hc))) | go_values | go_skip | go_guarded | go_step | go_upon | go_back | dsimp only)
        exact ⟨⟨_, _, er, cr, _, hsp.out, hfi2, hset, H.sel (by repeat (first | exact Sel.nil _ | (apply Sel.cons; focus (repeat (first | exact Split.here _ _ | apply Split.there)))))⟩, by have hleft2 := range_left (H.obj (b := m) (by repeat (first | exact Split.here _ _ | apply Split.there))) (H.obj (b := r) (by repeat (first | exact Split.here _ _ | apply Split.there))); rw [hleft2, hleft.out]; exact hlt.out⟩
set_option maxHeartbeats 800000 in
set_option maxRecDepth 8000 in
theorem cDifference_calls (m clock m2 clock2 : Nat) (es es2 : Array MapEntry) (l l2 : List Int) (hl : Hid (SetI es clock l)) (hl2 : Hid (SetI es2 clock2 l2)) (w : World) (H : St [] w w [(false, .is m (.map es clock)), (false, .is m2 (.map es2 clock2))]) :
    Calls Tryz.prog 31 #[setV m, setV m2] w fun e w' => ∃ mr er cr lr, Hid (SetI er cr lr ∧ lr.length ≤ l.length ∧ ∀ x, x ∈ lr ↔ x ∈ l ∧ (fun x => x ∉ l2) x) ∧ e = .returned (setV mr) ∧ St [] w w' [(true, .is mr (.map er cr))] := by
  have hmf := fun b2 w => makeDifference b2 w
  go_enter Tryz.func31, Tryz.ntmps31
  repeat' (first | (go_big_may; (first
    | go_skip
    | ((first
        | (go_at_call 49; refine Calls.mono (filterDifference_calls m clock _ m2 clock2 es es2 l l2 hl hl2 _ (H.pick (by repeat (first | exact Picks.nil _ | (apply Picks.wr; focus (repeat (first | exact Split.here _ _ | apply Split.there))) | (apply Picks.rd; focus (repeat (first | exact Split.here _ _ | apply Split.there))))))) ?_; rintro e w' ⟨mr, er, cr, lr, hr, rfl, H'⟩; replace H := H.merge (by first | exact Strikes.nil _ | (repeat (first | exact Strikes.nil _ | (apply Strikes.cons; focus (repeat (first | exact Split.here _ _ | apply Split.there)))))) H' rfl; clear H')
        | (refine loud_ rfl ?_; refine wpList_plain rfl (fun K hK => ?_); (first | (refine op_box _ _ rfl H (fun b w' H1 => hK _ _ ?_)) | (refine op_alloc _ rfl (zero_of _ _ rfl) H (fun b w' H1 => hK _ _ ?_)) | (refine op_store _ _ _ rfl rfl rfl H (by repeat (first | exact Split.here _ _ | apply Split.there)) (by kernel_rfl) (by kernel_rfl) (by kernel_rfl) (fun w' H1 => hK _ _ ?_)) | (refine op_buildSlice_all _ _ _ rfl (by first | exact elem22 | exact elem60 | exact elem66 | exact elem72 | exact elem74) (by kernel_rfl) (by kernel_rfl) (by kernel_rfl) H (fun b w' H1 => hK _ _ ?_))); clear hK K; replace H := H1; clear H1)); (try clear hc); (try simp only [nrm, splice, Value.cells, Nat.reduceAdd, Act.eval, Act.put] at H); have hc := H.cells; simp only [CellsOf, KnCells, knc, Nat.reduceAdd] at hc))) | go_values | go_skip | go_guarded | go_step | go_upon | go_back | dsimp only)
  have hc := H.cells; simp only [CellsOf, KnCells, knc, Nat.reduceAdd] at hc
  exact bodyPost_ret (v := setV mr) (by simp [results, Tryz.results31, go_sem, hc, Act.put]; try rfl) rfl ⟨mr, er, cr, lr, hr, rfl, H.sel (by repeat (first | exact Sel.nil _ | (apply Sel.cons; focus (repeat (first | exact Split.here _ _ | apply Split.there)))))⟩
def AtSub (w : World) (m m2 r bx b2 clock clock2 : Nat) (es es2 : Array MapEntry) (l2 : List Int) (rv : Value) (wr : World) : Prop := ∃ (seen : Array Nat) (gs : List MapEntry), rv = .bool true ∧ Hid (SeenIs es seen gs) ∧ Hid (∀ x, KeyIn gs x → x ∈ l2) ∧
  St [] w wr [(true, .is r (.mapIter (some m) clock seen clock)), (true, .is bx (setObj m)), (true, .is b2 (setObj m2)), (false, .is m (.map es clock)), (false, .is m2 (.map es2 clock2))]
set_option maxHeartbeats 800000 in
set_option maxRecDepth 8000 in
theorem csub_calls (m clock m2 clock2 : Nat) (es es2 : Array MapEntry) (l l2 : List Int) (hl : Hid (SetI es clock l)) (hl2 : Hid (SetI es2 clock2 l2)) (w : World) (H : St [] w w [(false, .is m (.map es clock)), (false, .is m2 (.map es2 clock2))]) :
    Calls Tryz.prog 33 #[setV m, setV m2] w fun e w' => e = .returned (.bool (decide (∀ x ∈ l, x ∈ l2))) ∧ Ext [] w w' := by
  go_enter Tryz.func33, Tryz.ntmps33
  repeat' (first | (go_big_may; (first
    | go_skip
    | (refine wpList_plain rfl (fun K hK => ?_); (refine op_range _ _ _ _ rfl cpuU (es := es) (clock := clock) rfl H (H.obj (b := m) (by repeat (first | exact Split.here _ _ | apply Split.there))) (fun r w' H1 => hK _ _ ?_); clear hK K; replace H := H1; clear H1; (try clear hc); (try simp only [nrm, splice, Value.cells, Nat.reduceAdd, Act.eval, Act.put] at H); have hc := H.cells; simp only [CellsOf, KnCells, knc, Nat.reduceAdd] at hc))
    | ((first
        | (refine loud_ rfl ?_; refine wpList_plain rfl (fun K hK => ?_); (first | (refine op_box _ _ rfl H (fun b w' H1 => hK _ _ ?_)) | (refine op_alloc _ rfl (zero_of _ _ rfl) H (fun b w' H1 => hK _ _ ?_)) | (refine op_store _ _ _ rfl rfl rfl H (by repeat (first | exact Split.here _ _ | apply Split.there)) (by kernel_rfl) (by kernel_rfl) (by kernel_rfl) (fun w' H1 => hK _ _ ?_)) | (refine op_buildSlice_all _ _ _ rfl (by first | exact elem22 | exact elem60 | exact elem66 | exact elem72 | exact elem74) (by kernel_rfl) (by kernel_rfl) (by kernel_rfl) H (fun b w' H1 => hK _ _ ?_))); clear hK K; replace H := H1; clear H1)); (try clear hc); (try simp only [nrm, splice, Value.cells, Nat.reduceAdd, Act.eval, Act.put] at H); have hc := H.cells; simp only [CellsOf, KnCells, knc, Nat.reduceAdd] at hc))) | go_values | go_skip | go_guarded | go_step | go_upon | go_back | dsimp only)
  (try simp only [Act.put, slt])
  obtain ⟨b2, rfl⟩ : ∃ q, q = b := ⟨_, rfl⟩
  obtain ⟨bx, rfl⟩ : ∃ q, q = b := ⟨_, rfl⟩
  have hA0 : AtSub w m m2 r bx b2 clock clock2 es es2 l2 (.bool true) w' := ⟨#[], [], rfl, seen_nil _, fun x h => absurd h (keyIn_nil x), H.sel (by repeat (first | exact Sel.nil _ | (apply Sel.cons; focus (repeat (first | exact Split.here _ _ | apply Split.there)))))⟩
  clear H
  (try clear hc)
  go_loopw [5] (AtSub w m m2 r bx b2 clock clock2 es es2 l2) (fun _ wr => wr.rangeLeft m r)
  case atStart => exact hA0
  case round =>
    clear hA0
    obtain ⟨seen, gs, rfl, hs, hin, H⟩ := hrel
    have hleft := Lib.hid (range_left (H.obj (b := m) (by repeat (first | exact Split.here _ _ | apply Split.there))) (H.obj (b := r) (by repeat (first | exact Split.here _ _ | apply Split.there))))
    have hborn := hl.out.2.1
    have hnd := hl.out.2.2.1
    have hkeys := Lib.hid (setM_keys hl.out)
    by_cases hlf : (leftOf es seen).size = 0
    · have hall := Lib.hid (keyIn_all hkeys.out (seen_all hs.out hlf hnd))
      have hgl := Lib.hid (seen_all hs.out hlf hnd).length_eq
      have hc := H.cells; simp only [CellsOf, KnCells, knc, Nat.reduceAdd] at hc
      repeat' (first | (go_big_may; (first
    | go_skip
    | (refine wpList_plain rfl (fun K hK => ?_); refine op_next_done _ rfl rfl H (by repeat (first | exact Split.here _ _ | apply Split.there)) (H.obj (by repeat (first | exact Split.here _ _ | apply Split.there))) hborn (Nat.le_refl _) hlf (hK _ _ ?_); clear hK K)
    | ((first
        | (refine loud_ rfl ?_; refine wpList_plain rfl (fun K hK => ?_); (first | (refine op_box _ _ rfl H (fun b w' H1 => hK _ _ ?_)) | (refine op_alloc _ rfl (zero_of _ _ rfl) H (fun b w' H1 => hK _ _ ?_)) | (refine op_store _ _ _ rfl rfl rfl H (by repeat (first | exact Split.here _ _ | apply Split.there)) (by kernel_rfl) (by kernel_rfl) (by kernel_rfl) (fun w' H1 => hK _ _ ?_)) | (refine op_buildSlice_all _ _ _ rfl (by first | exact elem22 | exact elem60 | exact elem66 | exact elem72 | exact elem74) (by kernel_rfl) (by kernel_rfl) (by kernel_rfl) H (fun b w' H1 => hK _ _ ?_))); clear hK K; replace H := H1; clear H1)); (try clear hc); (try simp only [nrm, splice, Value.cells, Nat.reduceAdd, Act.eval, Act.put] at H); have hc := H.cells; simp only [CellsOf, KnCells, knc, Nat.reduceAdd] at hc))) | go_values | go_skip | go_guarded | go_step | go_upon | go_back | dsimp only)
      go_ret
      exact ⟨by rw [decide_eq_true (fun x hx => hin.out x ((hall.out x).2 hx))]; rfl, H.ext⟩
    · have hc := H.cells; simp only [CellsOf, KnCells, knc, Nat.reduceAdd] at hc
      go_upto_region 4 with (first
    | go_skip
    | (refine wpList_plain rfl (fun K hK => ?_); (refine op_next_more _ rfl rfl H (by repeat (first | exact Split.here _ _ | apply Split.there)) (H.obj (by repeat (first | exact Split.here _ _ | apply Split.there))) hborn (Nat.le_refl _) hlf (fun en w' he H1 => hK _ _ ?_); clear hK K; replace H := H1; clear H1; (try clear hc); (try simp only [nrm, splice, Value.cells, Nat.reduceAdd, Act.eval, Act.put] at H); have hc := H.cells; simp only [CellsOf, KnCells, knc, Nat.reduceAdd] at hc))
    | ((first
        | (refine loud_ rfl ?_; refine wpList_plain rfl (fun K hK => ?_); (first | (refine op_box _ _ rfl H (fun b w' H1 => hK _ _ ?_)) | (refine op_alloc _ rfl (zero_of _ _ rfl) H (fun b w' H1 => hK _ _ ?_)) | (refine op_store _ _ _ rfl rfl rfl H (by repeat (first | exact Split.here _ _ | apply Split.there)) (by kernel_rfl) (by kernel_rfl) (by kernel_rfl) (fun w' H1 => hK _ _ ?_)) | (refine op_buildSlice_all _ _ _ rfl (by first | exact elem22 | exact elem60 | exact elem66 | exact elem72 | exact elem74) (by kernel_rfl) (by kernel_rfl) (by kernel_rfl) H (fun b w' H1 => hK _ _ ?_))); clear hK K; replace H := H1; clear H1)); (try clear hc); (try simp only [nrm, splice, Value.cells, Nat.reduceAdd, Act.eval, Act.put] at H); have hc := H.cells; simp only [CellsOf, KnCells, knc, Nat.reduceAdd] at hc))
      have hlt := Lib.hid (left_shrinks es seen en he)
      have hsp := Lib.hid (seen_push hs.out he)
      have hmem := Lib.hid (mem_left he).1
      obtain ⟨sk, hsk⟩ : ∃ k, en.key = ki k := by
        have : en.key ∈ es.toList.map (·.key) := List.mem_map.2 ⟨en, hmem.out, rfl⟩
        rw [hkeys.out] at this
        obtain ⟨k, _, hk⟩ := List.mem_map.1 this
        exact ⟨k, hk.symm⟩
      clear he
      obtain ⟨ky, vl, bo⟩ := en
      simp only at hsk
      subst hsk
      have hkm := key_mem hkeys.out hmem.out
      by_cases hq : sk ∈ l2
      · have hd : decide (sk ∈ l2) = true := by simpa using hq
        have hin2 : Hid (∀ x, KeyIn (gs ++ [(⟨ki sk, vl, bo⟩ : MapEntry)]) x → x ∈ l2) := by
          intro x hx
          rcases (keyIn_snoc _ _ _ _ _).1 hx with h | rfl
          · exact hin.out x h
          · exact hq
        have hq2 := Lib.hid hq
        clear hq
        replace hkm := Lib.hid hkm
        have hc := H.cells; simp only [CellsOf, KnCells, knc, Nat.reduceAdd] at hc
        repeat' (first | (go_big_may; (first
    | go_skip
    | (refine wpList_plain rfl (fun K hK => ?_); refine op_entry _ rfl rfl H (by repeat (first | exact Split.here _ _ | apply Split.there)) (H.obj (by repeat (first | exact Split.here _ _ | apply Split.there))) hmem.out hnd (hK _ _ ?_); clear hK K)
    | ((first
        | (go_at_call 34; refine Calls.mono (ccont_calls m2 clock2 es2 l2 sk hl2 _ (H.obj (b := m2) (by repeat (first | exact Split.here _ _ | apply Split.there)))) ?_; rintro e w' ⟨rfl, H'⟩; replace H := H.of_ext H'; clear H')
        | (refine loud_ rfl ?_; refine wpList_plain rfl (fun K hK => ?_); (first | (refine op_box _ _ rfl H (fun b w' H1 => hK _ _ ?_)) | (refine op_alloc _ rfl (zero_of _ _ rfl) H (fun b w' H1 => hK _ _ ?_)) | (refine op_store _ _ _ rfl rfl rfl H (by repeat (first | exact Split.here _ _ | apply Split.there)) (by kernel_rfl) (by kernel_rfl) (by kernel_rfl) (fun w' H1 => hK _ _ ?_)) | (refine op_buildSlice_all _ _ _ rfl (by first | exact elem22 | exact elem60 | exact elem66 | exact elem72 | exact elem74) (by kernel_rfl) (by kernel_rfl) (by kernel_rfl) H (fun b w' H1 => hK _ _ ?_))); clear hK K; replace H := H1; clear H1)); (try clear hc); (try simp only [nrm, splice, Value.cells, Nat.reduceAdd, Act.eval, Act.put] at H); have hc := H.cells; simp only [CellsOf, KnCells, knc, Nat.reduceAdd] at hc))) | go_values | go_skip | go_guarded | go_step | go_upon | go_back | dsimp only)
        exact ⟨⟨_, _, rfl, hsp.out, hin2, H.sel (by repeat (first | exact Sel.nil _ | (apply Sel.cons; focus (repeat (first | exact Split.here _ _ | apply Split.there)))))⟩, by have hleft2 := range_left (H.obj (b := m) (by repeat (first | exact Split.here _ _ | apply Split.there))) (H.obj (b := r) (by repeat (first | exact Split.here _ _ | apply Split.there))); rw [hleft2, hleft.out]; exact hlt.out⟩
      · have hd : decide (sk ∈ l2) = false := by simpa using hq
        have hq2 := Lib.hid hq
        clear hq
        replace hkm := Lib.hid hkm
        have hc := H.cells; simp only [CellsOf, KnCells, knc, Nat.reduceAdd] at hc
        repeat' (first | (go_big_may; (first
    | go_skip
    | (refine wpList_plain rfl (fun K hK => ?_); refine op_entry _ rfl rfl H (by repeat (first | exact Split.here _ _ | apply Split.there)) (H.obj (by repeat (first | exact Split.here _ _ | apply Split.there))) hmem.out hnd (hK _ _ ?_); clear hK K)
    | ((first
        | (go_at_call 34; refine Calls.mono (ccont_calls m2 clock2 es2 l2 sk hl2 _ (H.obj (b := m2) (by repeat (first | exact Split.here _ _ | apply Split.there)))) ?_; rintro e w' ⟨rfl, H'⟩; replace H := H.of_ext H'; clear H')
        | (refine loud_ rfl ?_; refine wpList_plain rfl (fun K hK => ?_); (first | (refine op_box _ _ rfl H (fun b w' H1 => hK _ _ ?_)) | (refine op_alloc _ rfl (zero_of _ _ rfl) H (fun b w' H1 => hK _ _ ?_)) | (refine op_store _ _ _ rfl rfl rfl H (by repeat (first | exact Split.here _ _ | apply Split.there)) (by kernel_rfl) (by kernel_rfl) (by kernel_rfl) (fun w' H1 => hK _ _ ?_)) | (refine op_buildSlice_all _ _ _ rfl (by first | exact elem22 | exact elem60 | exact elem66 | exact elem72 | exact elem74) (by kernel_rfl) (by kernel_rfl) (by kernel_rfl) H (fun b w' H1 => hK _ _ ?_))); clear hK K; replace H := H1; clear H1)); (try clear hc); (try simp only [nrm, splice, Value.cells, Nat.reduceAdd, Act.eval, Act.put] at H); have hc := H.cells; simp only [CellsOf, KnCells, knc, Nat.reduceAdd] at hc))) | go_values | go_skip | go_guarded | go_step | go_upon | go_back | dsimp only)
        go_ret
        exact ⟨by rw [decide_eq_false (p := ∀ x ∈ l, x ∈ l2) (fun h => hq2.out (h sk hkm.out))]; rfl, H.ext⟩
set_option maxHeartbeats 800000 in
set_option maxRecDepth 8000 in
theorem cequal_calls (m clock m2 clock2 : Nat) (es es2 : Array MapEntry) (l l2 : List Int) (hl : Hid (SetI es clock l)) (hl2 : Hid (SetI es2 clock2 l2)) (w : World) (H : St [] w w [(false, .is m (.map es clock)), (false, .is m2 (.map es2 clock2))]) :
    Calls Tryz.prog 32 #[setV m, setV m2] w fun e w' => e = .returned (.bool (decide (l.length = l2.length ∧ ∀ x ∈ l, x ∈ l2))) ∧ Ext [] w w' := by
  have hz1 := setM_size hl.out
  have hz2 := setM_size hl2.out
  by_cases hlen : l.length = l2.length
  · have hlen2 : (es.size : Int) = (es2.size : Int) := by omega
    have hfin : Hid (decide (l.length = l2.length ∧ ∀ x ∈ l, x ∈ l2) = decide (∀ x ∈ l, x ∈ l2)) := by show _ = _; congr 1; simp [hlen]
    clear hlen hz1 hz2
    go_enter Tryz.func32, Tryz.ntmps32
    repeat' (first | (go_big_may; (first
    | go_skip
    | (refine wpList_plain rfl (fun K hK => ?_); refine op_lenMap _ _ _ _ rfl cpuU rfl (H.obj (b := m) (by repeat (first | exact Split.here _ _ | apply Split.there))) (hK _ _ ?_); clear hK K)
    | (refine wpList_plain rfl (fun K hK => ?_); refine op_lenMap _ _ _ _ rfl cpuU rfl (H.obj (b := m2) (by repeat (first | exact Split.here _ _ | apply Split.there))) (hK _ _ ?_); clear hK K)
    | ((first
        | (go_at_call 33; refine Calls.mono (csub_calls m clock m2 clock2 es es2 l l2 hl hl2 _ (H.pick (by repeat (first | exact Picks.nil _ | (apply Picks.wr; focus (repeat (first | exact Split.here _ _ | apply Split.there))) | (apply Picks.rd; focus (repeat (first | exact Split.here _ _ | apply Split.there))))))) ?_; rintro e w' ⟨rfl, H'⟩; replace H := H.of_ext H'; clear H')
        | (refine loud_ rfl ?_; refine wpList_plain rfl (fun K hK => ?_); (first | (refine op_box _ _ rfl H (fun b w' H1 => hK _ _ ?_)) | (refine op_alloc _ rfl (zero_of _ _ rfl) H (fun b w' H1 => hK _ _ ?_)) | (refine op_store _ _ _ rfl rfl rfl H (by repeat (first | exact Split.here _ _ | apply Split.there)) (by kernel_rfl) (by kernel_rfl) (by kernel_rfl) (fun w' H1 => hK _ _ ?_)) | (refine op_buildSlice_all _ _ _ rfl (by first | exact elem22 | exact elem60 | exact elem66 | exact elem72 | exact elem74) (by kernel_rfl) (by kernel_rfl) (by kernel_rfl) H (fun b w' H1 => hK _ _ ?_))); clear hK K; replace H := H1; clear H1)); (try clear hc); (try simp only [nrm, splice, Value.cells, Nat.reduceAdd, Act.eval, Act.put] at H); have hc := H.cells; simp only [CellsOf, KnCells, knc, Nat.reduceAdd] at hc))) | go_values | go_skip | go_guarded | go_step | go_upon | go_back | dsimp only)
    go_ret
    exact ⟨by rw [hfin.out]; rfl, H.ext⟩
  · have hlen2 : ¬ (es.size : Int) = (es2.size : Int) := by omega
    have hfin : Hid (decide (l.length = l2.length ∧ ∀ x ∈ l, x ∈ l2) = false) := by show _ = _; rw [decide_eq_false]; exact fun h => hlen h.1
    clear hlen hz1 hz2
    go_enter Tryz.func32, Tryz.ntmps32
    repeat' (first | (go_big_may; (first
    | go_skip
    | (refine wpList_plain rfl (fun K hK => ?_); refine op_lenMap _ _ _ _ rfl cpuU rfl (H.obj (b := m) (by repeat (first | exact Split.here _ _ | apply Split.there))) (hK _ _ ?_); clear hK K)
    | (refine wpList_plain rfl (fun K hK => ?_); refine op_lenMap _ _ _ _ rfl cpuU rfl (H.obj (b := m2) (by repeat (first | exact Split.here _ _ | apply Split.there))) (hK _ _ ?_); clear hK K)
    | ((first
        | (go_at_call 33; refine Calls.mono (csub_calls m clock m2 clock2 es es2 l l2 hl hl2 _ (H.pick (by repeat (first | exact Picks.nil _ | (apply Picks.wr; focus (repeat (first | exact Split.here _ _ | apply Split.there))) | (apply Picks.rd; focus (repeat (first | exact Split.here _ _ | apply Split.there))))))) ?_; rintro e w' ⟨rfl, H'⟩; replace H := H.of_ext H'; clear H')
        | (refine loud_ rfl ?_; refine wpList_plain rfl (fun K hK => ?_); (first | (refine op_box _ _ rfl H (fun b w' H1 => hK _ _ ?_)) | (refine op_alloc _ rfl (zero_of _ _ rfl) H (fun b w' H1 => hK _ _ ?_)) | (refine op_store _ _ _ rfl rfl rfl H (by repeat (first | exact Split.here _ _ | apply Split.there)) (by kernel_rfl) (by kernel_rfl) (by kernel_rfl) (fun w' H1 => hK _ _ ?_)) | (refine op_buildSlice_all _ _ _ rfl (by first | exact elem22 | exact elem60 | exact elem66 | exact elem72 | exact elem74) (by kernel_rfl) (by kernel_rfl) (by kernel_rfl) H (fun b w' H1 => hK _ _ ?_))); clear hK K; replace H := H1; clear H1)); (try clear hc); (try simp only [nrm, splice, Value.cells, Nat.reduceAdd, Act.eval, Act.put] at H); have hc := H.cells; simp only [CellsOf, KnCells, knc, Nat.reduceAdd] at hc))) | go_values | go_skip | go_guarded | go_step | go_upon | go_back | dsimp only)
    go_ret
    exact ⟨by rw [hfin.out]; rfl, H.ext⟩
def AtUn (w : World) (m r rx ry mr clock : Nat) (es : Array MapEntry) (l0 : List Int) (N : Nat) (L : List Ent) (wr : World) : Prop := ∃ (seen : Array Nat) (gs : List MapEntry) (er : Array MapEntry) (cr : Nat) (lr : List Int), Hid (SeenIs es seen gs) ∧ Hid ((∀ x, x ∈ lr ↔ x ∈ l0 ∨ KeyIn gs x) ∧ lr.length ≤ N + gs.length) ∧ Hid (SetI er cr lr) ∧
  St [] w wr ((true, .is mr (.map er cr)) :: (true, .is r (.mapIter (some m) clock seen clock)) :: (true, .is rx (setObj mr)) :: (true, .is ry set0) :: (false, .is m (.map es clock)) :: L)
theorem un_step {l0 lr : List Int} {gs : List MapEntry} {k : Int} {v : Value} {b N : Nat} (h : (∀ x, x ∈ lr ↔ x ∈ l0 ∨ KeyIn gs x) ∧ lr.length ≤ N + gs.length) : (∀ x, x ∈ ins lr k ↔ x ∈ l0 ∨ KeyIn (gs ++ [⟨ki k, v, b⟩]) x) ∧ (ins lr k).length ≤ N + (gs ++ [(⟨ki k, v, b⟩ : MapEntry)]).length := by
  refine ⟨fun x => ?_, ?_⟩
  · rw [ins_mem, h.1, keyIn_snoc, or_assoc]
  · have := ins_len lr k
    have := h.2
    rw [List.length_append, List.length_singleton]
    omega
end Go.Proofs.YtikaldcoakpfoaaGreatDoor
