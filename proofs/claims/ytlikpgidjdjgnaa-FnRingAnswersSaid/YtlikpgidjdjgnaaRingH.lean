import Derived.Test.YtlikpgidjdjgnaaRingG
import Derived.Test.YtlikpgidjdjgnaaVSkip
-- MORE
namespace Go.Proofs.Ytlikpgidjdjgnaa
set_option linter.unusedVariables false
set_option linter.unusedSimpArgs false
set_option linter.unnecessarySimpa false
open Go.RowKit Go.V

/-- How many places are left when a ring that shrinks is empty. -/
def less (m n : Nat) (q : List Int) : Nat := if q.length = 0 ∧ m < n then m else n
set_option maxHeartbeats 4000000 in
theorem rread_some (m br kb n beg : Nat) (data q : List Int) (x : Int) (S : List Nat) (w : World) (h : GInv n beg data (x :: q)) (hn : n ≤ 1000000) (hm : m ≤ 65536) (H : St S w w (gents (some m) br kb n beg (x :: q).length data)) :
    Calls Try.prog 49 #[.pointer (some ⟨br, 0, none⟩)] w fun e w' => ∃ kb' beg' data', GInv (less m n q) beg' data' q ∧ e = .returned (.tuple #[.int .i64 x, .bool true]) ∧ St S w w' (gents (some m) br kb' (less m n q) beg' q.length data') := by
  by_cases hs : q.length = 0 ∧ m < n
  · obtain ⟨h1, h2⟩ := hs
    have hq : q = [] := List.eq_nil_of_length_eq_zero h1
    subst hq
    have hle : less m n [] = m := by unfold less; rw [if_pos ⟨rfl, h2⟩]
    rw [hle]
    go_enter Try.func49, Try.ntmps49
    go_wp2_with (first
    | (refine loud_ rfl ?_; refine wpList_plain rfl (fun K hK => ?_); first
      | (refine op_box _ _ rfl H (fun b w' H1 => hK _ _ ?_); clear hK K; replace H := H1; clear H1; (try clear hc); (try simp only [nrm, splice, Value.cells, Nat.reduceAdd, Act.eval, Act.put] at H); have hc := H.cells; simp only [CellsOf, KnCells, arr_lit, knAt_cons, knAt_nil, Nat.zero_add, Nat.add_zero, Nat.reduceAdd] at hc)
      | (refine op_alloc _ rfl (zero_of _ _ rfl) H (fun b w' H1 => hK _ _ ?_); clear hK K; replace H := H1; clear H1; (try clear hc); (try simp only [nrm, splice, Value.cells, Nat.reduceAdd, Act.eval, Act.put] at H); have hc := H.cells; simp only [CellsOf, KnCells, arr_lit, knAt_cons, knAt_nil, Nat.zero_add, Nat.add_zero, Nat.reduceAdd] at hc)
      | (refine op_store _ _ _ rfl rfl rfl H (by repeat (first | exact Split.here _ _ | apply Split.there)) (by kernel_rfl) (by kernel_rfl) (by kernel_rfl) (fun w' H1 => hK _ _ ?_); clear hK K; replace H := H1; clear H1; (try clear hc); (try simp only [nrm, splice, Value.cells, Nat.reduceAdd, Act.eval, Act.put] at H); have hc := H.cells; simp only [CellsOf, KnCells, arr_lit, knAt_cons, knAt_nil, Nat.zero_add, Nat.add_zero, Nat.reduceAdd] at hc)
      | (refine op_buildSlice_all _ _ _ rfl (by first | exact elem22 | exact elem25 | exact elem26 | exact elem29) (by kernel_rfl) (by kernel_rfl) (by kernel_rfl) H (fun b w' H1 => hK _ _ ?_); clear hK K; replace H := H1; clear H1; (try clear hc); (try simp only [nrm, splice, Value.cells, Nat.reduceAdd, Act.eval, Act.put] at H); have hc := H.cells; simp only [CellsOf, KnCells, arr_lit, knAt_cons, knAt_nil, Nat.zero_add, Nat.add_zero, Nat.reduceAdd] at hc)))
    refine Calls.mono (gread_calls (some m) _ _ _ _ _ [] x _ _ h hn (H.pick (by repeat (first | exact Picks.nil _ | (apply Picks.wr; focus (repeat (first | exact Split.here _ _ | apply Split.there))) | (apply Picks.rd; focus (repeat (first | exact Split.here _ _ | apply Split.there))))))) ?_
    rintro e w' ⟨beg', data', hg, rfl, H'⟩
    replace H := H.merge (by first | exact Strikes.nil _ | (repeat (first | exact Strikes.nil _ | (apply Strikes.cons; focus (repeat (first | exact Split.here _ _ | apply Split.there)))))) H' rfl
    clear H'
    simp only [gents, gobj, List.length_nil, Int.natCast_zero, List.cons_append, List.nil_append] at H
    (try clear hc)
    have hc := H.cells; simp only [CellsOf, KnCells, arr_lit, knAt_cons, knAt_nil, Nat.zero_add, Nat.add_zero, Nat.reduceAdd] at hc
    go_wp2_with (first
    | (refine loud_ rfl ?_; refine wpList_plain rfl (fun K hK => ?_); first
      | (refine op_box _ _ rfl H (fun b w' H1 => hK _ _ ?_); clear hK K; replace H := H1; clear H1; (try clear hc); (try simp only [nrm, splice, Value.cells, Nat.reduceAdd, Act.eval, Act.put] at H); have hc := H.cells; simp only [CellsOf, KnCells, arr_lit, knAt_cons, knAt_nil, Nat.zero_add, Nat.add_zero, Nat.reduceAdd] at hc)
      | (refine op_alloc _ rfl (zero_of _ _ rfl) H (fun b w' H1 => hK _ _ ?_); clear hK K; replace H := H1; clear H1; (try clear hc); (try simp only [nrm, splice, Value.cells, Nat.reduceAdd, Act.eval, Act.put] at H); have hc := H.cells; simp only [CellsOf, KnCells, arr_lit, knAt_cons, knAt_nil, Nat.zero_add, Nat.add_zero, Nat.reduceAdd] at hc)
      | (refine op_store _ _ _ rfl rfl rfl H (by repeat (first | exact Split.here _ _ | apply Split.there)) (by kernel_rfl) (by kernel_rfl) (by kernel_rfl) (fun w' H1 => hK _ _ ?_); clear hK K; replace H := H1; clear H1; (try clear hc); (try simp only [nrm, splice, Value.cells, Nat.reduceAdd, Act.eval, Act.put] at H); have hc := H.cells; simp only [CellsOf, KnCells, arr_lit, knAt_cons, knAt_nil, Nat.zero_add, Nat.add_zero, Nat.reduceAdd] at hc)
      | (refine op_buildSlice_all _ _ _ rfl (by first | exact elem22 | exact elem25 | exact elem26 | exact elem29) (by kernel_rfl) (by kernel_rfl) (by kernel_rfl) H (fun b w' H1 => hK _ _ ?_); clear hK K; replace H := H1; clear H1; (try clear hc); (try simp only [nrm, splice, Value.cells, Nat.reduceAdd, Act.eval, Act.put] at H); have hc := H.cells; simp only [CellsOf, KnCells, arr_lit, knAt_cons, knAt_nil, Nat.zero_add, Nat.add_zero, Nat.reduceAdd] at hc)))
    (try simp only [Act.put, slt])
    refine wp_region_plan (.p [0, 1, 2, 3] (.q [4] (.p [5, 6, 7, 8, 9, 10] (.q [11] (.p [12, 13, 14] (.q [15] (.p [16, 17] .done))))))) [] (by kernel_rfl) (by kernel_rfl) (fun _ _ d _ _ h => by cases d <;> exact h) H ?_
    clear H
    (try clear hc)
    intro X nX fX wd hcf hS H
    simp only [CellsOf, KnCells, arr_lit, knAt_cons, knAt_nil, Nat.zero_add, Nat.add_zero, Nat.reduceAdd] at hcf
    have hc := H.cells
    simp only [CellsOf, KnCells, arr_lit, knAt_cons, knAt_nil, Nat.zero_add, Nat.add_zero, Nat.reduceAdd] at hc
    iterate 4 (refine plan_p (o := ⟨_, _, _, _, _, _⟩) rfl (fun N hN => ?_); go_big_quiet_step (fail); refine wpQuiet_nil (hN _ ?_); clear hN N)
    refine plan_p0 ?_
    iterate 1 (refine plan_q (o := ⟨_, _, _, _, _, _⟩) rfl (fun N hN => ?_); go_big_quiet_step (fail); refine wpQuiet_nil (hN _ ?_); clear hN N)
    refine plan_q0 ?_
    iterate 2 (refine plan_p (o := ⟨_, _, _, _, _, _⟩) rfl (fun N hN => ?_); go_big_quiet_step (fail); refine wpQuiet_nil (hN _ ?_); clear hN N)
    iterate 1 (refine plan_p (o := ⟨_, _, _, _, _, _⟩) rfl (fun N hN => ?_); go_big_quiet_step (fail); refine wpQuiet_nil (hN _ ?_); clear hN N)
    iterate 1 (refine plan_p (o := ⟨_, _, _, _, _, _⟩) rfl (fun N hN => ?_); go_big_quiet_step (fail); refine wpQuiet_nil (hN _ ?_); clear hN N)
    iterate 1 (refine plan_p (o := ⟨_, _, _, _, _, _⟩) rfl (fun N hN => ?_); go_big_quiet_step (fail); refine wpQuiet_nil (hN _ ?_); clear hN N)
    iterate 1 (refine plan_p (o := ⟨_, _, _, _, _, _⟩) rfl (fun N hN => ?_); go_big_quiet_step (fail); refine wpQuiet_nil (hN _ ?_); clear hN N)
    refine plan_p0 ?_
    iterate 1 (refine plan_q (o := ⟨_, _, _, _, _, _⟩) rfl (fun N hN => ?_); go_big_quiet_step (fail); refine wpQuiet_nil (hN _ ?_); clear hN N)
    refine plan_q0 ?_
    iterate 1 (refine plan_p (o := ⟨_, _, _, _, _, _⟩) rfl (fun N hN => ?_); go_big_quiet_step (fail); refine wpQuiet_nil (hN _ ?_); clear hN N)
    iterate 1 (refine plan_p (o := ⟨_, _, _, _, _, _⟩) rfl (fun N hN => ?_); go_big_quiet_step (fail); refine wpQuiet_nil (hN _ ?_); clear hN N)
    iterate 1 (refine plan_p (o := ⟨_, _, _, _, _, _⟩) rfl (fun N hN => ?_); go_big_quiet_step (fail); refine wpQuiet_nil (hN _ ?_); clear hN N)
    refine plan_p0 ?_
    iterate 1 (refine plan_q (o := ⟨_, _, _, _, _, _⟩) rfl (fun N hN => ?_); go_big_quiet_step (fail); refine wpQuiet_nil (hN _ ?_); clear hN N)
    refine plan_q0 ?_
    iterate 1 (refine plan_p (o := ⟨_, _, _, _, _, _⟩) rfl (fun N hN => ?_); go_big_quiet_step (fail); refine wpQuiet_nil (hN _ ?_); clear hN N)
    iterate 1 (refine plan_p (o := ⟨_, _, _, _, _, _⟩) rfl (fun N hN => ?_); go_big_quiet_step (fail); refine wpQuiet_nil (hN _ ?_); clear hN N)
    refine plan_p0 ?_
    refine plan_done ?_
    go_wp2_with (first
    | (refine loud_ rfl ?_; refine wpList_plain rfl (fun K hK => ?_); first
      | (refine op_make_lit _ _ _ rfl elem26 (n := m) rfl rfl H (by omega) (by unfold maxLen; omega) (fun ko w' H1 => hK _ _ ?_); clear hK K; replace H := H1; clear H1; (try clear hc); (try simp only [nrm, splice, Value.cells, Nat.reduceAdd, Act.eval, Act.put] at H); have hc := H.cells; simp only [CellsOf, KnCells, arr_lit, knAt_cons, knAt_nil, Nat.zero_add, Nat.add_zero, Nat.reduceAdd] at hc)
      | (refine op_box _ _ rfl H (fun b w' H1 => hK _ _ ?_); clear hK K; replace H := H1; clear H1; (try clear hc); (try simp only [nrm, splice, Value.cells, Nat.reduceAdd, Act.eval, Act.put] at H); have hc := H.cells; simp only [CellsOf, KnCells, arr_lit, knAt_cons, knAt_nil, Nat.zero_add, Nat.add_zero, Nat.reduceAdd] at hc)
      | (refine op_alloc _ rfl (zero_of _ _ rfl) H (fun b w' H1 => hK _ _ ?_); clear hK K; replace H := H1; clear H1; (try clear hc); (try simp only [nrm, splice, Value.cells, Nat.reduceAdd, Act.eval, Act.put] at H); have hc := H.cells; simp only [CellsOf, KnCells, arr_lit, knAt_cons, knAt_nil, Nat.zero_add, Nat.add_zero, Nat.reduceAdd] at hc)
      | (refine op_store _ _ _ rfl rfl rfl H (by repeat (first | exact Split.here _ _ | apply Split.there)) (by kernel_rfl) (by kernel_rfl) (by kernel_rfl) (fun w' H1 => hK _ _ ?_); clear hK K; replace H := H1; clear H1; (try clear hc); (try simp only [nrm, splice, Value.cells, Nat.reduceAdd, Act.eval, Act.put] at H); have hc := H.cells; simp only [CellsOf, KnCells, arr_lit, knAt_cons, knAt_nil, Nat.zero_add, Nat.add_zero, Nat.reduceAdd] at hc)
      | (refine op_buildSlice_all _ _ _ rfl (by first | exact elem22 | exact elem25 | exact elem26 | exact elem29) (by kernel_rfl) (by kernel_rfl) (by kernel_rfl) H (fun b w' H1 => hK _ _ ?_); clear hK K; replace H := H1; clear H1; (try clear hc); (try simp only [nrm, splice, Value.cells, Nat.reduceAdd, Act.eval, Act.put] at H); have hc := H.cells; simp only [CellsOf, KnCells, arr_lit, knAt_cons, knAt_nil, Nat.zero_add, Nat.add_zero, Nat.reduceAdd] at hc)))
    go_ret2
    rw [zeros_ints] at H
    exact ⟨ko, 0, _, ginv_new m, rfl, H.sel (by repeat (first | exact Sel.nil _ | (apply Sel.cons; focus (repeat (first | exact Split.here _ _ | apply Split.there)))))⟩
  · have hle : less m n q = n := by unfold less; rw [if_neg hs]
    rw [hle]
    have hl := h.fits
    simp only [List.length_cons] at hl
    by_cases hq : q.length = 0
    · have hmn : ¬ m < n := fun h => hs ⟨hq, h⟩
      have hq' : q = [] := List.eq_nil_of_length_eq_zero hq
      subst hq'
      clear hs hle hq
      go_enter Try.func49, Try.ntmps49
      go_wp2_with (first
    | (refine loud_ rfl ?_; refine wpList_plain rfl (fun K hK => ?_); first
      | (refine op_box _ _ rfl H (fun b w' H1 => hK _ _ ?_); clear hK K; replace H := H1; clear H1; (try clear hc); (try simp only [nrm, splice, Value.cells, Nat.reduceAdd, Act.eval, Act.put] at H); have hc := H.cells; simp only [CellsOf, KnCells, arr_lit, knAt_cons, knAt_nil, Nat.zero_add, Nat.add_zero, Nat.reduceAdd] at hc)
      | (refine op_alloc _ rfl (zero_of _ _ rfl) H (fun b w' H1 => hK _ _ ?_); clear hK K; replace H := H1; clear H1; (try clear hc); (try simp only [nrm, splice, Value.cells, Nat.reduceAdd, Act.eval, Act.put] at H); have hc := H.cells; simp only [CellsOf, KnCells, arr_lit, knAt_cons, knAt_nil, Nat.zero_add, Nat.add_zero, Nat.reduceAdd] at hc)
      | (refine op_store _ _ _ rfl rfl rfl H (by repeat (first | exact Split.here _ _ | apply Split.there)) (by kernel_rfl) (by kernel_rfl) (by kernel_rfl) (fun w' H1 => hK _ _ ?_); clear hK K; replace H := H1; clear H1; (try clear hc); (try simp only [nrm, splice, Value.cells, Nat.reduceAdd, Act.eval, Act.put] at H); have hc := H.cells; simp only [CellsOf, KnCells, arr_lit, knAt_cons, knAt_nil, Nat.zero_add, Nat.add_zero, Nat.reduceAdd] at hc)
      | (refine op_buildSlice_all _ _ _ rfl (by first | exact elem22 | exact elem25 | exact elem26 | exact elem29) (by kernel_rfl) (by kernel_rfl) (by kernel_rfl) H (fun b w' H1 => hK _ _ ?_); clear hK K; replace H := H1; clear H1; (try clear hc); (try simp only [nrm, splice, Value.cells, Nat.reduceAdd, Act.eval, Act.put] at H); have hc := H.cells; simp only [CellsOf, KnCells, arr_lit, knAt_cons, knAt_nil, Nat.zero_add, Nat.add_zero, Nat.reduceAdd] at hc)))
      refine Calls.mono (gread_calls (some m) _ _ _ _ _ [] x _ _ h hn (H.pick (by repeat (first | exact Picks.nil _ | (apply Picks.wr; focus (repeat (first | exact Split.here _ _ | apply Split.there))) | (apply Picks.rd; focus (repeat (first | exact Split.here _ _ | apply Split.there))))))) ?_
      rintro e w' ⟨beg', data', hg, rfl, H'⟩
      replace H := H.merge (by first | exact Strikes.nil _ | (repeat (first | exact Strikes.nil _ | (apply Strikes.cons; focus (repeat (first | exact Split.here _ _ | apply Split.there)))))) H' rfl
      clear H'
      simp only [gents, gobj, List.length_nil, Int.natCast_zero, List.cons_append, List.nil_append] at H
      (try clear hc)
      have hc := H.cells; simp only [CellsOf, KnCells, arr_lit, knAt_cons, knAt_nil, Nat.zero_add, Nat.add_zero, Nat.reduceAdd] at hc
      go_wp2_with (first
    | (refine loud_ rfl ?_; refine wpList_plain rfl (fun K hK => ?_); first
      | (refine op_box _ _ rfl H (fun b w' H1 => hK _ _ ?_); clear hK K; replace H := H1; clear H1; (try clear hc); (try simp only [nrm, splice, Value.cells, Nat.reduceAdd, Act.eval, Act.put] at H); have hc := H.cells; simp only [CellsOf, KnCells, arr_lit, knAt_cons, knAt_nil, Nat.zero_add, Nat.add_zero, Nat.reduceAdd] at hc)
      | (refine op_alloc _ rfl (zero_of _ _ rfl) H (fun b w' H1 => hK _ _ ?_); clear hK K; replace H := H1; clear H1; (try clear hc); (try simp only [nrm, splice, Value.cells, Nat.reduceAdd, Act.eval, Act.put] at H); have hc := H.cells; simp only [CellsOf, KnCells, arr_lit, knAt_cons, knAt_nil, Nat.zero_add, Nat.add_zero, Nat.reduceAdd] at hc)
      | (refine op_store _ _ _ rfl rfl rfl H (by repeat (first | exact Split.here _ _ | apply Split.there)) (by kernel_rfl) (by kernel_rfl) (by kernel_rfl) (fun w' H1 => hK _ _ ?_); clear hK K; replace H := H1; clear H1; (try clear hc); (try simp only [nrm, splice, Value.cells, Nat.reduceAdd, Act.eval, Act.put] at H); have hc := H.cells; simp only [CellsOf, KnCells, arr_lit, knAt_cons, knAt_nil, Nat.zero_add, Nat.add_zero, Nat.reduceAdd] at hc)
      | (refine op_buildSlice_all _ _ _ rfl (by first | exact elem22 | exact elem25 | exact elem26 | exact elem29) (by kernel_rfl) (by kernel_rfl) (by kernel_rfl) H (fun b w' H1 => hK _ _ ?_); clear hK K; replace H := H1; clear H1; (try clear hc); (try simp only [nrm, splice, Value.cells, Nat.reduceAdd, Act.eval, Act.put] at H); have hc := H.cells; simp only [CellsOf, KnCells, arr_lit, knAt_cons, knAt_nil, Nat.zero_add, Nat.add_zero, Nat.reduceAdd] at hc)))
      (try simp only [Act.put, slt])
      refine wp_region_plan (.p [0, 1, 2, 3] (.q [4] (.p [5, 6, 7, 8, 9, 10] (.q [11] (.p [12, 13, 14] (.q [15] (.p [16, 17] .done))))))) [] (by kernel_rfl) (by kernel_rfl) (fun _ _ d _ _ h => by cases d <;> exact h) H ?_
      clear H
      (try clear hc)
      intro X nX fX wd hcf hS H
      simp only [CellsOf, KnCells, arr_lit, knAt_cons, knAt_nil, Nat.zero_add, Nat.add_zero, Nat.reduceAdd] at hcf
      have hc := H.cells
      simp only [CellsOf, KnCells, arr_lit, knAt_cons, knAt_nil, Nat.zero_add, Nat.add_zero, Nat.reduceAdd] at hc
      iterate 4 (refine plan_p (o := ⟨_, _, _, _, _, _⟩) rfl (fun N hN => ?_); go_big_quiet_step (fail); refine wpQuiet_nil (hN _ ?_); clear hN N)
      refine plan_p0 ?_
      iterate 1 (refine plan_q (o := ⟨_, _, _, _, _, _⟩) rfl (fun N hN => ?_); go_big_quiet_step (fail); refine wpQuiet_nil (hN _ ?_); clear hN N)
      refine plan_q0 ?_
      iterate 2 (refine plan_p (o := ⟨_, _, _, _, _, _⟩) rfl (fun N hN => ?_); go_big_quiet_step (fail); refine wpQuiet_nil (hN _ ?_); clear hN N)
      iterate 1 (refine plan_p (o := ⟨_, _, _, _, _, _⟩) rfl (fun N hN => ?_); go_big_quiet_step (fail); refine wpQuiet_nil (hN _ ?_); clear hN N)
      iterate 1 (refine plan_p (o := ⟨_, _, _, _, _, _⟩) rfl (fun N hN => ?_); go_big_quiet_step (fail); refine wpQuiet_nil (hN _ ?_); clear hN N)
      iterate 1 (refine plan_p (o := ⟨_, _, _, _, _, _⟩) rfl (fun N hN => ?_); go_big_quiet_step (fail); refine wpQuiet_nil (hN _ ?_); clear hN N)
      iterate 1 (refine plan_p (o := ⟨_, _, _, _, _, _⟩) rfl (fun N hN => ?_); go_big_quiet_step (fail); refine wpQuiet_nil (hN _ ?_); clear hN N)
      refine plan_p0 ?_
      iterate 1 (refine plan_q (o := ⟨_, _, _, _, _, _⟩) rfl (fun N hN => ?_); go_big_quiet_step (fail); refine wpQuiet_nil (hN _ ?_); clear hN N)
      refine plan_q0 ?_
      iterate 1 (refine plan_p (o := ⟨_, _, _, _, _, _⟩) rfl (fun N hN => ?_); go_big_quiet_step (fail); refine wpQuiet_nil (hN _ ?_); clear hN N)
      iterate 1 (refine plan_p (o := ⟨_, _, _, _, _, _⟩) rfl (fun N hN => ?_); go_big_quiet_step (fail); refine wpQuiet_nil (hN _ ?_); clear hN N)
      iterate 1 (refine plan_p (o := ⟨_, _, _, _, _, _⟩) rfl (fun N hN => ?_); go_big_quiet_step (fail); refine wpQuiet_nil (hN _ ?_); clear hN N)
      refine plan_p0 ?_
      iterate 1 (refine plan_q (o := ⟨_, _, _, _, _, _⟩) rfl (fun N hN => ?_); go_big_quiet_step (fail); refine wpQuiet_nil (hN _ ?_); clear hN N)
      refine plan_q0 ?_
      iterate 1 (refine plan_p (o := ⟨_, _, _, _, _, _⟩) rfl (fun N hN => ?_); go_big_quiet_step (fail); refine wpQuiet_nil (hN _ ?_); clear hN N)
      iterate 1 (refine plan_p (o := ⟨_, _, _, _, _, _⟩) rfl (fun N hN => ?_); go_big_quiet_step (fail); refine wpQuiet_nil (hN _ ?_); clear hN N)
      refine plan_p0 ?_
      refine plan_done ?_
      go_wp2_with (first
    | (refine loud_ rfl ?_; refine wpList_plain rfl (fun K hK => ?_); first
      | (refine op_make_lit _ _ _ rfl elem26 (n := m) rfl rfl H (by omega) (by unfold maxLen; omega) (fun ko w' H1 => hK _ _ ?_); clear hK K; replace H := H1; clear H1; (try clear hc); (try simp only [nrm, splice, Value.cells, Nat.reduceAdd, Act.eval, Act.put] at H); have hc := H.cells; simp only [CellsOf, KnCells, arr_lit, knAt_cons, knAt_nil, Nat.zero_add, Nat.add_zero, Nat.reduceAdd] at hc)
      | (refine op_box _ _ rfl H (fun b w' H1 => hK _ _ ?_); clear hK K; replace H := H1; clear H1; (try clear hc); (try simp only [nrm, splice, Value.cells, Nat.reduceAdd, Act.eval, Act.put] at H); have hc := H.cells; simp only [CellsOf, KnCells, arr_lit, knAt_cons, knAt_nil, Nat.zero_add, Nat.add_zero, Nat.reduceAdd] at hc)
      | (refine op_alloc _ rfl (zero_of _ _ rfl) H (fun b w' H1 => hK _ _ ?_); clear hK K; replace H := H1; clear H1; (try clear hc); (try simp only [nrm, splice, Value.cells, Nat.reduceAdd, Act.eval, Act.put] at H); have hc := H.cells; simp only [CellsOf, KnCells, arr_lit, knAt_cons, knAt_nil, Nat.zero_add, Nat.add_zero, Nat.reduceAdd] at hc)
      | (refine op_store _ _ _ rfl rfl rfl H (by repeat (first | exact Split.here _ _ | apply Split.there)) (by kernel_rfl) (by kernel_rfl) (by kernel_rfl) (fun w' H1 => hK _ _ ?_); clear hK K; replace H := H1; clear H1; (try clear hc); (try simp only [nrm, splice, Value.cells, Nat.reduceAdd, Act.eval, Act.put] at H); have hc := H.cells; simp only [CellsOf, KnCells, arr_lit, knAt_cons, knAt_nil, Nat.zero_add, Nat.add_zero, Nat.reduceAdd] at hc)
      | (refine op_buildSlice_all _ _ _ rfl (by first | exact elem22 | exact elem25 | exact elem26 | exact elem29) (by kernel_rfl) (by kernel_rfl) (by kernel_rfl) H (fun b w' H1 => hK _ _ ?_); clear hK K; replace H := H1; clear H1; (try clear hc); (try simp only [nrm, splice, Value.cells, Nat.reduceAdd, Act.eval, Act.put] at H); have hc := H.cells; simp only [CellsOf, KnCells, arr_lit, knAt_cons, knAt_nil, Nat.zero_add, Nat.add_zero, Nat.reduceAdd] at hc)))
      go_ret2
      exact ⟨kb, beg', _, hg, rfl, H.sel (by repeat (first | exact Sel.nil _ | (apply Sel.cons; focus (repeat (first | exact Split.here _ _ | apply Split.there)))))⟩
    · have hq' : 0 < q.length := by omega
      obtain ⟨ql, hql⟩ : ∃ ql, q.length = ql := ⟨_, rfl⟩
      rw [hql] at hq hq' hl
      have hgd : Hid (decide ((ql : Int) = 0) = !true) := (decide_eq_false (by omega) : decide ((ql : Int) = 0) = false)
      have hql' := Lib.hid hql
      clear hs hle hq hq' hl
      go_enter Try.func49, Try.ntmps49
      go_wp2_with (first
    | (refine loud_ rfl ?_; refine wpList_plain rfl (fun K hK => ?_); first
      | (refine op_box _ _ rfl H (fun b w' H1 => hK _ _ ?_); clear hK K; replace H := H1; clear H1; (try clear hc); (try simp only [nrm, splice, Value.cells, Nat.reduceAdd, Act.eval, Act.put] at H); have hc := H.cells; simp only [CellsOf, KnCells, arr_lit, knAt_cons, knAt_nil, Nat.zero_add, Nat.add_zero, Nat.reduceAdd] at hc)
      | (refine op_alloc _ rfl (zero_of _ _ rfl) H (fun b w' H1 => hK _ _ ?_); clear hK K; replace H := H1; clear H1; (try clear hc); (try simp only [nrm, splice, Value.cells, Nat.reduceAdd, Act.eval, Act.put] at H); have hc := H.cells; simp only [CellsOf, KnCells, arr_lit, knAt_cons, knAt_nil, Nat.zero_add, Nat.add_zero, Nat.reduceAdd] at hc)
      | (refine op_store _ _ _ rfl rfl rfl H (by repeat (first | exact Split.here _ _ | apply Split.there)) (by kernel_rfl) (by kernel_rfl) (by kernel_rfl) (fun w' H1 => hK _ _ ?_); clear hK K; replace H := H1; clear H1; (try clear hc); (try simp only [nrm, splice, Value.cells, Nat.reduceAdd, Act.eval, Act.put] at H); have hc := H.cells; simp only [CellsOf, KnCells, arr_lit, knAt_cons, knAt_nil, Nat.zero_add, Nat.add_zero, Nat.reduceAdd] at hc)
      | (refine op_buildSlice_all _ _ _ rfl (by first | exact elem22 | exact elem25 | exact elem26 | exact elem29) (by kernel_rfl) (by kernel_rfl) (by kernel_rfl) H (fun b w' H1 => hK _ _ ?_); clear hK K; replace H := H1; clear H1; (try clear hc); (try simp only [nrm, splice, Value.cells, Nat.reduceAdd, Act.eval, Act.put] at H); have hc := H.cells; simp only [CellsOf, KnCells, arr_lit, knAt_cons, knAt_nil, Nat.zero_add, Nat.add_zero, Nat.reduceAdd] at hc)))
      refine Calls.mono (gread_calls (some m) _ _ _ _ _ q x _ _ h hn (H.pick (by repeat (first | exact Picks.nil _ | (apply Picks.wr; focus (repeat (first | exact Split.here _ _ | apply Split.there))) | (apply Picks.rd; focus (repeat (first | exact Split.here _ _ | apply Split.there))))))) ?_
      rintro e w' ⟨beg', data', hg, rfl, H'⟩
      replace H := H.merge (by first | exact Strikes.nil _ | (repeat (first | exact Strikes.nil _ | (apply Strikes.cons; focus (repeat (first | exact Split.here _ _ | apply Split.there)))))) H' rfl
      clear H'
      rw [hql] at H
      simp only [gents, gobj, List.cons_append, List.nil_append] at H
      (try clear hc)
      clear hql
      have hc := H.cells; simp only [CellsOf, KnCells, arr_lit, knAt_cons, knAt_nil, Nat.zero_add, Nat.add_zero, Nat.reduceAdd] at hc
      go_wp2_with (first
    | (refine loud_ rfl ?_; refine wpList_plain rfl (fun K hK => ?_); first
      | (refine op_box _ _ rfl H (fun b w' H1 => hK _ _ ?_); clear hK K; replace H := H1; clear H1; (try clear hc); (try simp only [nrm, splice, Value.cells, Nat.reduceAdd, Act.eval, Act.put] at H); have hc := H.cells; simp only [CellsOf, KnCells, arr_lit, knAt_cons, knAt_nil, Nat.zero_add, Nat.add_zero, Nat.reduceAdd] at hc)
      | (refine op_alloc _ rfl (zero_of _ _ rfl) H (fun b w' H1 => hK _ _ ?_); clear hK K; replace H := H1; clear H1; (try clear hc); (try simp only [nrm, splice, Value.cells, Nat.reduceAdd, Act.eval, Act.put] at H); have hc := H.cells; simp only [CellsOf, KnCells, arr_lit, knAt_cons, knAt_nil, Nat.zero_add, Nat.add_zero, Nat.reduceAdd] at hc)
      | (refine op_store _ _ _ rfl rfl rfl H (by repeat (first | exact Split.here _ _ | apply Split.there)) (by kernel_rfl) (by kernel_rfl) (by kernel_rfl) (fun w' H1 => hK _ _ ?_); clear hK K; replace H := H1; clear H1; (try clear hc); (try simp only [nrm, splice, Value.cells, Nat.reduceAdd, Act.eval, Act.put] at H); have hc := H.cells; simp only [CellsOf, KnCells, arr_lit, knAt_cons, knAt_nil, Nat.zero_add, Nat.add_zero, Nat.reduceAdd] at hc)
      | (refine op_buildSlice_all _ _ _ rfl (by first | exact elem22 | exact elem25 | exact elem26 | exact elem29) (by kernel_rfl) (by kernel_rfl) (by kernel_rfl) H (fun b w' H1 => hK _ _ ?_); clear hK K; replace H := H1; clear H1; (try clear hc); (try simp only [nrm, splice, Value.cells, Nat.reduceAdd, Act.eval, Act.put] at H); have hc := H.cells; simp only [CellsOf, KnCells, arr_lit, knAt_cons, knAt_nil, Nat.zero_add, Nat.add_zero, Nat.reduceAdd] at hc)))
      (try simp only [Act.put, slt])
      refine wp_region_plan (.p [0, 1, 2, 3] (.q [4] (.p [5, 6, 7, 8, 9, 10] (.q [11] (.p [12, 13, 14] (.q [15] (.p [16, 17] .done))))))) [] (by kernel_rfl) (by kernel_rfl) (fun _ _ d _ _ h => by cases d <;> exact h) H ?_
      clear H
      (try clear hc)
      intro X nX fX wd hcf hS H
      simp only [CellsOf, KnCells, arr_lit, knAt_cons, knAt_nil, Nat.zero_add, Nat.add_zero, Nat.reduceAdd] at hcf
      have hc := H.cells
      simp only [CellsOf, KnCells, arr_lit, knAt_cons, knAt_nil, Nat.zero_add, Nat.add_zero, Nat.reduceAdd] at hc
      iterate 4 (refine plan_p (o := ⟨_, _, _, _, _, _⟩) rfl (fun N hN => ?_); go_big_quiet_step (fail); refine wpQuiet_nil (hN _ ?_); clear hN N)
      refine plan_p0 ?_
      iterate 1 (refine plan_q (o := ⟨_, _, _, _, _, _⟩) rfl (fun N hN => ?_); go_big_quiet_step (fail); refine wpQuiet_nil (hN _ ?_); clear hN N)
      refine plan_q0 ?_
      iterate 2 (refine plan_p (o := ⟨_, _, _, _, _, _⟩) rfl (fun N hN => ?_); go_big_quiet_step (fail); refine wpQuiet_nil (hN _ ?_); clear hN N)
      first | (refine plan_p_no (o := ⟨_, _, _, _, _, _⟩) rfl rfl rfl rfl (by first | exact hgd.out | rfl) ?_; (try simp only [Act.put, slt])) | (iterate 1 (refine plan_p (o := ⟨_, _, _, _, _, _⟩) rfl (fun N hN => ?_); go_big_quiet_step (fail); refine wpQuiet_nil (hN _ ?_); clear hN N))
      first | (refine plan_p_no (o := ⟨_, _, _, _, _, _⟩) rfl rfl rfl rfl (by first | exact hgd.out | rfl) ?_; (try simp only [Act.put, slt])) | (iterate 1 (refine plan_p (o := ⟨_, _, _, _, _, _⟩) rfl (fun N hN => ?_); go_big_quiet_step (fail); refine wpQuiet_nil (hN _ ?_); clear hN N))
      first | (refine plan_p_no (o := ⟨_, _, _, _, _, _⟩) rfl rfl rfl rfl (by first | exact hgd.out | rfl) ?_; (try simp only [Act.put, slt])) | (iterate 1 (refine plan_p (o := ⟨_, _, _, _, _, _⟩) rfl (fun N hN => ?_); go_big_quiet_step (fail); refine wpQuiet_nil (hN _ ?_); clear hN N))
      first | (refine plan_p_no (o := ⟨_, _, _, _, _, _⟩) rfl rfl rfl rfl (by first | exact hgd.out | rfl) ?_; (try simp only [Act.put, slt])) | (iterate 1 (refine plan_p (o := ⟨_, _, _, _, _, _⟩) rfl (fun N hN => ?_); go_big_quiet_step (fail); refine wpQuiet_nil (hN _ ?_); clear hN N))
      refine plan_p0 ?_
      first | (refine plan_q_no (o := ⟨_, _, _, _, _, _⟩) rfl rfl rfl rfl (by first | exact hgd.out | rfl) ?_; (try simp only [Act.put, slt])) | (iterate 1 (refine plan_q (o := ⟨_, _, _, _, _, _⟩) rfl (fun N hN => ?_); go_big_quiet_step (fail); refine wpQuiet_nil (hN _ ?_); clear hN N))
      refine plan_q0 ?_
      first | (refine plan_p_no (o := ⟨_, _, _, _, _, _⟩) rfl rfl rfl rfl (by first | exact hgd.out | rfl) ?_; (try simp only [Act.put, slt])) | (iterate 1 (refine plan_p (o := ⟨_, _, _, _, _, _⟩) rfl (fun N hN => ?_); go_big_quiet_step (fail); refine wpQuiet_nil (hN _ ?_); clear hN N))
      first | (refine plan_p_no (o := ⟨_, _, _, _, _, _⟩) rfl rfl rfl rfl (by first | exact hgd.out | rfl) ?_; (try simp only [Act.put, slt])) | (iterate 1 (refine plan_p (o := ⟨_, _, _, _, _, _⟩) rfl (fun N hN => ?_); go_big_quiet_step (fail); refine wpQuiet_nil (hN _ ?_); clear hN N))
      first | (refine plan_p_no (o := ⟨_, _, _, _, _, _⟩) rfl rfl rfl rfl (by first | exact hgd.out | rfl) ?_; (try simp only [Act.put, slt])) | (iterate 1 (refine plan_p (o := ⟨_, _, _, _, _, _⟩) rfl (fun N hN => ?_); go_big_quiet_step (fail); refine wpQuiet_nil (hN _ ?_); clear hN N))
      refine plan_p0 ?_
      first | (refine plan_q_no (o := ⟨_, _, _, _, _, _⟩) rfl rfl rfl rfl (by first | exact hgd.out | rfl) ?_; (try simp only [Act.put, slt])) | (iterate 1 (refine plan_q (o := ⟨_, _, _, _, _, _⟩) rfl (fun N hN => ?_); go_big_quiet_step (fail); refine wpQuiet_nil (hN _ ?_); clear hN N))
      refine plan_q0 ?_
      first | (refine plan_p_no (o := ⟨_, _, _, _, _, _⟩) rfl rfl rfl rfl (by first | exact hgd.out | rfl) ?_; (try simp only [Act.put, slt])) | (iterate 1 (refine plan_p (o := ⟨_, _, _, _, _, _⟩) rfl (fun N hN => ?_); go_big_quiet_step (fail); refine wpQuiet_nil (hN _ ?_); clear hN N))
      iterate 1 (refine plan_p (o := ⟨_, _, _, _, _, _⟩) rfl (fun N hN => ?_); go_big_quiet_step (fail); refine wpQuiet_nil (hN _ ?_); clear hN N)
      refine plan_p0 ?_
      refine plan_done ?_
      have hgd2 : ((ql : Int) == 0) = false := hgd.out
      have hgd3 : (ql = 0) = False := by simpa using hgd2
      simp only [hgd2, hgd3, if_false]
      go_wp2_with (first
    | (refine loud_ rfl ?_; refine wpList_plain rfl (fun K hK => ?_); first
      | (refine op_box _ _ rfl H (fun b w' H1 => hK _ _ ?_); clear hK K; replace H := H1; clear H1; (try clear hc); (try simp only [nrm, splice, Value.cells, Nat.reduceAdd, Act.eval, Act.put] at H); have hc := H.cells; simp only [CellsOf, KnCells, arr_lit, knAt_cons, knAt_nil, Nat.zero_add, Nat.add_zero, Nat.reduceAdd] at hc)
      | (refine op_alloc _ rfl (zero_of _ _ rfl) H (fun b w' H1 => hK _ _ ?_); clear hK K; replace H := H1; clear H1; (try clear hc); (try simp only [nrm, splice, Value.cells, Nat.reduceAdd, Act.eval, Act.put] at H); have hc := H.cells; simp only [CellsOf, KnCells, arr_lit, knAt_cons, knAt_nil, Nat.zero_add, Nat.add_zero, Nat.reduceAdd] at hc)
      | (refine op_store _ _ _ rfl rfl rfl H (by repeat (first | exact Split.here _ _ | apply Split.there)) (by kernel_rfl) (by kernel_rfl) (by kernel_rfl) (fun w' H1 => hK _ _ ?_); clear hK K; replace H := H1; clear H1; (try clear hc); (try simp only [nrm, splice, Value.cells, Nat.reduceAdd, Act.eval, Act.put] at H); have hc := H.cells; simp only [CellsOf, KnCells, arr_lit, knAt_cons, knAt_nil, Nat.zero_add, Nat.add_zero, Nat.reduceAdd] at hc)
      | (refine op_buildSlice_all _ _ _ rfl (by first | exact elem22 | exact elem25 | exact elem26 | exact elem29) (by kernel_rfl) (by kernel_rfl) (by kernel_rfl) H (fun b w' H1 => hK _ _ ?_); clear hK K; replace H := H1; clear H1; (try clear hc); (try simp only [nrm, splice, Value.cells, Nat.reduceAdd, Act.eval, Act.put] at H); have hc := H.cells; simp only [CellsOf, KnCells, arr_lit, knAt_cons, knAt_nil, Nat.zero_add, Nat.add_zero, Nat.reduceAdd] at hc)))
      go_ret2
      rw [hql'.out]
      exact ⟨kb, beg', _, hg, rfl, H.sel (by repeat (first | exact Sel.nil _ | (apply Sel.cons; focus (repeat (first | exact Split.here _ _ | apply Split.there)))))⟩
set_option maxHeartbeats 2000000 in
theorem rread_none (m br kb n beg : Nat) (data : List Int) (S : List Nat) (w : World) (h : GInv n beg data []) (hn : n ≤ 1000000) (hm : m ≤ 65536) (H : St S w w (gents (some m) br kb n beg 0 data)) :
    Calls Try.prog 49 #[.pointer (some ⟨br, 0, none⟩)] w fun e w' => ∃ kb' beg' data', GInv (less m n []) beg' data' [] ∧ e = .returned (.tuple #[.int .i64 0, .bool false]) ∧ St S w w' (gents (some m) br kb' (less m n []) beg' 0 data') := by
  by_cases h2 : m < n
  · have hle : less m n [] = m := by unfold less; rw [if_pos ⟨rfl, h2⟩]
    rw [hle]
    go_enter Try.func49, Try.ntmps49
    go_wp2_with (first
    | (refine loud_ rfl ?_; refine wpList_plain rfl (fun K hK => ?_); first
      | (refine op_box _ _ rfl H (fun b w' H1 => hK _ _ ?_); clear hK K; replace H := H1; clear H1; (try clear hc); (try simp only [nrm, splice, Value.cells, Nat.reduceAdd, Act.eval, Act.put] at H); have hc := H.cells; simp only [CellsOf, KnCells, arr_lit, knAt_cons, knAt_nil, Nat.zero_add, Nat.add_zero, Nat.reduceAdd] at hc)
      | (refine op_alloc _ rfl (zero_of _ _ rfl) H (fun b w' H1 => hK _ _ ?_); clear hK K; replace H := H1; clear H1; (try clear hc); (try simp only [nrm, splice, Value.cells, Nat.reduceAdd, Act.eval, Act.put] at H); have hc := H.cells; simp only [CellsOf, KnCells, arr_lit, knAt_cons, knAt_nil, Nat.zero_add, Nat.add_zero, Nat.reduceAdd] at hc)
      | (refine op_store _ _ _ rfl rfl rfl H (by repeat (first | exact Split.here _ _ | apply Split.there)) (by kernel_rfl) (by kernel_rfl) (by kernel_rfl) (fun w' H1 => hK _ _ ?_); clear hK K; replace H := H1; clear H1; (try clear hc); (try simp only [nrm, splice, Value.cells, Nat.reduceAdd, Act.eval, Act.put] at H); have hc := H.cells; simp only [CellsOf, KnCells, arr_lit, knAt_cons, knAt_nil, Nat.zero_add, Nat.add_zero, Nat.reduceAdd] at hc)
      | (refine op_buildSlice_all _ _ _ rfl (by first | exact elem22 | exact elem25 | exact elem26 | exact elem29) (by kernel_rfl) (by kernel_rfl) (by kernel_rfl) H (fun b w' H1 => hK _ _ ?_); clear hK K; replace H := H1; clear H1; (try clear hc); (try simp only [nrm, splice, Value.cells, Nat.reduceAdd, Act.eval, Act.put] at H); have hc := H.cells; simp only [CellsOf, KnCells, arr_lit, knAt_cons, knAt_nil, Nat.zero_add, Nat.add_zero, Nat.reduceAdd] at hc)))
    refine Calls.mono (gread_none (some m) _ _ _ _ _ (H.obj (by repeat (first | exact Split.here _ _ | apply Split.there)))) ?_
    rintro e w' ⟨rfl, H'⟩
    replace H := H.of_ext H'
    clear H'
    simp only [gents, gobj, List.length_nil, Int.natCast_zero, List.cons_append, List.nil_append] at H
    (try clear hc)
    have hc := H.cells; simp only [CellsOf, KnCells, arr_lit, knAt_cons, knAt_nil, Nat.zero_add, Nat.add_zero, Nat.reduceAdd] at hc
    go_wp2_with (first
    | (refine loud_ rfl ?_; refine wpList_plain rfl (fun K hK => ?_); first
      | (refine op_box _ _ rfl H (fun b w' H1 => hK _ _ ?_); clear hK K; replace H := H1; clear H1; (try clear hc); (try simp only [nrm, splice, Value.cells, Nat.reduceAdd, Act.eval, Act.put] at H); have hc := H.cells; simp only [CellsOf, KnCells, arr_lit, knAt_cons, knAt_nil, Nat.zero_add, Nat.add_zero, Nat.reduceAdd] at hc)
      | (refine op_alloc _ rfl (zero_of _ _ rfl) H (fun b w' H1 => hK _ _ ?_); clear hK K; replace H := H1; clear H1; (try clear hc); (try simp only [nrm, splice, Value.cells, Nat.reduceAdd, Act.eval, Act.put] at H); have hc := H.cells; simp only [CellsOf, KnCells, arr_lit, knAt_cons, knAt_nil, Nat.zero_add, Nat.add_zero, Nat.reduceAdd] at hc)
      | (refine op_store _ _ _ rfl rfl rfl H (by repeat (first | exact Split.here _ _ | apply Split.there)) (by kernel_rfl) (by kernel_rfl) (by kernel_rfl) (fun w' H1 => hK _ _ ?_); clear hK K; replace H := H1; clear H1; (try clear hc); (try simp only [nrm, splice, Value.cells, Nat.reduceAdd, Act.eval, Act.put] at H); have hc := H.cells; simp only [CellsOf, KnCells, arr_lit, knAt_cons, knAt_nil, Nat.zero_add, Nat.add_zero, Nat.reduceAdd] at hc)
      | (refine op_buildSlice_all _ _ _ rfl (by first | exact elem22 | exact elem25 | exact elem26 | exact elem29) (by kernel_rfl) (by kernel_rfl) (by kernel_rfl) H (fun b w' H1 => hK _ _ ?_); clear hK K; replace H := H1; clear H1; (try clear hc); (try simp only [nrm, splice, Value.cells, Nat.reduceAdd, Act.eval, Act.put] at H); have hc := H.cells; simp only [CellsOf, KnCells, arr_lit, knAt_cons, knAt_nil, Nat.zero_add, Nat.add_zero, Nat.reduceAdd] at hc)))
    (try simp only [Act.put, slt])
    refine wp_region_plan (.p [0, 1, 2, 3] (.q [4] (.p [5, 6, 7, 8, 9, 10] (.q [11] (.p [12, 13, 14] (.q [15] (.p [16, 17] .done))))))) [] (by kernel_rfl) (by kernel_rfl) (fun _ _ d _ _ h => by cases d <;> exact h) H ?_
    clear H
    (try clear hc)
    intro X nX fX wd hcf hS H
    simp only [CellsOf, KnCells, arr_lit, knAt_cons, knAt_nil, Nat.zero_add, Nat.add_zero, Nat.reduceAdd] at hcf
    have hc := H.cells
    simp only [CellsOf, KnCells, arr_lit, knAt_cons, knAt_nil, Nat.zero_add, Nat.add_zero, Nat.reduceAdd] at hc
    iterate 4 (refine plan_p (o := ⟨_, _, _, _, _, _⟩) rfl (fun N hN => ?_); go_big_quiet_step (fail); refine wpQuiet_nil (hN _ ?_); clear hN N)
    refine plan_p0 ?_
    iterate 1 (refine plan_q (o := ⟨_, _, _, _, _, _⟩) rfl (fun N hN => ?_); go_big_quiet_step (fail); refine wpQuiet_nil (hN _ ?_); clear hN N)
    refine plan_q0 ?_
    iterate 2 (refine plan_p (o := ⟨_, _, _, _, _, _⟩) rfl (fun N hN => ?_); go_big_quiet_step (fail); refine wpQuiet_nil (hN _ ?_); clear hN N)
    iterate 1 (refine plan_p (o := ⟨_, _, _, _, _, _⟩) rfl (fun N hN => ?_); go_big_quiet_step (fail); refine wpQuiet_nil (hN _ ?_); clear hN N)
    iterate 1 (refine plan_p (o := ⟨_, _, _, _, _, _⟩) rfl (fun N hN => ?_); go_big_quiet_step (fail); refine wpQuiet_nil (hN _ ?_); clear hN N)
    iterate 1 (refine plan_p (o := ⟨_, _, _, _, _, _⟩) rfl (fun N hN => ?_); go_big_quiet_step (fail); refine wpQuiet_nil (hN _ ?_); clear hN N)
    iterate 1 (refine plan_p (o := ⟨_, _, _, _, _, _⟩) rfl (fun N hN => ?_); go_big_quiet_step (fail); refine wpQuiet_nil (hN _ ?_); clear hN N)
    refine plan_p0 ?_
    iterate 1 (refine plan_q (o := ⟨_, _, _, _, _, _⟩) rfl (fun N hN => ?_); go_big_quiet_step (fail); refine wpQuiet_nil (hN _ ?_); clear hN N)
    refine plan_q0 ?_
    iterate 1 (refine plan_p (o := ⟨_, _, _, _, _, _⟩) rfl (fun N hN => ?_); go_big_quiet_step (fail); refine wpQuiet_nil (hN _ ?_); clear hN N)
    iterate 1 (refine plan_p (o := ⟨_, _, _, _, _, _⟩) rfl (fun N hN => ?_); go_big_quiet_step (fail); refine wpQuiet_nil (hN _ ?_); clear hN N)
    iterate 1 (refine plan_p (o := ⟨_, _, _, _, _, _⟩) rfl (fun N hN => ?_); go_big_quiet_step (fail); refine wpQuiet_nil (hN _ ?_); clear hN N)
    refine plan_p0 ?_
    iterate 1 (refine plan_q (o := ⟨_, _, _, _, _, _⟩) rfl (fun N hN => ?_); go_big_quiet_step (fail); refine wpQuiet_nil (hN _ ?_); clear hN N)
    refine plan_q0 ?_
    iterate 1 (refine plan_p (o := ⟨_, _, _, _, _, _⟩) rfl (fun N hN => ?_); go_big_quiet_step (fail); refine wpQuiet_nil (hN _ ?_); clear hN N)
    iterate 1 (refine plan_p (o := ⟨_, _, _, _, _, _⟩) rfl (fun N hN => ?_); go_big_quiet_step (fail); refine wpQuiet_nil (hN _ ?_); clear hN N)
    refine plan_p0 ?_
    refine plan_done ?_
    go_wp2_with (first
    | (refine loud_ rfl ?_; refine wpList_plain rfl (fun K hK => ?_); first
      | (refine op_make_lit _ _ _ rfl elem26 (n := m) rfl rfl H (by omega) (by unfold maxLen; omega) (fun ko w' H1 => hK _ _ ?_); clear hK K; replace H := H1; clear H1; (try clear hc); (try simp only [nrm, splice, Value.cells, Nat.reduceAdd, Act.eval, Act.put] at H); have hc := H.cells; simp only [CellsOf, KnCells, arr_lit, knAt_cons, knAt_nil, Nat.zero_add, Nat.add_zero, Nat.reduceAdd] at hc)
      | (refine op_box _ _ rfl H (fun b w' H1 => hK _ _ ?_); clear hK K; replace H := H1; clear H1; (try clear hc); (try simp only [nrm, splice, Value.cells, Nat.reduceAdd, Act.eval, Act.put] at H); have hc := H.cells; simp only [CellsOf, KnCells, arr_lit, knAt_cons, knAt_nil, Nat.zero_add, Nat.add_zero, Nat.reduceAdd] at hc)
      | (refine op_alloc _ rfl (zero_of _ _ rfl) H (fun b w' H1 => hK _ _ ?_); clear hK K; replace H := H1; clear H1; (try clear hc); (try simp only [nrm, splice, Value.cells, Nat.reduceAdd, Act.eval, Act.put] at H); have hc := H.cells; simp only [CellsOf, KnCells, arr_lit, knAt_cons, knAt_nil, Nat.zero_add, Nat.add_zero, Nat.reduceAdd] at hc)
      | (refine op_store _ _ _ rfl rfl rfl H (by repeat (first | exact Split.here _ _ | apply Split.there)) (by kernel_rfl) (by kernel_rfl) (by kernel_rfl) (fun w' H1 => hK _ _ ?_); clear hK K; replace H := H1; clear H1; (try clear hc); (try simp only [nrm, splice, Value.cells, Nat.reduceAdd, Act.eval, Act.put] at H); have hc := H.cells; simp only [CellsOf, KnCells, arr_lit, knAt_cons, knAt_nil, Nat.zero_add, Nat.add_zero, Nat.reduceAdd] at hc)
      | (refine op_buildSlice_all _ _ _ rfl (by first | exact elem22 | exact elem25 | exact elem26 | exact elem29) (by kernel_rfl) (by kernel_rfl) (by kernel_rfl) H (fun b w' H1 => hK _ _ ?_); clear hK K; replace H := H1; clear H1; (try clear hc); (try simp only [nrm, splice, Value.cells, Nat.reduceAdd, Act.eval, Act.put] at H); have hc := H.cells; simp only [CellsOf, KnCells, arr_lit, knAt_cons, knAt_nil, Nat.zero_add, Nat.add_zero, Nat.reduceAdd] at hc)))
    go_ret2
    rw [zeros_ints] at H
    exact ⟨ko, 0, _, ginv_new m, rfl, H.sel (by repeat (first | exact Sel.nil _ | (apply Sel.cons; focus (repeat (first | exact Split.here _ _ | apply Split.there)))))⟩
  · have hle : less m n [] = n := by unfold less; rw [if_neg (fun h => h2 h.2)]
    rw [hle]
    clear hle
    go_enter Try.func49, Try.ntmps49
    go_wp2_with (first
    | (refine loud_ rfl ?_; refine wpList_plain rfl (fun K hK => ?_); first
      | (refine op_box _ _ rfl H (fun b w' H1 => hK _ _ ?_); clear hK K; replace H := H1; clear H1; (try clear hc); (try simp only [nrm, splice, Value.cells, Nat.reduceAdd, Act.eval, Act.put] at H); have hc := H.cells; simp only [CellsOf, KnCells, arr_lit, knAt_cons, knAt_nil, Nat.zero_add, Nat.add_zero, Nat.reduceAdd] at hc)
      | (refine op_alloc _ rfl (zero_of _ _ rfl) H (fun b w' H1 => hK _ _ ?_); clear hK K; replace H := H1; clear H1; (try clear hc); (try simp only [nrm, splice, Value.cells, Nat.reduceAdd, Act.eval, Act.put] at H); have hc := H.cells; simp only [CellsOf, KnCells, arr_lit, knAt_cons, knAt_nil, Nat.zero_add, Nat.add_zero, Nat.reduceAdd] at hc)
      | (refine op_store _ _ _ rfl rfl rfl H (by repeat (first | exact Split.here _ _ | apply Split.there)) (by kernel_rfl) (by kernel_rfl) (by kernel_rfl) (fun w' H1 => hK _ _ ?_); clear hK K; replace H := H1; clear H1; (try clear hc); (try simp only [nrm, splice, Value.cells, Nat.reduceAdd, Act.eval, Act.put] at H); have hc := H.cells; simp only [CellsOf, KnCells, arr_lit, knAt_cons, knAt_nil, Nat.zero_add, Nat.add_zero, Nat.reduceAdd] at hc)
      | (refine op_buildSlice_all _ _ _ rfl (by first | exact elem22 | exact elem25 | exact elem26 | exact elem29) (by kernel_rfl) (by kernel_rfl) (by kernel_rfl) H (fun b w' H1 => hK _ _ ?_); clear hK K; replace H := H1; clear H1; (try clear hc); (try simp only [nrm, splice, Value.cells, Nat.reduceAdd, Act.eval, Act.put] at H); have hc := H.cells; simp only [CellsOf, KnCells, arr_lit, knAt_cons, knAt_nil, Nat.zero_add, Nat.add_zero, Nat.reduceAdd] at hc)))
    refine Calls.mono (gread_none (some m) _ _ _ _ _ (H.obj (by repeat (first | exact Split.here _ _ | apply Split.there)))) ?_
    rintro e w' ⟨rfl, H'⟩
    replace H := H.of_ext H'
    clear H'
    simp only [gents, gobj, List.length_nil, Int.natCast_zero, List.cons_append, List.nil_append] at H
    (try clear hc)
    have hc := H.cells; simp only [CellsOf, KnCells, arr_lit, knAt_cons, knAt_nil, Nat.zero_add, Nat.add_zero, Nat.reduceAdd] at hc
    go_wp2_with (first
    | (refine loud_ rfl ?_; refine wpList_plain rfl (fun K hK => ?_); first
      | (refine op_box _ _ rfl H (fun b w' H1 => hK _ _ ?_); clear hK K; replace H := H1; clear H1; (try clear hc); (try simp only [nrm, splice, Value.cells, Nat.reduceAdd, Act.eval, Act.put] at H); have hc := H.cells; simp only [CellsOf, KnCells, arr_lit, knAt_cons, knAt_nil, Nat.zero_add, Nat.add_zero, Nat.reduceAdd] at hc)
      | (refine op_alloc _ rfl (zero_of _ _ rfl) H (fun b w' H1 => hK _ _ ?_); clear hK K; replace H := H1; clear H1; (try clear hc); (try simp only [nrm, splice, Value.cells, Nat.reduceAdd, Act.eval, Act.put] at H); have hc := H.cells; simp only [CellsOf, KnCells, arr_lit, knAt_cons, knAt_nil, Nat.zero_add, Nat.add_zero, Nat.reduceAdd] at hc)
      | (refine op_store _ _ _ rfl rfl rfl H (by repeat (first | exact Split.here _ _ | apply Split.there)) (by kernel_rfl) (by kernel_rfl) (by kernel_rfl) (fun w' H1 => hK _ _ ?_); clear hK K; replace H := H1; clear H1; (try clear hc); (try simp only [nrm, splice, Value.cells, Nat.reduceAdd, Act.eval, Act.put] at H); have hc := H.cells; simp only [CellsOf, KnCells, arr_lit, knAt_cons, knAt_nil, Nat.zero_add, Nat.add_zero, Nat.reduceAdd] at hc)
      | (refine op_buildSlice_all _ _ _ rfl (by first | exact elem22 | exact elem25 | exact elem26 | exact elem29) (by kernel_rfl) (by kernel_rfl) (by kernel_rfl) H (fun b w' H1 => hK _ _ ?_); clear hK K; replace H := H1; clear H1; (try clear hc); (try simp only [nrm, splice, Value.cells, Nat.reduceAdd, Act.eval, Act.put] at H); have hc := H.cells; simp only [CellsOf, KnCells, arr_lit, knAt_cons, knAt_nil, Nat.zero_add, Nat.add_zero, Nat.reduceAdd] at hc)))
    (try simp only [Act.put, slt])
    refine wp_region_plan (.p [0, 1, 2, 3] (.q [4] (.p [5, 6, 7, 8, 9, 10] (.q [11] (.p [12, 13, 14] (.q [15] (.p [16, 17] .done))))))) [] (by kernel_rfl) (by kernel_rfl) (fun _ _ d _ _ h => by cases d <;> exact h) H ?_
    clear H
    (try clear hc)
    intro X nX fX wd hcf hS H
    simp only [CellsOf, KnCells, arr_lit, knAt_cons, knAt_nil, Nat.zero_add, Nat.add_zero, Nat.reduceAdd] at hcf
    have hc := H.cells
    simp only [CellsOf, KnCells, arr_lit, knAt_cons, knAt_nil, Nat.zero_add, Nat.add_zero, Nat.reduceAdd] at hc
    iterate 4 (refine plan_p (o := ⟨_, _, _, _, _, _⟩) rfl (fun N hN => ?_); go_big_quiet_step (fail); refine wpQuiet_nil (hN _ ?_); clear hN N)
    refine plan_p0 ?_
    iterate 1 (refine plan_q (o := ⟨_, _, _, _, _, _⟩) rfl (fun N hN => ?_); go_big_quiet_step (fail); refine wpQuiet_nil (hN _ ?_); clear hN N)
    refine plan_q0 ?_
    iterate 2 (refine plan_p (o := ⟨_, _, _, _, _, _⟩) rfl (fun N hN => ?_); go_big_quiet_step (fail); refine wpQuiet_nil (hN _ ?_); clear hN N)
    iterate 1 (refine plan_p (o := ⟨_, _, _, _, _, _⟩) rfl (fun N hN => ?_); go_big_quiet_step (fail); refine wpQuiet_nil (hN _ ?_); clear hN N)
    iterate 1 (refine plan_p (o := ⟨_, _, _, _, _, _⟩) rfl (fun N hN => ?_); go_big_quiet_step (fail); refine wpQuiet_nil (hN _ ?_); clear hN N)
    iterate 1 (refine plan_p (o := ⟨_, _, _, _, _, _⟩) rfl (fun N hN => ?_); go_big_quiet_step (fail); refine wpQuiet_nil (hN _ ?_); clear hN N)
    iterate 1 (refine plan_p (o := ⟨_, _, _, _, _, _⟩) rfl (fun N hN => ?_); go_big_quiet_step (fail); refine wpQuiet_nil (hN _ ?_); clear hN N)
    refine plan_p0 ?_
    iterate 1 (refine plan_q (o := ⟨_, _, _, _, _, _⟩) rfl (fun N hN => ?_); go_big_quiet_step (fail); refine wpQuiet_nil (hN _ ?_); clear hN N)
    refine plan_q0 ?_
    iterate 1 (refine plan_p (o := ⟨_, _, _, _, _, _⟩) rfl (fun N hN => ?_); go_big_quiet_step (fail); refine wpQuiet_nil (hN _ ?_); clear hN N)
    iterate 1 (refine plan_p (o := ⟨_, _, _, _, _, _⟩) rfl (fun N hN => ?_); go_big_quiet_step (fail); refine wpQuiet_nil (hN _ ?_); clear hN N)
    iterate 1 (refine plan_p (o := ⟨_, _, _, _, _, _⟩) rfl (fun N hN => ?_); go_big_quiet_step (fail); refine wpQuiet_nil (hN _ ?_); clear hN N)
    refine plan_p0 ?_
    iterate 1 (refine plan_q (o := ⟨_, _, _, _, _, _⟩) rfl (fun N hN => ?_); go_big_quiet_step (fail); refine wpQuiet_nil (hN _ ?_); clear hN N)
    refine plan_q0 ?_
    iterate 1 (refine plan_p (o := ⟨_, _, _, _, _, _⟩) rfl (fun N hN => ?_); go_big_quiet_step (fail); refine wpQuiet_nil (hN _ ?_); clear hN N)
    iterate 1 (refine plan_p (o := ⟨_, _, _, _, _, _⟩) rfl (fun N hN => ?_); go_big_quiet_step (fail); refine wpQuiet_nil (hN _ ?_); clear hN N)
    refine plan_p0 ?_
    refine plan_done ?_
    go_wp2_with (first
    | (refine loud_ rfl ?_; refine wpList_plain rfl (fun K hK => ?_); first
      | (refine op_make_lit _ _ _ rfl elem26 (n := m) rfl rfl H (by omega) (by unfold maxLen; omega) (fun ko w' H1 => hK _ _ ?_); clear hK K; replace H := H1; clear H1; (try clear hc); (try simp only [nrm, splice, Value.cells, Nat.reduceAdd, Act.eval, Act.put] at H); have hc := H.cells; simp only [CellsOf, KnCells, arr_lit, knAt_cons, knAt_nil, Nat.zero_add, Nat.add_zero, Nat.reduceAdd] at hc)
      | (refine op_box _ _ rfl H (fun b w' H1 => hK _ _ ?_); clear hK K; replace H := H1; clear H1; (try clear hc); (try simp only [nrm, splice, Value.cells, Nat.reduceAdd, Act.eval, Act.put] at H); have hc := H.cells; simp only [CellsOf, KnCells, arr_lit, knAt_cons, knAt_nil, Nat.zero_add, Nat.add_zero, Nat.reduceAdd] at hc)
      | (refine op_alloc _ rfl (zero_of _ _ rfl) H (fun b w' H1 => hK _ _ ?_); clear hK K; replace H := H1; clear H1; (try clear hc); (try simp only [nrm, splice, Value.cells, Nat.reduceAdd, Act.eval, Act.put] at H); have hc := H.cells; simp only [CellsOf, KnCells, arr_lit, knAt_cons, knAt_nil, Nat.zero_add, Nat.add_zero, Nat.reduceAdd] at hc)
      | (refine op_store _ _ _ rfl rfl rfl H (by repeat (first | exact Split.here _ _ | apply Split.there)) (by kernel_rfl) (by kernel_rfl) (by kernel_rfl) (fun w' H1 => hK _ _ ?_); clear hK K; replace H := H1; clear H1; (try clear hc); (try simp only [nrm, splice, Value.cells, Nat.reduceAdd, Act.eval, Act.put] at H); have hc := H.cells; simp only [CellsOf, KnCells, arr_lit, knAt_cons, knAt_nil, Nat.zero_add, Nat.add_zero, Nat.reduceAdd] at hc)
      | (refine op_buildSlice_all _ _ _ rfl (by first | exact elem22 | exact elem25 | exact elem26 | exact elem29) (by kernel_rfl) (by kernel_rfl) (by kernel_rfl) H (fun b w' H1 => hK _ _ ?_); clear hK K; replace H := H1; clear H1; (try clear hc); (try simp only [nrm, splice, Value.cells, Nat.reduceAdd, Act.eval, Act.put] at H); have hc := H.cells; simp only [CellsOf, KnCells, arr_lit, knAt_cons, knAt_nil, Nat.zero_add, Nat.add_zero, Nat.reduceAdd] at hc)))
    go_ret2
    exact ⟨kb, beg, _, h, rfl, H.sel (by repeat (first | exact Sel.nil _ | (apply Sel.cons; focus (repeat (first | exact Split.here _ _ | apply Split.there)))))⟩
end Go.Proofs.Ytlikpgidjdjgnaa
