import Derived.Test.YtlikpgidjdjgnaaRingA
-- MORE
namespace Go.Proofs.Ytlikpgidjdjgnaa
set_option linter.unusedVariables false
set_option linter.unusedSimpArgs false
set_option linter.unnecessarySimpa false
open Go.RowKit Go.V

/-- A growing ring, in memory; o: the normal size of one that shrinks. -/
def gobj (o : Option Int) (kb n beg rd : Nat) : Obj := match o with
  | none => .cells #[.slice (some ⟨kb, 0, none⟩) n n, .int .i64 n, .int .i64 beg, .int .i64 rd] 72 (0, 0)
  | some m => .cells #[.slice (some ⟨kb, 0, none⟩) n n, .int .i64 n, .int .i64 beg, .int .i64 rd, .int .i64 m] 74 (0, 0)

theorem glen_calls (o : Option Int) (br kb n beg rd : Nat) (w : World) (h : w.heap[br]? = some (gobj o kb n beg rd)) :
    Calls Try.prog 44 #[.pointer (some ⟨br, 0, none⟩)] w fun e w' => e = .returned (.int .i64 rd) ∧ Ext [] w w' := by
  have H := (St.init [] w).read (.is br _) h (by simp)
  clear h
  cases o
  all_goals
    simp only [gobj] at H
    have hc := H.cells; simp only [CellsOf, KnCells, arr_lit, knAt_cons, knAt_nil, Nat.zero_add, Nat.add_zero, Nat.reduceAdd] at hc
    go_enter Try.func44, Try.ntmps44
    go_wp2_with (first
    | (refine loud_ rfl ?_; refine wpList_plain rfl (fun K hK => ?_); first
      | (refine op_box _ _ rfl H (fun b w' H1 => hK _ _ ?_); clear hK K; replace H := H1; clear H1; (try clear hc); (try simp only [nrm, splice, Value.cells, Nat.reduceAdd, Act.eval, Act.put] at H); have hc := H.cells; simp only [CellsOf, KnCells, arr_lit, knAt_cons, knAt_nil, Nat.zero_add, Nat.add_zero, Nat.reduceAdd] at hc)
      | (refine op_alloc _ rfl (zero_of _ _ rfl) H (fun b w' H1 => hK _ _ ?_); clear hK K; replace H := H1; clear H1; (try clear hc); (try simp only [nrm, splice, Value.cells, Nat.reduceAdd, Act.eval, Act.put] at H); have hc := H.cells; simp only [CellsOf, KnCells, arr_lit, knAt_cons, knAt_nil, Nat.zero_add, Nat.add_zero, Nat.reduceAdd] at hc)
      | (refine op_store _ _ _ rfl rfl rfl H (by repeat (first | exact Split.here _ _ | apply Split.there)) (by kernel_rfl) (by kernel_rfl) (by kernel_rfl) (fun w' H1 => hK _ _ ?_); clear hK K; replace H := H1; clear H1; (try clear hc); (try simp only [nrm, splice, Value.cells, Nat.reduceAdd, Act.eval, Act.put] at H); have hc := H.cells; simp only [CellsOf, KnCells, arr_lit, knAt_cons, knAt_nil, Nat.zero_add, Nat.add_zero, Nat.reduceAdd] at hc)
      | (refine op_buildSlice_all _ _ _ rfl (by first | exact elem22 | exact elem25 | exact elem26 | exact elem29) (by kernel_rfl) (by kernel_rfl) (by kernel_rfl) H (fun b w' H1 => hK _ _ ?_); clear hK K; replace H := H1; clear H1; (try clear hc); (try simp only [nrm, splice, Value.cells, Nat.reduceAdd, Act.eval, Act.put] at H); have hc := H.cells; simp only [CellsOf, KnCells, arr_lit, knAt_cons, knAt_nil, Nat.zero_add, Nat.add_zero, Nat.reduceAdd] at hc)))
    go_ret
    exact ⟨rfl, H.ext⟩
theorem gcap_calls (o : Option Int) (br kb n beg rd : Nat) (w : World) (h : w.heap[br]? = some (gobj o kb n beg rd)) :
    Calls Try.prog 43 #[.pointer (some ⟨br, 0, none⟩)] w fun e w' => e = .returned (.int .i64 n) ∧ Ext [] w w' := by
  have H := (St.init [] w).read (.is br _) h (by simp)
  clear h
  cases o
  all_goals
    simp only [gobj] at H
    have hc := H.cells; simp only [CellsOf, KnCells, arr_lit, knAt_cons, knAt_nil, Nat.zero_add, Nat.add_zero, Nat.reduceAdd] at hc
    go_enter Try.func43, Try.ntmps43
    go_wp2_with (first
    | (refine loud_ rfl ?_; refine wpList_plain rfl (fun K hK => ?_); first
      | (refine op_box _ _ rfl H (fun b w' H1 => hK _ _ ?_); clear hK K; replace H := H1; clear H1; (try clear hc); (try simp only [nrm, splice, Value.cells, Nat.reduceAdd, Act.eval, Act.put] at H); have hc := H.cells; simp only [CellsOf, KnCells, arr_lit, knAt_cons, knAt_nil, Nat.zero_add, Nat.add_zero, Nat.reduceAdd] at hc)
      | (refine op_alloc _ rfl (zero_of _ _ rfl) H (fun b w' H1 => hK _ _ ?_); clear hK K; replace H := H1; clear H1; (try clear hc); (try simp only [nrm, splice, Value.cells, Nat.reduceAdd, Act.eval, Act.put] at H); have hc := H.cells; simp only [CellsOf, KnCells, arr_lit, knAt_cons, knAt_nil, Nat.zero_add, Nat.add_zero, Nat.reduceAdd] at hc)
      | (refine op_store _ _ _ rfl rfl rfl H (by repeat (first | exact Split.here _ _ | apply Split.there)) (by kernel_rfl) (by kernel_rfl) (by kernel_rfl) (fun w' H1 => hK _ _ ?_); clear hK K; replace H := H1; clear H1; (try clear hc); (try simp only [nrm, splice, Value.cells, Nat.reduceAdd, Act.eval, Act.put] at H); have hc := H.cells; simp only [CellsOf, KnCells, arr_lit, knAt_cons, knAt_nil, Nat.zero_add, Nat.add_zero, Nat.reduceAdd] at hc)
      | (refine op_buildSlice_all _ _ _ rfl (by first | exact elem22 | exact elem25 | exact elem26 | exact elem29) (by kernel_rfl) (by kernel_rfl) (by kernel_rfl) H (fun b w' H1 => hK _ _ ?_); clear hK K; replace H := H1; clear H1; (try clear hc); (try simp only [nrm, splice, Value.cells, Nat.reduceAdd, Act.eval, Act.put] at H); have hc := H.cells; simp only [CellsOf, KnCells, arr_lit, knAt_cons, knAt_nil, Nat.zero_add, Nat.add_zero, Nat.reduceAdd] at hc)))
    go_ret
    exact ⟨rfl, H.ext⟩

theorem one_int (v : Int) : ∀ u ∈ (Value.int .i64 v).cells.toList, u.oneCell' = true := (One.cons rfl One.nil : One [Value.int .i64 v])
theorem ints_set {l : List Int} {p : Nat} {v : Int} (h : p < l.length) : (ints l).take p ++ Value.int .i64 v :: (ints l).drop (p + 1) = ints (l.set p v) := by
  rw [List.set_eq_take_append_cons_drop, if_pos h, ints_app, ints_take, ints_drop]
  rfl

set_option maxHeartbeats 1000000 in
theorem gwrite_room (o : Option Int) (br kb n beg rd p : Nat) (data : List Int) (v : Int) (S : List Nat) (w : World) (hn : n ≤ 1000000) (hrd : rd < n) (hb : beg < n) (hp : p < n) (hmod : Hid ((rd + beg) % n = p)) (hd : Hid (data.length = n))
    (H : St S w w [(true, .is br (gobj o kb n beg rd)), (true, .row (some kb) 3 1 n n (ints data))]) :
    Calls Try.prog 46 #[.pointer (some ⟨br, 0, none⟩), .int .i64 v] w fun e w' => e = .returned (.tuple #[]) ∧
      St S w w' [(true, .is br (gobj o kb n beg (rd + 1))), (true, .row (some kb) 3 1 n n (ints (data.set p v)))] := by
  have hne : ((rd : Int) == (n : Int)) = false := by simp; omega
  have hne' : ¬ rd = n := by omega
  have hne2 : ¬ (rd : Int) = n := by omega
  have hmod' : ((rd : Int) + beg) % n = p := by have := hmod.out; rw [← this]; norm_cast
  cases o
  all_goals
    simp only [gobj] at H ⊢
    have hc := H.cells; simp only [CellsOf, KnCells, arr_lit, knAt_cons, knAt_nil, Nat.zero_add, Nat.add_zero, Nat.reduceAdd] at hc
    go_enter Try.func46, Try.ntmps46
    go_wp2_with (first
    | (refine loud_ rfl ?_; refine wpList_plain rfl (fun K hK => ?_); first
      | (refine op_box _ _ rfl H (fun b w' H1 => hK _ _ ?_); clear hK K; replace H := H1; clear H1; (try clear hc); (try simp only [nrm, splice, Value.cells, Nat.reduceAdd, Act.eval, Act.put] at H); have hc := H.cells; simp only [CellsOf, KnCells, arr_lit, knAt_cons, knAt_nil, Nat.zero_add, Nat.add_zero, Nat.reduceAdd] at hc)
      | (refine op_alloc _ rfl (zero_of _ _ rfl) H (fun b w' H1 => hK _ _ ?_); clear hK K; replace H := H1; clear H1; (try clear hc); (try simp only [nrm, splice, Value.cells, Nat.reduceAdd, Act.eval, Act.put] at H); have hc := H.cells; simp only [CellsOf, KnCells, arr_lit, knAt_cons, knAt_nil, Nat.zero_add, Nat.add_zero, Nat.reduceAdd] at hc)
      | (refine op_store _ _ _ rfl rfl rfl H (by repeat (first | exact Split.here _ _ | apply Split.there)) (by kernel_rfl) (by kernel_rfl) (by kernel_rfl) (fun w' H1 => hK _ _ ?_); clear hK K; replace H := H1; clear H1; (try clear hc); (try simp only [nrm, splice, Value.cells, Nat.reduceAdd, Act.eval, Act.put] at H); have hc := H.cells; simp only [CellsOf, KnCells, arr_lit, knAt_cons, knAt_nil, Nat.zero_add, Nat.add_zero, Nat.reduceAdd] at hc)
      | (refine op_buildSlice_all _ _ _ rfl (by first | exact elem22 | exact elem25 | exact elem26 | exact elem29) (by kernel_rfl) (by kernel_rfl) (by kernel_rfl) H (fun b w' H1 => hK _ _ ?_); clear hK K; replace H := H1; clear H1; (try clear hc); (try simp only [nrm, splice, Value.cells, Nat.reduceAdd, Act.eval, Act.put] at H); have hc := H.cells; simp only [CellsOf, KnCells, arr_lit, knAt_cons, knAt_nil, Nat.zero_add, Nat.add_zero, Nat.reduceAdd] at hc)))
    (try simp only [Act.put, slt])
    refine wp_region_plan (.p [0, 1, 2] (.q [3] (.p [4, 5, 6] (.q [7] (.p [8] .done))))) [] (by kernel_rfl) (by kernel_rfl) (fun _ _ d _ _ h => by cases d <;> exact h) H ?_
    clear H
    (try clear hc)
    intro X nX fX wd hcf hS H
    simp only [CellsOf, KnCells, arr_lit, knAt_cons, knAt_nil, Nat.zero_add, Nat.add_zero, Nat.reduceAdd] at hcf
    have hc := H.cells
    simp only [CellsOf, KnCells, arr_lit, knAt_cons, knAt_nil, Nat.zero_add, Nat.add_zero, Nat.reduceAdd] at hc
    iterate 3 (refine plan_p (o := ⟨_, _, _, _, _, _⟩) rfl (fun N hN => ?_); go_big_quiet_step (fail); refine wpQuiet_nil (hN _ ?_); clear hN N)
    refine plan_p0 ?_
    iterate 1 (refine plan_q (o := ⟨_, _, _, _, _, _⟩) rfl (fun N hN => ?_); go_big_quiet_step (fail); refine wpQuiet_nil (hN _ ?_); clear hN N)
    refine plan_q0 ?_
    iterate 3 (refine plan_p (o := ⟨_, _, _, _, _, _⟩) rfl (fun N hN => ?_); go_big_quiet_step (fail); refine wpQuiet_nil (hN _ ?_); clear hN N)
    refine plan_p0 ?_
    iterate 1 (refine plan_q (o := ⟨_, _, _, _, _, _⟩) rfl (fun N hN => ?_); go_big_quiet_step (fail); refine wpQuiet_nil (hN _ ?_); clear hN N)
    refine plan_q0 ?_
    iterate 1 (refine plan_p (o := ⟨_, _, _, _, _, _⟩) rfl (fun N hN => ?_); go_big_quiet_step (fail); refine wpQuiet_nil (hN _ ?_); clear hN N)
    refine plan_p0 ?_
    refine plan_done ?_
    go_wp2_with (first
    | (refine loud_ rfl ?_; refine wpList_plain rfl (fun K hK => ?_); first
      | (refine op_box _ _ rfl H (fun b w' H1 => hK _ _ ?_); clear hK K; replace H := H1; clear H1; (try clear hc); (try simp only [nrm, splice, Value.cells, Nat.reduceAdd, Act.eval, Act.put] at H); have hc := H.cells; simp only [CellsOf, KnCells, arr_lit, knAt_cons, knAt_nil, Nat.zero_add, Nat.add_zero, Nat.reduceAdd] at hc)
      | (refine op_alloc _ rfl (zero_of _ _ rfl) H (fun b w' H1 => hK _ _ ?_); clear hK K; replace H := H1; clear H1; (try clear hc); (try simp only [nrm, splice, Value.cells, Nat.reduceAdd, Act.eval, Act.put] at H); have hc := H.cells; simp only [CellsOf, KnCells, arr_lit, knAt_cons, knAt_nil, Nat.zero_add, Nat.add_zero, Nat.reduceAdd] at hc)
      | (refine op_store _ _ _ rfl rfl rfl H (by repeat (first | exact Split.here _ _ | apply Split.there)) (by kernel_rfl) (by kernel_rfl) (by kernel_rfl) (fun w' H1 => hK _ _ ?_); clear hK K; replace H := H1; clear H1; (try clear hc); (try simp only [nrm, splice, Value.cells, Nat.reduceAdd, Act.eval, Act.put] at H); have hc := H.cells; simp only [CellsOf, KnCells, arr_lit, knAt_cons, knAt_nil, Nat.zero_add, Nat.add_zero, Nat.reduceAdd] at hc)
      | (refine op_buildSlice_all _ _ _ rfl (by first | exact elem22 | exact elem25 | exact elem26 | exact elem29) (by kernel_rfl) (by kernel_rfl) (by kernel_rfl) H (fun b w' H1 => hK _ _ ?_); clear hK K; replace H := H1; clear H1; (try clear hc); (try simp only [nrm, splice, Value.cells, Nat.reduceAdd, Act.eval, Act.put] at H); have hc := H.cells; simp only [CellsOf, KnCells, arr_lit, knAt_cons, knAt_nil, Nat.zero_add, Nat.add_zero, Nat.reduceAdd] at hc)))
    (try simp only [Act.put, slt])
    refine wp_region_plan (.p [0, 1, 2] (.q [3] (.p [4, 5, 6] (.q [7] (.p [8, 9, 10] (.q [11] (.p [12, 13, 14, 15] (.q [16] (.p [17, 18, 19] (.e 20 .done)))))))))) [20] (by kernel_rfl) (by kernel_rfl) (fun _ _ d _ _ h => by cases d <;> exact h) H ?_
    clear H
    (try clear hc)
    intro X nX fX wd hcf hS H
    simp only [CellsOf, KnCells, arr_lit, knAt_cons, knAt_nil, Nat.zero_add, Nat.add_zero, Nat.reduceAdd] at hcf
    have hc := H.cells
    simp only [CellsOf, KnCells, arr_lit, knAt_cons, knAt_nil, Nat.zero_add, Nat.add_zero, Nat.reduceAdd] at hc
    iterate 3 (refine plan_p (o := ⟨_, _, _, _, _, _⟩) rfl (fun N hN => ?_); go_big_quiet_step (fail); refine wpQuiet_nil (hN _ ?_); clear hN N)
    refine plan_p0 ?_
    iterate 1 (refine plan_q (o := ⟨_, _, _, _, _, _⟩) rfl (fun N hN => ?_); go_big_quiet_step (fail); refine wpQuiet_nil (hN _ ?_); clear hN N)
    refine plan_q0 ?_
    iterate 3 (refine plan_p (o := ⟨_, _, _, _, _, _⟩) rfl (fun N hN => ?_); go_big_quiet_step (fail); refine wpQuiet_nil (hN _ ?_); clear hN N)
    refine plan_p0 ?_
    iterate 1 (refine plan_q (o := ⟨_, _, _, _, _, _⟩) rfl (fun N hN => ?_); go_big_quiet_step (fail); refine wpQuiet_nil (hN _ ?_); clear hN N)
    refine plan_q0 ?_
    iterate 3 (refine plan_p (o := ⟨_, _, _, _, _, _⟩) rfl (fun N hN => ?_); go_big_quiet_step (fail); refine wpQuiet_nil (hN _ ?_); clear hN N)
    refine plan_p0 ?_
    iterate 1 (refine plan_q (o := ⟨_, _, _, _, _, _⟩) rfl (fun N hN => ?_); go_big_quiet_step (fail); refine wpQuiet_nil (hN _ ?_); clear hN N)
    refine plan_q0 ?_
    iterate 4 (refine plan_p (o := ⟨_, _, _, _, _, _⟩) rfl (fun N hN => ?_); go_big_quiet_step (fail); refine wpQuiet_nil (hN _ ?_); clear hN N)
    refine plan_p0 ?_
    iterate 1 (refine plan_q (o := ⟨_, _, _, _, _, _⟩) rfl (fun N hN => ?_); go_big_quiet_step (fail); refine wpQuiet_nil (hN _ ?_); clear hN N)
    refine plan_q0 ?_
    iterate 3 (refine plan_p (o := ⟨_, _, _, _, _, _⟩) rfl (fun N hN => ?_); go_big_quiet_step (fail); refine wpQuiet_nil (hN _ ?_); clear hN N)
    refine plan_p0 ?_
    refine plan_e (o := ⟨_, _, _, _, _, _⟩) rfl rfl (fun K hK => ?_)
    first
      | (refine op_storeRow _ _ _ rfl (b := kb) (i := p) rfl rfl H (by repeat (first | exact Split.here _ _ | apply Split.there)) (by kernel_rfl) (one_int _) (by show p + 1 ≤ n * 1; omega) (fun w' H1 => ?_); replace H := H1; clear H1; (try clear hc); (try simp only [nrm, splice, Value.cells, Nat.reduceAdd, Act.eval, Act.put] at H); have hc := H.cells; simp only [CellsOf, KnCells, arr_lit, knAt_cons, knAt_nil, Nat.zero_add, Nat.add_zero, Nat.reduceAdd] at hc; refine hK _ _ (fun h => (h (by decide)).elim) ?_; clear hK K; (try simp only [Act.put, slt]))
      | (refine op_box _ _ rfl H (fun b w' H1 => ?_); replace H := H1; clear H1; (try clear hc); (try simp only [nrm, splice, Value.cells, Nat.reduceAdd, Act.eval, Act.put] at H); have hc := H.cells; simp only [CellsOf, KnCells, arr_lit, knAt_cons, knAt_nil, Nat.zero_add, Nat.add_zero, Nat.reduceAdd] at hc; refine hK _ _ (fun h => (h (by decide)).elim) ?_; clear hK K; (try simp only [Act.put, slt]))
      | (refine op_alloc _ rfl (zero_of _ _ rfl) H (fun b w' H1 => ?_); replace H := H1; clear H1; (try clear hc); (try simp only [nrm, splice, Value.cells, Nat.reduceAdd, Act.eval, Act.put] at H); have hc := H.cells; simp only [CellsOf, KnCells, arr_lit, knAt_cons, knAt_nil, Nat.zero_add, Nat.add_zero, Nat.reduceAdd] at hc; refine hK _ _ (fun h => (h (by decide)).elim) ?_; clear hK K; (try simp only [Act.put, slt]))
      | (refine op_store _ _ _ rfl rfl rfl H (by repeat (first | exact Split.here _ _ | apply Split.there)) (by kernel_rfl) (by kernel_rfl) (by kernel_rfl) (fun w' H1 => ?_); replace H := H1; clear H1; (try clear hc); (try simp only [nrm, splice, Value.cells, Nat.reduceAdd, Act.eval, Act.put] at H); have hc := H.cells; simp only [CellsOf, KnCells, arr_lit, knAt_cons, knAt_nil, Nat.zero_add, Nat.add_zero, Nat.reduceAdd] at hc; refine hK _ _ (fun h => (h (by decide)).elim) ?_; clear hK K; (try simp only [Act.put, slt]))
      | (refine op_buildSlice_all _ _ _ rfl (by first | exact elem22 | exact elem25 | exact elem26 | exact elem29) (by kernel_rfl) (by kernel_rfl) (by kernel_rfl) H (fun b w' H1 => ?_); replace H := H1; clear H1; (try clear hc); (try simp only [nrm, splice, Value.cells, Nat.reduceAdd, Act.eval, Act.put] at H); have hc := H.cells; simp only [CellsOf, KnCells, arr_lit, knAt_cons, knAt_nil, Nat.zero_add, Nat.add_zero, Nat.reduceAdd] at hc; refine hK _ _ (fun h => (h (by decide)).elim) ?_; clear hK K; (try simp only [Act.put, slt]))
    refine plan_done ?_
    go_wp2_with (first
    | (refine loud_ rfl ?_; refine wpList_plain rfl (fun K hK => ?_); first
      | (refine op_box _ _ rfl H (fun b w' H1 => hK _ _ ?_); clear hK K; replace H := H1; clear H1; (try clear hc); (try simp only [nrm, splice, Value.cells, Nat.reduceAdd, Act.eval, Act.put] at H); have hc := H.cells; simp only [CellsOf, KnCells, arr_lit, knAt_cons, knAt_nil, Nat.zero_add, Nat.add_zero, Nat.reduceAdd] at hc)
      | (refine op_alloc _ rfl (zero_of _ _ rfl) H (fun b w' H1 => hK _ _ ?_); clear hK K; replace H := H1; clear H1; (try clear hc); (try simp only [nrm, splice, Value.cells, Nat.reduceAdd, Act.eval, Act.put] at H); have hc := H.cells; simp only [CellsOf, KnCells, arr_lit, knAt_cons, knAt_nil, Nat.zero_add, Nat.add_zero, Nat.reduceAdd] at hc)
      | (refine op_store _ _ _ rfl rfl rfl H (by repeat (first | exact Split.here _ _ | apply Split.there)) (by kernel_rfl) (by kernel_rfl) (by kernel_rfl) (fun w' H1 => hK _ _ ?_); clear hK K; replace H := H1; clear H1; (try clear hc); (try simp only [nrm, splice, Value.cells, Nat.reduceAdd, Act.eval, Act.put] at H); have hc := H.cells; simp only [CellsOf, KnCells, arr_lit, knAt_cons, knAt_nil, Nat.zero_add, Nat.add_zero, Nat.reduceAdd] at hc)
      | (refine op_buildSlice_all _ _ _ rfl (by first | exact elem22 | exact elem25 | exact elem26 | exact elem29) (by kernel_rfl) (by kernel_rfl) (by kernel_rfl) H (fun b w' H1 => hK _ _ ?_); clear hK K; replace H := H1; clear H1; (try clear hc); (try simp only [nrm, splice, Value.cells, Nat.reduceAdd, Act.eval, Act.put] at H); have hc := H.cells; simp only [CellsOf, KnCells, arr_lit, knAt_cons, knAt_nil, Nat.zero_add, Nat.add_zero, Nat.reduceAdd] at hc)))
    go_end0
    rw [ints_set (by rw [hd.out]; omega)] at H
    exact ⟨rfl, H⟩

theorem ints_put {q : List Int} {zs : List Value} {m n : Nat} {v : Int} (hq : q.length = n) (hm : n < m) (hz : zs = ints (List.replicate m 0)) :
    ((ints q ++ zs.drop n).take n ++ Value.int .i64 v :: (ints q ++ zs.drop n).drop (n + 1)) = ints ((q ++ List.replicate (m - n) 0).set n v) := by
  subst hz
  rw [ints_drop, List.drop_replicate, ← ints_app, ints_set (by simp; omega)]

theorem app_aux {D T zs : List Value} {r beg n : Nat} (h1 : D.length = r) (h2 : T.length = beg) (hn : n = beg + r) : (D ++ zs.drop D.length).take r ++ (T ++ (D ++ zs.drop D.length).drop (r + T.length)) = D ++ T ++ zs.drop n := by
  subst h1 h2 hn
  have e : (D ++ zs.drop D.length).drop (D.length + T.length) = zs.drop (T.length + D.length) := by
    rw [List.drop_append, List.drop_of_length_le (by omega), List.nil_append, List.drop_drop]
    congr 1
    omega
  rw [e, List.take_left, List.append_assoc]
theorem rows_app {data : List Int} {zs : List Value} {n beg r : Nat} (hd : data.length = n) (hn : n = beg + r) :
    ((ints data).drop beg ++ zs.drop ((ints data).drop beg).length).take r ++ ((ints data).take beg ++ ((ints data).drop beg ++ zs.drop ((ints data).drop beg).length).drop (r + ((ints data).take beg).length)) = ints (data.drop beg ++ data.take beg) ++ zs.drop n := by
  rw [app_aux (by rw [List.length_drop, ints_len]; omega) (by rw [List.length_take, ints_len]; omega) hn, ints_app, ints_take, ints_drop]
/-- A new array for a ring that is full. -/
def grown (n m beg : Nat) (data : List Int) (v : Int) : List Int := ((data.drop beg ++ data.take beg) ++ List.replicate (m - n) 0).set n v

theorem rows_full2 {data : List Int} {n beg r m : Nat} {v : Int} (hd : data.length = n) (hn : n = beg + r) (hm : n < m) :
    (((ints data).drop beg ++ (ints (List.replicate m 0)).drop ((ints data).drop beg).length).take r ++ ((ints data).take beg ++ ((ints data).drop beg ++ (ints (List.replicate m 0)).drop ((ints data).drop beg).length).drop (r + ((ints data).take beg).length))).take n ++
      Value.int .i64 v :: (((ints data).drop beg ++ (ints (List.replicate m 0)).drop ((ints data).drop beg).length).take r ++ ((ints data).take beg ++ ((ints data).drop beg ++ (ints (List.replicate m 0)).drop ((ints data).drop beg).length).drop (r + ((ints data).take beg).length))).drop (n + 1) = ints (grown n m beg data v) := by
  rw [rows_app hd hn]
  exact ints_put (by simp; omega) hm rfl
set_option maxHeartbeats 2000000 in
theorem gwrite_full0 (o : Option Int) (br kb : Nat) (v : Int) (S : List Nat) (w : World)
    (H : St S w w [(true, .is br (gobj o kb 0 0 0)), (true, .row (some kb) 3 1 0 0 (ints []))]) :
    Calls Try.prog 46 #[.pointer (some ⟨br, 0, none⟩), .int .i64 v] w fun e w' => ∃ ko, e = .returned (.tuple #[]) ∧
      St S w w' [(true, .is br (gobj o ko 16 0 1)), (true, .row (some ko) 3 1 16 16 (ints (grown 0 16 0 [] v)))] := by
  have hys : ((ints []).drop 0).length = 0 := rfl
  cases o
  all_goals
    simp only [gobj, Int.natCast_zero] at H ⊢
    have hc := H.cells; simp only [CellsOf, KnCells, arr_lit, knAt_cons, knAt_nil, Nat.zero_add, Nat.add_zero, Nat.reduceAdd] at hc
    go_enter Try.func46, Try.ntmps46
    go_wp2_with (first
    | (refine loud_ rfl ?_; refine wpList_plain rfl (fun K hK => ?_); first
      | (refine op_box _ _ rfl H (fun b w' H1 => hK _ _ ?_); clear hK K; replace H := H1; clear H1; (try clear hc); (try simp only [nrm, splice, Value.cells, Nat.reduceAdd, Act.eval, Act.put] at H); have hc := H.cells; simp only [CellsOf, KnCells, arr_lit, knAt_cons, knAt_nil, Nat.zero_add, Nat.add_zero, Nat.reduceAdd] at hc)
      | (refine op_alloc _ rfl (zero_of _ _ rfl) H (fun b w' H1 => hK _ _ ?_); clear hK K; replace H := H1; clear H1; (try clear hc); (try simp only [nrm, splice, Value.cells, Nat.reduceAdd, Act.eval, Act.put] at H); have hc := H.cells; simp only [CellsOf, KnCells, arr_lit, knAt_cons, knAt_nil, Nat.zero_add, Nat.add_zero, Nat.reduceAdd] at hc)
      | (refine op_store _ _ _ rfl rfl rfl H (by repeat (first | exact Split.here _ _ | apply Split.there)) (by kernel_rfl) (by kernel_rfl) (by kernel_rfl) (fun w' H1 => hK _ _ ?_); clear hK K; replace H := H1; clear H1; (try clear hc); (try simp only [nrm, splice, Value.cells, Nat.reduceAdd, Act.eval, Act.put] at H); have hc := H.cells; simp only [CellsOf, KnCells, arr_lit, knAt_cons, knAt_nil, Nat.zero_add, Nat.add_zero, Nat.reduceAdd] at hc)
      | (refine op_buildSlice_all _ _ _ rfl (by first | exact elem22 | exact elem25 | exact elem26 | exact elem29) (by kernel_rfl) (by kernel_rfl) (by kernel_rfl) H (fun b w' H1 => hK _ _ ?_); clear hK K; replace H := H1; clear H1; (try clear hc); (try simp only [nrm, splice, Value.cells, Nat.reduceAdd, Act.eval, Act.put] at H); have hc := H.cells; simp only [CellsOf, KnCells, arr_lit, knAt_cons, knAt_nil, Nat.zero_add, Nat.add_zero, Nat.reduceAdd] at hc)))
    (try simp only [Act.put, slt])
    refine wp_region_plan (.p [0, 1, 2] (.q [3] (.p [4, 5, 6] (.q [7] (.p [8] .done))))) [] (by kernel_rfl) (by kernel_rfl) (fun _ _ d _ _ h => by cases d <;> exact h) H ?_
    clear H
    (try clear hc)
    intro X nX fX wd hcf hS H
    simp only [CellsOf, KnCells, arr_lit, knAt_cons, knAt_nil, Nat.zero_add, Nat.add_zero, Nat.reduceAdd] at hcf
    have hc := H.cells
    simp only [CellsOf, KnCells, arr_lit, knAt_cons, knAt_nil, Nat.zero_add, Nat.add_zero, Nat.reduceAdd] at hc
    iterate 3 (refine plan_p (o := ⟨_, _, _, _, _, _⟩) rfl (fun N hN => ?_); go_big_quiet_step (fail); refine wpQuiet_nil (hN _ ?_); clear hN N)
    refine plan_p0 ?_
    iterate 1 (refine plan_q (o := ⟨_, _, _, _, _, _⟩) rfl (fun N hN => ?_); go_big_quiet_step (fail); refine wpQuiet_nil (hN _ ?_); clear hN N)
    refine plan_q0 ?_
    iterate 3 (refine plan_p (o := ⟨_, _, _, _, _, _⟩) rfl (fun N hN => ?_); go_big_quiet_step (fail); refine wpQuiet_nil (hN _ ?_); clear hN N)
    refine plan_p0 ?_
    iterate 1 (refine plan_q (o := ⟨_, _, _, _, _, _⟩) rfl (fun N hN => ?_); go_big_quiet_step (fail); refine wpQuiet_nil (hN _ ?_); clear hN N)
    refine plan_q0 ?_
    iterate 1 (refine plan_p (o := ⟨_, _, _, _, _, _⟩) rfl (fun N hN => ?_); go_big_quiet_step (fail); refine wpQuiet_nil (hN _ ?_); clear hN N)
    refine plan_p0 ?_
    refine plan_done ?_
    go_wp2_with (first
    | (refine loud_ rfl ?_; refine wpList_plain rfl (fun K hK => ?_); first
      | (refine op_make_lit _ _ _ rfl elem26 (n := 16) rfl rfl H (by omega) (by unfold maxLen; omega) (fun ko w' H1 => hK _ _ ?_); clear hK K; replace H := H1; clear H1; (try clear hc); (try simp only [nrm, splice, Value.cells, Nat.reduceAdd, Act.eval, Act.put] at H); have hc := H.cells; simp only [CellsOf, KnCells, arr_lit, knAt_cons, knAt_nil, Nat.zero_add, Nat.add_zero, Nat.reduceAdd] at hc)
      | (refine op_box _ _ rfl H (fun b w' H1 => hK _ _ ?_); clear hK K; replace H := H1; clear H1; (try clear hc); (try simp only [nrm, splice, Value.cells, Nat.reduceAdd, Act.eval, Act.put] at H); have hc := H.cells; simp only [CellsOf, KnCells, arr_lit, knAt_cons, knAt_nil, Nat.zero_add, Nat.add_zero, Nat.reduceAdd] at hc)
      | (refine op_alloc _ rfl (zero_of _ _ rfl) H (fun b w' H1 => hK _ _ ?_); clear hK K; replace H := H1; clear H1; (try clear hc); (try simp only [nrm, splice, Value.cells, Nat.reduceAdd, Act.eval, Act.put] at H); have hc := H.cells; simp only [CellsOf, KnCells, arr_lit, knAt_cons, knAt_nil, Nat.zero_add, Nat.add_zero, Nat.reduceAdd] at hc)
      | (refine op_store _ _ _ rfl rfl rfl H (by repeat (first | exact Split.here _ _ | apply Split.there)) (by kernel_rfl) (by kernel_rfl) (by kernel_rfl) (fun w' H1 => hK _ _ ?_); clear hK K; replace H := H1; clear H1; (try clear hc); (try simp only [nrm, splice, Value.cells, Nat.reduceAdd, Act.eval, Act.put] at H); have hc := H.cells; simp only [CellsOf, KnCells, arr_lit, knAt_cons, knAt_nil, Nat.zero_add, Nat.add_zero, Nat.reduceAdd] at hc)
      | (refine op_buildSlice_all _ _ _ rfl (by first | exact elem22 | exact elem25 | exact elem26 | exact elem29) (by kernel_rfl) (by kernel_rfl) (by kernel_rfl) H (fun b w' H1 => hK _ _ ?_); clear hK K; replace H := H1; clear H1; (try clear hc); (try simp only [nrm, splice, Value.cells, Nat.reduceAdd, Act.eval, Act.put] at H); have hc := H.cells; simp only [CellsOf, KnCells, arr_lit, knAt_cons, knAt_nil, Nat.zero_add, Nat.add_zero, Nat.reduceAdd] at hc)))
    rw [zeros_ints] at H
    (try simp only [Act.put, slt])
    refine wp_region_plan (.p [0, 1, 2] (.q [3] (.p [4, 5, 6] (.q [7] (.p [8, 9] .done))))) [] (by kernel_rfl) (by kernel_rfl) (fun _ _ d _ _ h => by cases d <;> exact h) H ?_
    clear H
    (try clear hc)
    intro X nX fX wd hcf hS H
    simp only [CellsOf, KnCells, arr_lit, knAt_cons, knAt_nil, Nat.zero_add, Nat.add_zero, Nat.reduceAdd] at hcf
    have hc := H.cells
    simp only [CellsOf, KnCells, arr_lit, knAt_cons, knAt_nil, Nat.zero_add, Nat.add_zero, Nat.reduceAdd] at hc
    iterate 3 (refine plan_p (o := ⟨_, _, _, _, _, _⟩) rfl (fun N hN => ?_); go_big_quiet_step (fail); refine wpQuiet_nil (hN _ ?_); clear hN N)
    refine plan_p0 ?_
    iterate 1 (refine plan_q (o := ⟨_, _, _, _, _, _⟩) rfl (fun N hN => ?_); go_big_quiet_step (fail); refine wpQuiet_nil (hN _ ?_); clear hN N)
    refine plan_q0 ?_
    iterate 3 (refine plan_p (o := ⟨_, _, _, _, _, _⟩) rfl (fun N hN => ?_); go_big_quiet_step (fail); refine wpQuiet_nil (hN _ ?_); clear hN N)
    refine plan_p0 ?_
    iterate 1 (refine plan_q (o := ⟨_, _, _, _, _, _⟩) rfl (fun N hN => ?_); go_big_quiet_step (fail); refine wpQuiet_nil (hN _ ?_); clear hN N)
    refine plan_q0 ?_
    iterate 2 (refine plan_p (o := ⟨_, _, _, _, _, _⟩) rfl (fun N hN => ?_); go_big_quiet_step (fail); refine wpQuiet_nil (hN _ ?_); clear hN N)
    refine plan_p0 ?_
    refine plan_done ?_
    go_wp2_with (first
    | (refine loud_ rfl ?_; refine wpList_plain rfl (fun K hK => ?_); first
      | (refine op_box _ _ rfl H (fun b w' H1 => hK _ _ ?_); clear hK K; replace H := H1; clear H1; (try clear hc); (try simp only [nrm, splice, Value.cells, Nat.reduceAdd, Act.eval, Act.put] at H); have hc := H.cells; simp only [CellsOf, KnCells, arr_lit, knAt_cons, knAt_nil, Nat.zero_add, Nat.add_zero, Nat.reduceAdd] at hc)
      | (refine op_alloc _ rfl (zero_of _ _ rfl) H (fun b w' H1 => hK _ _ ?_); clear hK K; replace H := H1; clear H1; (try clear hc); (try simp only [nrm, splice, Value.cells, Nat.reduceAdd, Act.eval, Act.put] at H); have hc := H.cells; simp only [CellsOf, KnCells, arr_lit, knAt_cons, knAt_nil, Nat.zero_add, Nat.add_zero, Nat.reduceAdd] at hc)
      | (refine op_store _ _ _ rfl rfl rfl H (by repeat (first | exact Split.here _ _ | apply Split.there)) (by kernel_rfl) (by kernel_rfl) (by kernel_rfl) (fun w' H1 => hK _ _ ?_); clear hK K; replace H := H1; clear H1; (try clear hc); (try simp only [nrm, splice, Value.cells, Nat.reduceAdd, Act.eval, Act.put] at H); have hc := H.cells; simp only [CellsOf, KnCells, arr_lit, knAt_cons, knAt_nil, Nat.zero_add, Nat.add_zero, Nat.reduceAdd] at hc)
      | (refine op_buildSlice_all _ _ _ rfl (by first | exact elem22 | exact elem25 | exact elem26 | exact elem29) (by kernel_rfl) (by kernel_rfl) (by kernel_rfl) H (fun b w' H1 => hK _ _ ?_); clear hK K; replace H := H1; clear H1; (try clear hc); (try simp only [nrm, splice, Value.cells, Nat.reduceAdd, Act.eval, Act.put] at H); have hc := H.cells; simp only [CellsOf, KnCells, arr_lit, knAt_cons, knAt_nil, Nat.zero_add, Nat.add_zero, Nat.reduceAdd] at hc)))
    (try simp only [Act.put, slt])
    refine wp_region_plan (.p [0, 1, 2, 3] (.q [4] (.p [5, 6, 7] (.q [8] (.p [9, 10] (.e 11 .done)))))) [11] (by kernel_rfl) (by kernel_rfl) (fun _ _ d _ _ h => by cases d <;> exact h) H ?_
    clear H
    (try clear hc)
    intro X nX fX wd hcf hS H
    simp only [CellsOf, KnCells, arr_lit, knAt_cons, knAt_nil, Nat.zero_add, Nat.add_zero, Nat.reduceAdd] at hcf
    have hc := H.cells
    simp only [CellsOf, KnCells, arr_lit, knAt_cons, knAt_nil, Nat.zero_add, Nat.add_zero, Nat.reduceAdd] at hc
    iterate 4 (refine plan_p (o := ⟨_, _, _, _, _, _⟩) rfl (fun N hN => ?_); go_big_quiet_step (fail); refine wpQuiet_nil (hN _ ?_); clear hN N)
    refine plan_p0 ?_
    iterate 1 (refine plan_q (o := ⟨_, _, _, _, _, _⟩) rfl (fun N hN => ?_); go_big_quiet_step (fail); refine wpQuiet_nil (hN _ ?_); clear hN N)
    refine plan_q0 ?_
    iterate 3 (refine plan_p (o := ⟨_, _, _, _, _, _⟩) rfl (fun N hN => ?_); go_big_quiet_step (fail); refine wpQuiet_nil (hN _ ?_); clear hN N)
    refine plan_p0 ?_
    iterate 1 (refine plan_q (o := ⟨_, _, _, _, _, _⟩) rfl (fun N hN => ?_); go_big_quiet_step (fail); refine wpQuiet_nil (hN _ ?_); clear hN N)
    refine plan_q0 ?_
    iterate 2 (refine plan_p (o := ⟨_, _, _, _, _, _⟩) rfl (fun N hN => ?_); go_big_quiet_step (fail); refine wpQuiet_nil (hN _ ?_); clear hN N)
    refine plan_p0 ?_
    refine plan_e (o := ⟨_, _, _, _, _, _⟩) rfl rfl (fun K hK => ?_)
    first
      | (refine op_copy_row _ _ _ _ rfl Try.underlying26 (by kernel_rfl) (b := ko) (off := 0) (ys := []) rfl rfl H (by repeat (first | exact Split.here _ _ | apply Split.there)) (by simp) (by omega) (fun ad h j u hu => by simp at hu) (fun h => by cases h) (One.nil) (fun w' H1 => ?_); replace H := H1; clear H1; (try clear hc); (try simp only [nrm, splice, Value.cells, Nat.reduceAdd, Act.eval, Act.put] at H); have hc := H.cells; simp only [CellsOf, KnCells, arr_lit, knAt_cons, knAt_nil, Nat.zero_add, Nat.add_zero, Nat.reduceAdd] at hc; refine hK _ _ (fun h => (h (by decide)).elim) ?_; clear hK K; (try simp only [Act.put, slt]))
      | (refine op_box _ _ rfl H (fun b w' H1 => ?_); replace H := H1; clear H1; (try clear hc); (try simp only [nrm, splice, Value.cells, Nat.reduceAdd, Act.eval, Act.put] at H); have hc := H.cells; simp only [CellsOf, KnCells, arr_lit, knAt_cons, knAt_nil, Nat.zero_add, Nat.add_zero, Nat.reduceAdd] at hc; refine hK _ _ (fun h => (h (by decide)).elim) ?_; clear hK K; (try simp only [Act.put, slt]))
      | (refine op_alloc _ rfl (zero_of _ _ rfl) H (fun b w' H1 => ?_); replace H := H1; clear H1; (try clear hc); (try simp only [nrm, splice, Value.cells, Nat.reduceAdd, Act.eval, Act.put] at H); have hc := H.cells; simp only [CellsOf, KnCells, arr_lit, knAt_cons, knAt_nil, Nat.zero_add, Nat.add_zero, Nat.reduceAdd] at hc; refine hK _ _ (fun h => (h (by decide)).elim) ?_; clear hK K; (try simp only [Act.put, slt]))
      | (refine op_store _ _ _ rfl rfl rfl H (by repeat (first | exact Split.here _ _ | apply Split.there)) (by kernel_rfl) (by kernel_rfl) (by kernel_rfl) (fun w' H1 => ?_); replace H := H1; clear H1; (try clear hc); (try simp only [nrm, splice, Value.cells, Nat.reduceAdd, Act.eval, Act.put] at H); have hc := H.cells; simp only [CellsOf, KnCells, arr_lit, knAt_cons, knAt_nil, Nat.zero_add, Nat.add_zero, Nat.reduceAdd] at hc; refine hK _ _ (fun h => (h (by decide)).elim) ?_; clear hK K; (try simp only [Act.put, slt]))
      | (refine op_buildSlice_all _ _ _ rfl (by first | exact elem22 | exact elem25 | exact elem26 | exact elem29) (by kernel_rfl) (by kernel_rfl) (by kernel_rfl) H (fun b w' H1 => ?_); replace H := H1; clear H1; (try clear hc); (try simp only [nrm, splice, Value.cells, Nat.reduceAdd, Act.eval, Act.put] at H); have hc := H.cells; simp only [CellsOf, KnCells, arr_lit, knAt_cons, knAt_nil, Nat.zero_add, Nat.add_zero, Nat.reduceAdd] at hc; refine hK _ _ (fun h => (h (by decide)).elim) ?_; clear hK K; (try simp only [Act.put, slt]))
    refine plan_done ?_
    go_wp2_with (first
    | (refine loud_ rfl ?_; refine wpList_plain rfl (fun K hK => ?_); first
      | (refine op_box _ _ rfl H (fun b w' H1 => hK _ _ ?_); clear hK K; replace H := H1; clear H1; (try clear hc); (try simp only [nrm, splice, Value.cells, Nat.reduceAdd, Act.eval, Act.put] at H); have hc := H.cells; simp only [CellsOf, KnCells, arr_lit, knAt_cons, knAt_nil, Nat.zero_add, Nat.add_zero, Nat.reduceAdd] at hc)
      | (refine op_alloc _ rfl (zero_of _ _ rfl) H (fun b w' H1 => hK _ _ ?_); clear hK K; replace H := H1; clear H1; (try clear hc); (try simp only [nrm, splice, Value.cells, Nat.reduceAdd, Act.eval, Act.put] at H); have hc := H.cells; simp only [CellsOf, KnCells, arr_lit, knAt_cons, knAt_nil, Nat.zero_add, Nat.add_zero, Nat.reduceAdd] at hc)
      | (refine op_store _ _ _ rfl rfl rfl H (by repeat (first | exact Split.here _ _ | apply Split.there)) (by kernel_rfl) (by kernel_rfl) (by kernel_rfl) (fun w' H1 => hK _ _ ?_); clear hK K; replace H := H1; clear H1; (try clear hc); (try simp only [nrm, splice, Value.cells, Nat.reduceAdd, Act.eval, Act.put] at H); have hc := H.cells; simp only [CellsOf, KnCells, arr_lit, knAt_cons, knAt_nil, Nat.zero_add, Nat.add_zero, Nat.reduceAdd] at hc)
      | (refine op_buildSlice_all _ _ _ rfl (by first | exact elem22 | exact elem25 | exact elem26 | exact elem29) (by kernel_rfl) (by kernel_rfl) (by kernel_rfl) H (fun b w' H1 => hK _ _ ?_); clear hK K; replace H := H1; clear H1; (try clear hc); (try simp only [nrm, splice, Value.cells, Nat.reduceAdd, Act.eval, Act.put] at H); have hc := H.cells; simp only [CellsOf, KnCells, arr_lit, knAt_cons, knAt_nil, Nat.zero_add, Nat.add_zero, Nat.reduceAdd] at hc)))
    (try simp only [Act.put, slt])
    refine wp_region_plan (.p [0, 1, 2] (.q [3] (.p [4, 5, 6] (.q [7] (.p [8, 9, 10] (.q [11] (.p [12, 13, 14, 15] (.q [16] (.p [17, 18, 19] (.e 20 .done)))))))))) [20] (by kernel_rfl) (by kernel_rfl) (fun _ _ d _ _ h => by cases d <;> exact h) H ?_
    clear H
    (try clear hc)
    intro X nX fX wd hcf hS H
    simp only [CellsOf, KnCells, arr_lit, knAt_cons, knAt_nil, Nat.zero_add, Nat.add_zero, Nat.reduceAdd] at hcf
    have hc := H.cells
    simp only [CellsOf, KnCells, arr_lit, knAt_cons, knAt_nil, Nat.zero_add, Nat.add_zero, Nat.reduceAdd] at hc
    iterate 3 (refine plan_p (o := ⟨_, _, _, _, _, _⟩) rfl (fun N hN => ?_); go_big_quiet_step (fail); refine wpQuiet_nil (hN _ ?_); clear hN N)
    refine plan_p0 ?_
    iterate 1 (refine plan_q (o := ⟨_, _, _, _, _, _⟩) rfl (fun N hN => ?_); go_big_quiet_step (fail); refine wpQuiet_nil (hN _ ?_); clear hN N)
    refine plan_q0 ?_
    iterate 3 (refine plan_p (o := ⟨_, _, _, _, _, _⟩) rfl (fun N hN => ?_); go_big_quiet_step (fail); refine wpQuiet_nil (hN _ ?_); clear hN N)
    refine plan_p0 ?_
    iterate 1 (refine plan_q (o := ⟨_, _, _, _, _, _⟩) rfl (fun N hN => ?_); go_big_quiet_step (fail); refine wpQuiet_nil (hN _ ?_); clear hN N)
    refine plan_q0 ?_
    iterate 3 (refine plan_p (o := ⟨_, _, _, _, _, _⟩) rfl (fun N hN => ?_); go_big_quiet_step (fail); refine wpQuiet_nil (hN _ ?_); clear hN N)
    refine plan_p0 ?_
    iterate 1 (refine plan_q (o := ⟨_, _, _, _, _, _⟩) rfl (fun N hN => ?_); go_big_quiet_step (fail); refine wpQuiet_nil (hN _ ?_); clear hN N)
    refine plan_q0 ?_
    iterate 4 (refine plan_p (o := ⟨_, _, _, _, _, _⟩) rfl (fun N hN => ?_); go_big_quiet_step (fail); refine wpQuiet_nil (hN _ ?_); clear hN N)
    refine plan_p0 ?_
    iterate 1 (refine plan_q (o := ⟨_, _, _, _, _, _⟩) rfl (fun N hN => ?_); go_big_quiet_step (fail); refine wpQuiet_nil (hN _ ?_); clear hN N)
    refine plan_q0 ?_
    iterate 3 (refine plan_p (o := ⟨_, _, _, _, _, _⟩) rfl (fun N hN => ?_); go_big_quiet_step (fail); refine wpQuiet_nil (hN _ ?_); clear hN N)
    refine plan_p0 ?_
    refine plan_e (o := ⟨_, _, _, _, _, _⟩) rfl rfl (fun K hK => ?_)
    first
      | (refine op_storeRow _ _ _ rfl (b := ko) (i := 0) rfl rfl H (by repeat (first | exact Split.here _ _ | apply Split.there)) (by kernel_rfl) (one_int _) (by show 0 + 1 ≤ 16 * 1; omega) (fun w' H1 => ?_); replace H := H1; clear H1; (try clear hc); (try simp only [nrm, splice, Value.cells, Nat.reduceAdd, Act.eval, Act.put] at H); have hc := H.cells; simp only [CellsOf, KnCells, arr_lit, knAt_cons, knAt_nil, Nat.zero_add, Nat.add_zero, Nat.reduceAdd] at hc; refine hK _ _ (fun h => (h (by decide)).elim) ?_; clear hK K; (try simp only [Act.put, slt]))
      | (refine op_box _ _ rfl H (fun b w' H1 => ?_); replace H := H1; clear H1; (try clear hc); (try simp only [nrm, splice, Value.cells, Nat.reduceAdd, Act.eval, Act.put] at H); have hc := H.cells; simp only [CellsOf, KnCells, arr_lit, knAt_cons, knAt_nil, Nat.zero_add, Nat.add_zero, Nat.reduceAdd] at hc; refine hK _ _ (fun h => (h (by decide)).elim) ?_; clear hK K; (try simp only [Act.put, slt]))
      | (refine op_alloc _ rfl (zero_of _ _ rfl) H (fun b w' H1 => ?_); replace H := H1; clear H1; (try clear hc); (try simp only [nrm, splice, Value.cells, Nat.reduceAdd, Act.eval, Act.put] at H); have hc := H.cells; simp only [CellsOf, KnCells, arr_lit, knAt_cons, knAt_nil, Nat.zero_add, Nat.add_zero, Nat.reduceAdd] at hc; refine hK _ _ (fun h => (h (by decide)).elim) ?_; clear hK K; (try simp only [Act.put, slt]))
      | (refine op_store _ _ _ rfl rfl rfl H (by repeat (first | exact Split.here _ _ | apply Split.there)) (by kernel_rfl) (by kernel_rfl) (by kernel_rfl) (fun w' H1 => ?_); replace H := H1; clear H1; (try clear hc); (try simp only [nrm, splice, Value.cells, Nat.reduceAdd, Act.eval, Act.put] at H); have hc := H.cells; simp only [CellsOf, KnCells, arr_lit, knAt_cons, knAt_nil, Nat.zero_add, Nat.add_zero, Nat.reduceAdd] at hc; refine hK _ _ (fun h => (h (by decide)).elim) ?_; clear hK K; (try simp only [Act.put, slt]))
      | (refine op_buildSlice_all _ _ _ rfl (by first | exact elem22 | exact elem25 | exact elem26 | exact elem29) (by kernel_rfl) (by kernel_rfl) (by kernel_rfl) H (fun b w' H1 => ?_); replace H := H1; clear H1; (try clear hc); (try simp only [nrm, splice, Value.cells, Nat.reduceAdd, Act.eval, Act.put] at H); have hc := H.cells; simp only [CellsOf, KnCells, arr_lit, knAt_cons, knAt_nil, Nat.zero_add, Nat.add_zero, Nat.reduceAdd] at hc; refine hK _ _ (fun h => (h (by decide)).elim) ?_; clear hK K; (try simp only [Act.put, slt]))
    refine plan_done ?_
    go_wp2_with (first
    | (refine loud_ rfl ?_; refine wpList_plain rfl (fun K hK => ?_); first
      | (refine op_box _ _ rfl H (fun b w' H1 => hK _ _ ?_); clear hK K; replace H := H1; clear H1; (try clear hc); (try simp only [nrm, splice, Value.cells, Nat.reduceAdd, Act.eval, Act.put] at H); have hc := H.cells; simp only [CellsOf, KnCells, arr_lit, knAt_cons, knAt_nil, Nat.zero_add, Nat.add_zero, Nat.reduceAdd] at hc)
      | (refine op_alloc _ rfl (zero_of _ _ rfl) H (fun b w' H1 => hK _ _ ?_); clear hK K; replace H := H1; clear H1; (try clear hc); (try simp only [nrm, splice, Value.cells, Nat.reduceAdd, Act.eval, Act.put] at H); have hc := H.cells; simp only [CellsOf, KnCells, arr_lit, knAt_cons, knAt_nil, Nat.zero_add, Nat.add_zero, Nat.reduceAdd] at hc)
      | (refine op_store _ _ _ rfl rfl rfl H (by repeat (first | exact Split.here _ _ | apply Split.there)) (by kernel_rfl) (by kernel_rfl) (by kernel_rfl) (fun w' H1 => hK _ _ ?_); clear hK K; replace H := H1; clear H1; (try clear hc); (try simp only [nrm, splice, Value.cells, Nat.reduceAdd, Act.eval, Act.put] at H); have hc := H.cells; simp only [CellsOf, KnCells, arr_lit, knAt_cons, knAt_nil, Nat.zero_add, Nat.add_zero, Nat.reduceAdd] at hc)
      | (refine op_buildSlice_all _ _ _ rfl (by first | exact elem22 | exact elem25 | exact elem26 | exact elem29) (by kernel_rfl) (by kernel_rfl) (by kernel_rfl) H (fun b w' H1 => hK _ _ ?_); clear hK K; replace H := H1; clear H1; (try clear hc); (try simp only [nrm, splice, Value.cells, Nat.reduceAdd, Act.eval, Act.put] at H); have hc := H.cells; simp only [CellsOf, KnCells, arr_lit, knAt_cons, knAt_nil, Nat.zero_add, Nat.add_zero, Nat.reduceAdd] at hc)))
    go_end0
    refine ⟨rfl, ko, ?_⟩
    have e : Value.int .i64 v :: (ints (List.replicate 16 0)).drop 1 = ints (grown 0 16 0 [] v) := rfl
    rw [e] at H
    exact H.sel (by repeat (first | exact Sel.nil _ | (apply Sel.cons; focus (repeat (first | exact Split.here _ _ | apply Split.there)))))

set_option maxHeartbeats 2000000 in
theorem gwrite_full1 (o : Option Int) (br kb n m : Nat) (data : List Int) (v : Int) (S : List Nat) (w : World) (hn : n ≤ 1000000) (hn0 : 0 < n) (hm : Hid (m = 2 * n)) (hd : Hid (data.length = n))
    (H : St S w w [(true, .is br (gobj o kb n 0 n)), (true, .row (some kb) 3 1 n n (ints data))]) :
    Calls Try.prog 46 #[.pointer (some ⟨br, 0, none⟩), .int .i64 v] w fun e w' => ∃ ko, e = .returned (.tuple #[]) ∧
      St S w w' [(true, .is br (gobj o ko m 0 (n + 1))), (true, .row (some ko) 3 1 m m (ints (grown n m 0 data v)))] := by
  have hm' := hm.out
  have h2 : (n : Int) * 2 = (m : Int) := by omega
  have hm0 : ¬ m = 0 := by omega
  have hm1 : ¬ (m : Int) = 0 := by omega
  have hm2 : n < m := by omega
  have hm3 : m ≤ 2000000 := by omega
  have hmod : (n : Int) % (m : Int) = n := Int.emod_eq_of_lt (by omega) (by omega)
  clear hm'
  cases o
  all_goals
    simp only [gobj, Int.natCast_zero] at H ⊢
    have hc := H.cells; simp only [CellsOf, KnCells, arr_lit, knAt_cons, knAt_nil, Nat.zero_add, Nat.add_zero, Nat.reduceAdd] at hc
    go_enter Try.func46, Try.ntmps46
    go_wp2_with (first
    | (refine loud_ rfl ?_; refine wpList_plain rfl (fun K hK => ?_); first
      | (refine op_box _ _ rfl H (fun b w' H1 => hK _ _ ?_); clear hK K; replace H := H1; clear H1; (try clear hc); (try simp only [nrm, splice, Value.cells, Nat.reduceAdd, Act.eval, Act.put] at H); have hc := H.cells; simp only [CellsOf, KnCells, arr_lit, knAt_cons, knAt_nil, Nat.zero_add, Nat.add_zero, Nat.reduceAdd] at hc)
      | (refine op_alloc _ rfl (zero_of _ _ rfl) H (fun b w' H1 => hK _ _ ?_); clear hK K; replace H := H1; clear H1; (try clear hc); (try simp only [nrm, splice, Value.cells, Nat.reduceAdd, Act.eval, Act.put] at H); have hc := H.cells; simp only [CellsOf, KnCells, arr_lit, knAt_cons, knAt_nil, Nat.zero_add, Nat.add_zero, Nat.reduceAdd] at hc)
      | (refine op_store _ _ _ rfl rfl rfl H (by repeat (first | exact Split.here _ _ | apply Split.there)) (by kernel_rfl) (by kernel_rfl) (by kernel_rfl) (fun w' H1 => hK _ _ ?_); clear hK K; replace H := H1; clear H1; (try clear hc); (try simp only [nrm, splice, Value.cells, Nat.reduceAdd, Act.eval, Act.put] at H); have hc := H.cells; simp only [CellsOf, KnCells, arr_lit, knAt_cons, knAt_nil, Nat.zero_add, Nat.add_zero, Nat.reduceAdd] at hc)
      | (refine op_buildSlice_all _ _ _ rfl (by first | exact elem22 | exact elem25 | exact elem26 | exact elem29) (by kernel_rfl) (by kernel_rfl) (by kernel_rfl) H (fun b w' H1 => hK _ _ ?_); clear hK K; replace H := H1; clear H1; (try clear hc); (try simp only [nrm, splice, Value.cells, Nat.reduceAdd, Act.eval, Act.put] at H); have hc := H.cells; simp only [CellsOf, KnCells, arr_lit, knAt_cons, knAt_nil, Nat.zero_add, Nat.add_zero, Nat.reduceAdd] at hc)))
    (try simp only [Act.put, slt])
    refine wp_region_plan (.p [0, 1, 2] (.q [3] (.p [4, 5, 6] (.q [7] (.p [8] .done))))) [] (by kernel_rfl) (by kernel_rfl) (fun _ _ d _ _ h => by cases d <;> exact h) H ?_
    clear H
    (try clear hc)
    intro X nX fX wd hcf hS H
    simp only [CellsOf, KnCells, arr_lit, knAt_cons, knAt_nil, Nat.zero_add, Nat.add_zero, Nat.reduceAdd] at hcf
    have hc := H.cells
    simp only [CellsOf, KnCells, arr_lit, knAt_cons, knAt_nil, Nat.zero_add, Nat.add_zero, Nat.reduceAdd] at hc
    iterate 3 (refine plan_p (o := ⟨_, _, _, _, _, _⟩) rfl (fun N hN => ?_); go_big_quiet_step (fail); refine wpQuiet_nil (hN _ ?_); clear hN N)
    refine plan_p0 ?_
    iterate 1 (refine plan_q (o := ⟨_, _, _, _, _, _⟩) rfl (fun N hN => ?_); go_big_quiet_step (fail); refine wpQuiet_nil (hN _ ?_); clear hN N)
    refine plan_q0 ?_
    iterate 3 (refine plan_p (o := ⟨_, _, _, _, _, _⟩) rfl (fun N hN => ?_); go_big_quiet_step (fail); refine wpQuiet_nil (hN _ ?_); clear hN N)
    refine plan_p0 ?_
    iterate 1 (refine plan_q (o := ⟨_, _, _, _, _, _⟩) rfl (fun N hN => ?_); go_big_quiet_step (fail); refine wpQuiet_nil (hN _ ?_); clear hN N)
    refine plan_q0 ?_
    iterate 1 (refine plan_p (o := ⟨_, _, _, _, _, _⟩) rfl (fun N hN => ?_); go_big_quiet_step (fail); refine wpQuiet_nil (hN _ ?_); clear hN N)
    refine plan_p0 ?_
    refine plan_done ?_
    go_wp2_with (first
    | (refine loud_ rfl ?_; refine wpList_plain rfl (fun K hK => ?_); first
      | (refine op_make_lit _ _ _ rfl elem26 (n := m) rfl rfl H (by omega) (by unfold maxLen; omega) (fun ko w' H1 => hK _ _ ?_); clear hK K; replace H := H1; clear H1; (try clear hc); (try simp only [nrm, splice, Value.cells, Nat.reduceAdd, Act.eval, Act.put] at H); have hc := H.cells; simp only [CellsOf, KnCells, arr_lit, knAt_cons, knAt_nil, Nat.zero_add, Nat.add_zero, Nat.reduceAdd] at hc)
      | (refine op_box _ _ rfl H (fun b w' H1 => hK _ _ ?_); clear hK K; replace H := H1; clear H1; (try clear hc); (try simp only [nrm, splice, Value.cells, Nat.reduceAdd, Act.eval, Act.put] at H); have hc := H.cells; simp only [CellsOf, KnCells, arr_lit, knAt_cons, knAt_nil, Nat.zero_add, Nat.add_zero, Nat.reduceAdd] at hc)
      | (refine op_alloc _ rfl (zero_of _ _ rfl) H (fun b w' H1 => hK _ _ ?_); clear hK K; replace H := H1; clear H1; (try clear hc); (try simp only [nrm, splice, Value.cells, Nat.reduceAdd, Act.eval, Act.put] at H); have hc := H.cells; simp only [CellsOf, KnCells, arr_lit, knAt_cons, knAt_nil, Nat.zero_add, Nat.add_zero, Nat.reduceAdd] at hc)
      | (refine op_store _ _ _ rfl rfl rfl H (by repeat (first | exact Split.here _ _ | apply Split.there)) (by kernel_rfl) (by kernel_rfl) (by kernel_rfl) (fun w' H1 => hK _ _ ?_); clear hK K; replace H := H1; clear H1; (try clear hc); (try simp only [nrm, splice, Value.cells, Nat.reduceAdd, Act.eval, Act.put] at H); have hc := H.cells; simp only [CellsOf, KnCells, arr_lit, knAt_cons, knAt_nil, Nat.zero_add, Nat.add_zero, Nat.reduceAdd] at hc)
      | (refine op_buildSlice_all _ _ _ rfl (by first | exact elem22 | exact elem25 | exact elem26 | exact elem29) (by kernel_rfl) (by kernel_rfl) (by kernel_rfl) H (fun b w' H1 => hK _ _ ?_); clear hK K; replace H := H1; clear H1; (try clear hc); (try simp only [nrm, splice, Value.cells, Nat.reduceAdd, Act.eval, Act.put] at H); have hc := H.cells; simp only [CellsOf, KnCells, arr_lit, knAt_cons, knAt_nil, Nat.zero_add, Nat.add_zero, Nat.reduceAdd] at hc)))
    rw [zeros_ints] at H
    (try simp only [Act.put, slt])
    refine wp_region_plan (.p [0, 1, 2] (.q [3] (.p [4, 5, 6] (.q [7] (.p [8, 9] .done))))) [] (by kernel_rfl) (by kernel_rfl) (fun _ _ d _ _ h => by cases d <;> exact h) H ?_
    clear H
    (try clear hc)
    intro X nX fX wd hcf hS H
    simp only [CellsOf, KnCells, arr_lit, knAt_cons, knAt_nil, Nat.zero_add, Nat.add_zero, Nat.reduceAdd] at hcf
    have hc := H.cells
    simp only [CellsOf, KnCells, arr_lit, knAt_cons, knAt_nil, Nat.zero_add, Nat.add_zero, Nat.reduceAdd] at hc
    iterate 3 (refine plan_p (o := ⟨_, _, _, _, _, _⟩) rfl (fun N hN => ?_); go_big_quiet_step (fail); refine wpQuiet_nil (hN _ ?_); clear hN N)
    refine plan_p0 ?_
    iterate 1 (refine plan_q (o := ⟨_, _, _, _, _, _⟩) rfl (fun N hN => ?_); go_big_quiet_step (fail); refine wpQuiet_nil (hN _ ?_); clear hN N)
    refine plan_q0 ?_
    iterate 3 (refine plan_p (o := ⟨_, _, _, _, _, _⟩) rfl (fun N hN => ?_); go_big_quiet_step (fail); refine wpQuiet_nil (hN _ ?_); clear hN N)
    refine plan_p0 ?_
    iterate 1 (refine plan_q (o := ⟨_, _, _, _, _, _⟩) rfl (fun N hN => ?_); go_big_quiet_step (fail); refine wpQuiet_nil (hN _ ?_); clear hN N)
    refine plan_q0 ?_
    iterate 2 (refine plan_p (o := ⟨_, _, _, _, _, _⟩) rfl (fun N hN => ?_); go_big_quiet_step (fail); refine wpQuiet_nil (hN _ ?_); clear hN N)
    refine plan_p0 ?_
    refine plan_done ?_
    go_wp2_with (first
    | (refine loud_ rfl ?_; refine wpList_plain rfl (fun K hK => ?_); first
      | (refine op_box _ _ rfl H (fun b w' H1 => hK _ _ ?_); clear hK K; replace H := H1; clear H1; (try clear hc); (try simp only [nrm, splice, Value.cells, Nat.reduceAdd, Act.eval, Act.put] at H); have hc := H.cells; simp only [CellsOf, KnCells, arr_lit, knAt_cons, knAt_nil, Nat.zero_add, Nat.add_zero, Nat.reduceAdd] at hc)
      | (refine op_alloc _ rfl (zero_of _ _ rfl) H (fun b w' H1 => hK _ _ ?_); clear hK K; replace H := H1; clear H1; (try clear hc); (try simp only [nrm, splice, Value.cells, Nat.reduceAdd, Act.eval, Act.put] at H); have hc := H.cells; simp only [CellsOf, KnCells, arr_lit, knAt_cons, knAt_nil, Nat.zero_add, Nat.add_zero, Nat.reduceAdd] at hc)
      | (refine op_store _ _ _ rfl rfl rfl H (by repeat (first | exact Split.here _ _ | apply Split.there)) (by kernel_rfl) (by kernel_rfl) (by kernel_rfl) (fun w' H1 => hK _ _ ?_); clear hK K; replace H := H1; clear H1; (try clear hc); (try simp only [nrm, splice, Value.cells, Nat.reduceAdd, Act.eval, Act.put] at H); have hc := H.cells; simp only [CellsOf, KnCells, arr_lit, knAt_cons, knAt_nil, Nat.zero_add, Nat.add_zero, Nat.reduceAdd] at hc)
      | (refine op_buildSlice_all _ _ _ rfl (by first | exact elem22 | exact elem25 | exact elem26 | exact elem29) (by kernel_rfl) (by kernel_rfl) (by kernel_rfl) H (fun b w' H1 => hK _ _ ?_); clear hK K; replace H := H1; clear H1; (try clear hc); (try simp only [nrm, splice, Value.cells, Nat.reduceAdd, Act.eval, Act.put] at H); have hc := H.cells; simp only [CellsOf, KnCells, arr_lit, knAt_cons, knAt_nil, Nat.zero_add, Nat.add_zero, Nat.reduceAdd] at hc)))
    (try simp only [Act.put, slt])
    refine wp_region_plan (.p [0, 1, 2, 3] (.q [4] (.p [5, 6, 7] (.q [8] (.p [9, 10] (.e 11 .done)))))) [11] (by kernel_rfl) (by kernel_rfl) (fun _ _ d _ _ h => by cases d <;> exact h) H ?_
    clear H
    (try clear hc)
    intro X nX fX wd hcf hS H
    simp only [CellsOf, KnCells, arr_lit, knAt_cons, knAt_nil, Nat.zero_add, Nat.add_zero, Nat.reduceAdd] at hcf
    have hc := H.cells
    simp only [CellsOf, KnCells, arr_lit, knAt_cons, knAt_nil, Nat.zero_add, Nat.add_zero, Nat.reduceAdd] at hc
    iterate 4 (refine plan_p (o := ⟨_, _, _, _, _, _⟩) rfl (fun N hN => ?_); go_big_quiet_step (fail); refine wpQuiet_nil (hN _ ?_); clear hN N)
    refine plan_p0 ?_
    iterate 1 (refine plan_q (o := ⟨_, _, _, _, _, _⟩) rfl (fun N hN => ?_); go_big_quiet_step (fail); refine wpQuiet_nil (hN _ ?_); clear hN N)
    refine plan_q0 ?_
    iterate 3 (refine plan_p (o := ⟨_, _, _, _, _, _⟩) rfl (fun N hN => ?_); go_big_quiet_step (fail); refine wpQuiet_nil (hN _ ?_); clear hN N)
    refine plan_p0 ?_
    iterate 1 (refine plan_q (o := ⟨_, _, _, _, _, _⟩) rfl (fun N hN => ?_); go_big_quiet_step (fail); refine wpQuiet_nil (hN _ ?_); clear hN N)
    refine plan_q0 ?_
    iterate 2 (refine plan_p (o := ⟨_, _, _, _, _, _⟩) rfl (fun N hN => ?_); go_big_quiet_step (fail); refine wpQuiet_nil (hN _ ?_); clear hN N)
    refine plan_p0 ?_
    refine plan_e (o := ⟨_, _, _, _, _, _⟩) rfl rfl (fun K hK => ?_)
    first
      | (refine op_copy_row _ _ _ _ rfl Try.underlying26 (by kernel_rfl) (b := ko) (off := 0) (ys := ints data) rfl rfl H (by repeat (first | exact Split.here _ _ | apply Split.there)) (by rw [ints_len, hd.out]; omega) (by omega) (fun ad h j u hu => row_cell_off H (Split.there _ (Split.there _ (Split.here _ _))) (k := 0) (by simp) h hu) (fun h => by cases h) (one_ints data) (fun w' H1 => ?_); replace H := H1; clear H1; (try clear hc); (try simp only [nrm, splice, Value.cells, Nat.reduceAdd, Act.eval, Act.put] at H); have hc := H.cells; simp only [CellsOf, KnCells, arr_lit, knAt_cons, knAt_nil, Nat.zero_add, Nat.add_zero, Nat.reduceAdd] at hc; refine hK _ _ (fun h => (h (by decide)).elim) ?_; clear hK K; (try simp only [Act.put, slt]))
      | (refine op_box _ _ rfl H (fun b w' H1 => ?_); replace H := H1; clear H1; (try clear hc); (try simp only [nrm, splice, Value.cells, Nat.reduceAdd, Act.eval, Act.put] at H); have hc := H.cells; simp only [CellsOf, KnCells, arr_lit, knAt_cons, knAt_nil, Nat.zero_add, Nat.add_zero, Nat.reduceAdd] at hc; refine hK _ _ (fun h => (h (by decide)).elim) ?_; clear hK K; (try simp only [Act.put, slt]))
      | (refine op_alloc _ rfl (zero_of _ _ rfl) H (fun b w' H1 => ?_); replace H := H1; clear H1; (try clear hc); (try simp only [nrm, splice, Value.cells, Nat.reduceAdd, Act.eval, Act.put] at H); have hc := H.cells; simp only [CellsOf, KnCells, arr_lit, knAt_cons, knAt_nil, Nat.zero_add, Nat.add_zero, Nat.reduceAdd] at hc; refine hK _ _ (fun h => (h (by decide)).elim) ?_; clear hK K; (try simp only [Act.put, slt]))
      | (refine op_store _ _ _ rfl rfl rfl H (by repeat (first | exact Split.here _ _ | apply Split.there)) (by kernel_rfl) (by kernel_rfl) (by kernel_rfl) (fun w' H1 => ?_); replace H := H1; clear H1; (try clear hc); (try simp only [nrm, splice, Value.cells, Nat.reduceAdd, Act.eval, Act.put] at H); have hc := H.cells; simp only [CellsOf, KnCells, arr_lit, knAt_cons, knAt_nil, Nat.zero_add, Nat.add_zero, Nat.reduceAdd] at hc; refine hK _ _ (fun h => (h (by decide)).elim) ?_; clear hK K; (try simp only [Act.put, slt]))
      | (refine op_buildSlice_all _ _ _ rfl (by first | exact elem22 | exact elem25 | exact elem26 | exact elem29) (by kernel_rfl) (by kernel_rfl) (by kernel_rfl) H (fun b w' H1 => ?_); replace H := H1; clear H1; (try clear hc); (try simp only [nrm, splice, Value.cells, Nat.reduceAdd, Act.eval, Act.put] at H); have hc := H.cells; simp only [CellsOf, KnCells, arr_lit, knAt_cons, knAt_nil, Nat.zero_add, Nat.add_zero, Nat.reduceAdd] at hc; refine hK _ _ (fun h => (h (by decide)).elim) ?_; clear hK K; (try simp only [Act.put, slt]))
    refine plan_done ?_
    go_wp2_with (first
    | (refine loud_ rfl ?_; refine wpList_plain rfl (fun K hK => ?_); first
      | (refine op_box _ _ rfl H (fun b w' H1 => hK _ _ ?_); clear hK K; replace H := H1; clear H1; (try clear hc); (try simp only [nrm, splice, Value.cells, Nat.reduceAdd, Act.eval, Act.put] at H); have hc := H.cells; simp only [CellsOf, KnCells, arr_lit, knAt_cons, knAt_nil, Nat.zero_add, Nat.add_zero, Nat.reduceAdd] at hc)
      | (refine op_alloc _ rfl (zero_of _ _ rfl) H (fun b w' H1 => hK _ _ ?_); clear hK K; replace H := H1; clear H1; (try clear hc); (try simp only [nrm, splice, Value.cells, Nat.reduceAdd, Act.eval, Act.put] at H); have hc := H.cells; simp only [CellsOf, KnCells, arr_lit, knAt_cons, knAt_nil, Nat.zero_add, Nat.add_zero, Nat.reduceAdd] at hc)
      | (refine op_store _ _ _ rfl rfl rfl H (by repeat (first | exact Split.here _ _ | apply Split.there)) (by kernel_rfl) (by kernel_rfl) (by kernel_rfl) (fun w' H1 => hK _ _ ?_); clear hK K; replace H := H1; clear H1; (try clear hc); (try simp only [nrm, splice, Value.cells, Nat.reduceAdd, Act.eval, Act.put] at H); have hc := H.cells; simp only [CellsOf, KnCells, arr_lit, knAt_cons, knAt_nil, Nat.zero_add, Nat.add_zero, Nat.reduceAdd] at hc)
      | (refine op_buildSlice_all _ _ _ rfl (by first | exact elem22 | exact elem25 | exact elem26 | exact elem29) (by kernel_rfl) (by kernel_rfl) (by kernel_rfl) H (fun b w' H1 => hK _ _ ?_); clear hK K; replace H := H1; clear H1; (try clear hc); (try simp only [nrm, splice, Value.cells, Nat.reduceAdd, Act.eval, Act.put] at H); have hc := H.cells; simp only [CellsOf, KnCells, arr_lit, knAt_cons, knAt_nil, Nat.zero_add, Nat.add_zero, Nat.reduceAdd] at hc)))
    (try simp only [Act.put, slt])
    refine wp_region_plan (.p [0, 1, 2] (.q [3] (.p [4, 5, 6] (.q [7] (.p [8, 9, 10] (.q [11] (.p [12, 13, 14, 15] (.q [16] (.p [17, 18, 19] (.e 20 .done)))))))))) [20] (by kernel_rfl) (by kernel_rfl) (fun _ _ d _ _ h => by cases d <;> exact h) H ?_
    clear H
    (try clear hc)
    intro X nX fX wd hcf hS H
    simp only [CellsOf, KnCells, arr_lit, knAt_cons, knAt_nil, Nat.zero_add, Nat.add_zero, Nat.reduceAdd] at hcf
    have hc := H.cells
    simp only [CellsOf, KnCells, arr_lit, knAt_cons, knAt_nil, Nat.zero_add, Nat.add_zero, Nat.reduceAdd] at hc
    iterate 3 (refine plan_p (o := ⟨_, _, _, _, _, _⟩) rfl (fun N hN => ?_); go_big_quiet_step (fail); refine wpQuiet_nil (hN _ ?_); clear hN N)
    refine plan_p0 ?_
    iterate 1 (refine plan_q (o := ⟨_, _, _, _, _, _⟩) rfl (fun N hN => ?_); go_big_quiet_step (fail); refine wpQuiet_nil (hN _ ?_); clear hN N)
    refine plan_q0 ?_
    iterate 3 (refine plan_p (o := ⟨_, _, _, _, _, _⟩) rfl (fun N hN => ?_); go_big_quiet_step (fail); refine wpQuiet_nil (hN _ ?_); clear hN N)
    refine plan_p0 ?_
    iterate 1 (refine plan_q (o := ⟨_, _, _, _, _, _⟩) rfl (fun N hN => ?_); go_big_quiet_step (fail); refine wpQuiet_nil (hN _ ?_); clear hN N)
    refine plan_q0 ?_
    iterate 3 (refine plan_p (o := ⟨_, _, _, _, _, _⟩) rfl (fun N hN => ?_); go_big_quiet_step (fail); refine wpQuiet_nil (hN _ ?_); clear hN N)
    refine plan_p0 ?_
    iterate 1 (refine plan_q (o := ⟨_, _, _, _, _, _⟩) rfl (fun N hN => ?_); go_big_quiet_step (fail); refine wpQuiet_nil (hN _ ?_); clear hN N)
    refine plan_q0 ?_
    iterate 4 (refine plan_p (o := ⟨_, _, _, _, _, _⟩) rfl (fun N hN => ?_); go_big_quiet_step (fail); refine wpQuiet_nil (hN _ ?_); clear hN N)
    refine plan_p0 ?_
    iterate 1 (refine plan_q (o := ⟨_, _, _, _, _, _⟩) rfl (fun N hN => ?_); go_big_quiet_step (fail); refine wpQuiet_nil (hN _ ?_); clear hN N)
    refine plan_q0 ?_
    iterate 3 (refine plan_p (o := ⟨_, _, _, _, _, _⟩) rfl (fun N hN => ?_); go_big_quiet_step (fail); refine wpQuiet_nil (hN _ ?_); clear hN N)
    refine plan_p0 ?_
    refine plan_e (o := ⟨_, _, _, _, _, _⟩) rfl rfl (fun K hK => ?_)
    first
      | (refine op_storeRow _ _ _ rfl (b := ko) (i := n) rfl rfl H (by repeat (first | exact Split.here _ _ | apply Split.there)) (by kernel_rfl) (one_int _) (by show n + 1 ≤ m * 1; omega) (fun w' H1 => ?_); replace H := H1; clear H1; (try clear hc); (try simp only [nrm, splice, Value.cells, Nat.reduceAdd, Act.eval, Act.put] at H); have hc := H.cells; simp only [CellsOf, KnCells, arr_lit, knAt_cons, knAt_nil, Nat.zero_add, Nat.add_zero, Nat.reduceAdd] at hc; refine hK _ _ (fun h => (h (by decide)).elim) ?_; clear hK K; (try simp only [Act.put, slt]))
      | (refine op_box _ _ rfl H (fun b w' H1 => ?_); replace H := H1; clear H1; (try clear hc); (try simp only [nrm, splice, Value.cells, Nat.reduceAdd, Act.eval, Act.put] at H); have hc := H.cells; simp only [CellsOf, KnCells, arr_lit, knAt_cons, knAt_nil, Nat.zero_add, Nat.add_zero, Nat.reduceAdd] at hc; refine hK _ _ (fun h => (h (by decide)).elim) ?_; clear hK K; (try simp only [Act.put, slt]))
      | (refine op_alloc _ rfl (zero_of _ _ rfl) H (fun b w' H1 => ?_); replace H := H1; clear H1; (try clear hc); (try simp only [nrm, splice, Value.cells, Nat.reduceAdd, Act.eval, Act.put] at H); have hc := H.cells; simp only [CellsOf, KnCells, arr_lit, knAt_cons, knAt_nil, Nat.zero_add, Nat.add_zero, Nat.reduceAdd] at hc; refine hK _ _ (fun h => (h (by decide)).elim) ?_; clear hK K; (try simp only [Act.put, slt]))
      | (refine op_store _ _ _ rfl rfl rfl H (by repeat (first | exact Split.here _ _ | apply Split.there)) (by kernel_rfl) (by kernel_rfl) (by kernel_rfl) (fun w' H1 => ?_); replace H := H1; clear H1; (try clear hc); (try simp only [nrm, splice, Value.cells, Nat.reduceAdd, Act.eval, Act.put] at H); have hc := H.cells; simp only [CellsOf, KnCells, arr_lit, knAt_cons, knAt_nil, Nat.zero_add, Nat.add_zero, Nat.reduceAdd] at hc; refine hK _ _ (fun h => (h (by decide)).elim) ?_; clear hK K; (try simp only [Act.put, slt]))
      | (refine op_buildSlice_all _ _ _ rfl (by first | exact elem22 | exact elem25 | exact elem26 | exact elem29) (by kernel_rfl) (by kernel_rfl) (by kernel_rfl) H (fun b w' H1 => ?_); replace H := H1; clear H1; (try clear hc); (try simp only [nrm, splice, Value.cells, Nat.reduceAdd, Act.eval, Act.put] at H); have hc := H.cells; simp only [CellsOf, KnCells, arr_lit, knAt_cons, knAt_nil, Nat.zero_add, Nat.add_zero, Nat.reduceAdd] at hc; refine hK _ _ (fun h => (h (by decide)).elim) ?_; clear hK K; (try simp only [Act.put, slt]))
    refine plan_done ?_
    go_wp2_with (first
    | (refine loud_ rfl ?_; refine wpList_plain rfl (fun K hK => ?_); first
      | (refine op_box _ _ rfl H (fun b w' H1 => hK _ _ ?_); clear hK K; replace H := H1; clear H1; (try clear hc); (try simp only [nrm, splice, Value.cells, Nat.reduceAdd, Act.eval, Act.put] at H); have hc := H.cells; simp only [CellsOf, KnCells, arr_lit, knAt_cons, knAt_nil, Nat.zero_add, Nat.add_zero, Nat.reduceAdd] at hc)
      | (refine op_alloc _ rfl (zero_of _ _ rfl) H (fun b w' H1 => hK _ _ ?_); clear hK K; replace H := H1; clear H1; (try clear hc); (try simp only [nrm, splice, Value.cells, Nat.reduceAdd, Act.eval, Act.put] at H); have hc := H.cells; simp only [CellsOf, KnCells, arr_lit, knAt_cons, knAt_nil, Nat.zero_add, Nat.add_zero, Nat.reduceAdd] at hc)
      | (refine op_store _ _ _ rfl rfl rfl H (by repeat (first | exact Split.here _ _ | apply Split.there)) (by kernel_rfl) (by kernel_rfl) (by kernel_rfl) (fun w' H1 => hK _ _ ?_); clear hK K; replace H := H1; clear H1; (try clear hc); (try simp only [nrm, splice, Value.cells, Nat.reduceAdd, Act.eval, Act.put] at H); have hc := H.cells; simp only [CellsOf, KnCells, arr_lit, knAt_cons, knAt_nil, Nat.zero_add, Nat.add_zero, Nat.reduceAdd] at hc)
      | (refine op_buildSlice_all _ _ _ rfl (by first | exact elem22 | exact elem25 | exact elem26 | exact elem29) (by kernel_rfl) (by kernel_rfl) (by kernel_rfl) H (fun b w' H1 => hK _ _ ?_); clear hK K; replace H := H1; clear H1; (try clear hc); (try simp only [nrm, splice, Value.cells, Nat.reduceAdd, Act.eval, Act.put] at H); have hc := H.cells; simp only [CellsOf, KnCells, arr_lit, knAt_cons, knAt_nil, Nat.zero_add, Nat.add_zero, Nat.reduceAdd] at hc)))
    go_end0
    rw [ints_len, hd.out, ints_put hd.out hm2 rfl] at H
    refine ⟨rfl, ko, ?_⟩
    unfold grown
    rw [List.drop_zero, List.take_zero, List.append_nil]
    exact H.sel (by repeat (first | exact Sel.nil _ | (apply Sel.cons; focus (repeat (first | exact Split.here _ _ | apply Split.there)))))

set_option maxHeartbeats 2000000 in
theorem gwrite_full2 (o : Option Int) (br kb n m r to beg : Nat) (data : List Int) (v : Int) (S : List Nat) (w : World) (hn : n ≤ 1000000) (hb : 0 < beg) (hr : 0 < r) (hnr : Hid (n = beg + r)) (hto : Hid (to = beg + n)) (hm : Hid (m = 2 * n)) (hd : Hid (data.length = n))
    (H : St S w w [(true, .is br (gobj o kb n beg n)), (true, .row (some kb) 3 1 n n (ints data))]) :
    Calls Try.prog 46 #[.pointer (some ⟨br, 0, none⟩), .int .i64 v] w fun e w' => ∃ ko, e = .returned (.tuple #[]) ∧
      St S w w' [(true, .is br (gobj o ko m 0 (n + 1))), (true, .row (some ko) 3 1 m m (ints (grown n m beg data v)))] := by
  have hm' := hm.out
  have hnr' := hnr.out
  have hto' := hto.out
  have h2 : (n : Int) * 2 = (m : Int) := by omega
  have hm0 : ¬ m = 0 := by omega
  have hm1 : ¬ (m : Int) = 0 := by omega
  have hm2 : n < m := by omega
  have hm3 : m ≤ 2000000 := by omega
  have hmod : (n : Int) % (m : Int) = n := Int.emod_eq_of_lt (by omega) (by omega)
  have h3 : (beg : Int) + (n : Int) = (to : Int) := by omega
  have h4 : ¬ (to : Int) ≤ n := by omega
  have h4' : ¬ to ≤ n := by omega
  have h5 : (to : Int) % (n : Int) = beg := by
    rw [show (to : Int) = beg + n by omega, Int.add_emod_right]
    exact Int.emod_eq_of_lt (by omega) (by omega)
  have h6 : beg < n := by omega
  have h7 : ¬ n = beg := by omega
  have h8 : n - beg = r := by omega
  have h9 : r < m := by omega
  have h10 : ¬ m = r := by omega
  have h11 : n ≤ m := by omega
  clear hm' hnr' hto'
  cases o
  all_goals
    simp only [gobj, Int.natCast_zero] at H ⊢
    have hc := H.cells; simp only [CellsOf, KnCells, arr_lit, knAt_cons, knAt_nil, Nat.zero_add, Nat.add_zero, Nat.reduceAdd] at hc
    go_enter Try.func46, Try.ntmps46
    go_wp2_with (first
    | (refine loud_ rfl ?_; refine wpList_plain rfl (fun K hK => ?_); first
      | (refine op_box _ _ rfl H (fun b w' H1 => hK _ _ ?_); clear hK K; replace H := H1; clear H1; (try clear hc); (try simp only [nrm, splice, Value.cells, Nat.reduceAdd, Act.eval, Act.put] at H); have hc := H.cells; simp only [CellsOf, KnCells, arr_lit, knAt_cons, knAt_nil, Nat.zero_add, Nat.add_zero, Nat.reduceAdd] at hc)
      | (refine op_alloc _ rfl (zero_of _ _ rfl) H (fun b w' H1 => hK _ _ ?_); clear hK K; replace H := H1; clear H1; (try clear hc); (try simp only [nrm, splice, Value.cells, Nat.reduceAdd, Act.eval, Act.put] at H); have hc := H.cells; simp only [CellsOf, KnCells, arr_lit, knAt_cons, knAt_nil, Nat.zero_add, Nat.add_zero, Nat.reduceAdd] at hc)
      | (refine op_store _ _ _ rfl rfl rfl H (by repeat (first | exact Split.here _ _ | apply Split.there)) (by kernel_rfl) (by kernel_rfl) (by kernel_rfl) (fun w' H1 => hK _ _ ?_); clear hK K; replace H := H1; clear H1; (try clear hc); (try simp only [nrm, splice, Value.cells, Nat.reduceAdd, Act.eval, Act.put] at H); have hc := H.cells; simp only [CellsOf, KnCells, arr_lit, knAt_cons, knAt_nil, Nat.zero_add, Nat.add_zero, Nat.reduceAdd] at hc)
      | (refine op_buildSlice_all _ _ _ rfl (by first | exact elem22 | exact elem25 | exact elem26 | exact elem29) (by kernel_rfl) (by kernel_rfl) (by kernel_rfl) H (fun b w' H1 => hK _ _ ?_); clear hK K; replace H := H1; clear H1; (try clear hc); (try simp only [nrm, splice, Value.cells, Nat.reduceAdd, Act.eval, Act.put] at H); have hc := H.cells; simp only [CellsOf, KnCells, arr_lit, knAt_cons, knAt_nil, Nat.zero_add, Nat.add_zero, Nat.reduceAdd] at hc)))
    (try simp only [Act.put, slt])
    refine wp_region_plan (.p [0, 1, 2] (.q [3] (.p [4, 5, 6] (.q [7] (.p [8] .done))))) [] (by kernel_rfl) (by kernel_rfl) (fun _ _ d _ _ h => by cases d <;> exact h) H ?_
    clear H
    (try clear hc)
    intro X nX fX wd hcf hS H
    simp only [CellsOf, KnCells, arr_lit, knAt_cons, knAt_nil, Nat.zero_add, Nat.add_zero, Nat.reduceAdd] at hcf
    have hc := H.cells
    simp only [CellsOf, KnCells, arr_lit, knAt_cons, knAt_nil, Nat.zero_add, Nat.add_zero, Nat.reduceAdd] at hc
    iterate 3 (refine plan_p (o := ⟨_, _, _, _, _, _⟩) rfl (fun N hN => ?_); go_big_quiet_step (fail); refine wpQuiet_nil (hN _ ?_); clear hN N)
    refine plan_p0 ?_
    iterate 1 (refine plan_q (o := ⟨_, _, _, _, _, _⟩) rfl (fun N hN => ?_); go_big_quiet_step (fail); refine wpQuiet_nil (hN _ ?_); clear hN N)
    refine plan_q0 ?_
    iterate 3 (refine plan_p (o := ⟨_, _, _, _, _, _⟩) rfl (fun N hN => ?_); go_big_quiet_step (fail); refine wpQuiet_nil (hN _ ?_); clear hN N)
    refine plan_p0 ?_
    iterate 1 (refine plan_q (o := ⟨_, _, _, _, _, _⟩) rfl (fun N hN => ?_); go_big_quiet_step (fail); refine wpQuiet_nil (hN _ ?_); clear hN N)
    refine plan_q0 ?_
    iterate 1 (refine plan_p (o := ⟨_, _, _, _, _, _⟩) rfl (fun N hN => ?_); go_big_quiet_step (fail); refine wpQuiet_nil (hN _ ?_); clear hN N)
    refine plan_p0 ?_
    refine plan_done ?_
    go_wp2_with (first
    | (refine loud_ rfl ?_; refine wpList_plain rfl (fun K hK => ?_); first
      | (refine op_make_lit _ _ _ rfl elem26 (n := m) rfl rfl H (by omega) (by unfold maxLen; omega) (fun ko w' H1 => hK _ _ ?_); clear hK K; replace H := H1; clear H1; (try clear hc); (try simp only [nrm, splice, Value.cells, Nat.reduceAdd, Act.eval, Act.put] at H); have hc := H.cells; simp only [CellsOf, KnCells, arr_lit, knAt_cons, knAt_nil, Nat.zero_add, Nat.add_zero, Nat.reduceAdd] at hc)
      | (refine op_box _ _ rfl H (fun b w' H1 => hK _ _ ?_); clear hK K; replace H := H1; clear H1; (try clear hc); (try simp only [nrm, splice, Value.cells, Nat.reduceAdd, Act.eval, Act.put] at H); have hc := H.cells; simp only [CellsOf, KnCells, arr_lit, knAt_cons, knAt_nil, Nat.zero_add, Nat.add_zero, Nat.reduceAdd] at hc)
      | (refine op_alloc _ rfl (zero_of _ _ rfl) H (fun b w' H1 => hK _ _ ?_); clear hK K; replace H := H1; clear H1; (try clear hc); (try simp only [nrm, splice, Value.cells, Nat.reduceAdd, Act.eval, Act.put] at H); have hc := H.cells; simp only [CellsOf, KnCells, arr_lit, knAt_cons, knAt_nil, Nat.zero_add, Nat.add_zero, Nat.reduceAdd] at hc)
      | (refine op_store _ _ _ rfl rfl rfl H (by repeat (first | exact Split.here _ _ | apply Split.there)) (by kernel_rfl) (by kernel_rfl) (by kernel_rfl) (fun w' H1 => hK _ _ ?_); clear hK K; replace H := H1; clear H1; (try clear hc); (try simp only [nrm, splice, Value.cells, Nat.reduceAdd, Act.eval, Act.put] at H); have hc := H.cells; simp only [CellsOf, KnCells, arr_lit, knAt_cons, knAt_nil, Nat.zero_add, Nat.add_zero, Nat.reduceAdd] at hc)
      | (refine op_buildSlice_all _ _ _ rfl (by first | exact elem22 | exact elem25 | exact elem26 | exact elem29) (by kernel_rfl) (by kernel_rfl) (by kernel_rfl) H (fun b w' H1 => hK _ _ ?_); clear hK K; replace H := H1; clear H1; (try clear hc); (try simp only [nrm, splice, Value.cells, Nat.reduceAdd, Act.eval, Act.put] at H); have hc := H.cells; simp only [CellsOf, KnCells, arr_lit, knAt_cons, knAt_nil, Nat.zero_add, Nat.add_zero, Nat.reduceAdd] at hc)))
    rw [zeros_ints] at H
    (try simp only [Act.put, slt])
    refine wp_region_plan (.p [0, 1, 2] (.q [3] (.p [4, 5, 6] (.q [7] (.p [8, 9] .done))))) [] (by kernel_rfl) (by kernel_rfl) (fun _ _ d _ _ h => by cases d <;> exact h) H ?_
    clear H
    (try clear hc)
    intro X nX fX wd hcf hS H
    simp only [CellsOf, KnCells, arr_lit, knAt_cons, knAt_nil, Nat.zero_add, Nat.add_zero, Nat.reduceAdd] at hcf
    have hc := H.cells
    simp only [CellsOf, KnCells, arr_lit, knAt_cons, knAt_nil, Nat.zero_add, Nat.add_zero, Nat.reduceAdd] at hc
    iterate 3 (refine plan_p (o := ⟨_, _, _, _, _, _⟩) rfl (fun N hN => ?_); go_big_quiet_step (fail); refine wpQuiet_nil (hN _ ?_); clear hN N)
    refine plan_p0 ?_
    iterate 1 (refine plan_q (o := ⟨_, _, _, _, _, _⟩) rfl (fun N hN => ?_); go_big_quiet_step (fail); refine wpQuiet_nil (hN _ ?_); clear hN N)
    refine plan_q0 ?_
    iterate 3 (refine plan_p (o := ⟨_, _, _, _, _, _⟩) rfl (fun N hN => ?_); go_big_quiet_step (fail); refine wpQuiet_nil (hN _ ?_); clear hN N)
    refine plan_p0 ?_
    iterate 1 (refine plan_q (o := ⟨_, _, _, _, _, _⟩) rfl (fun N hN => ?_); go_big_quiet_step (fail); refine wpQuiet_nil (hN _ ?_); clear hN N)
    refine plan_q0 ?_
    iterate 2 (refine plan_p (o := ⟨_, _, _, _, _, _⟩) rfl (fun N hN => ?_); go_big_quiet_step (fail); refine wpQuiet_nil (hN _ ?_); clear hN N)
    refine plan_p0 ?_
    refine plan_done ?_
    go_wp2_with (first
    | (refine loud_ rfl ?_; refine wpList_plain rfl (fun K hK => ?_); first
      | (refine op_box _ _ rfl H (fun b w' H1 => hK _ _ ?_); clear hK K; replace H := H1; clear H1; (try clear hc); (try simp only [nrm, splice, Value.cells, Nat.reduceAdd, Act.eval, Act.put] at H); have hc := H.cells; simp only [CellsOf, KnCells, arr_lit, knAt_cons, knAt_nil, Nat.zero_add, Nat.add_zero, Nat.reduceAdd] at hc)
      | (refine op_alloc _ rfl (zero_of _ _ rfl) H (fun b w' H1 => hK _ _ ?_); clear hK K; replace H := H1; clear H1; (try clear hc); (try simp only [nrm, splice, Value.cells, Nat.reduceAdd, Act.eval, Act.put] at H); have hc := H.cells; simp only [CellsOf, KnCells, arr_lit, knAt_cons, knAt_nil, Nat.zero_add, Nat.add_zero, Nat.reduceAdd] at hc)
      | (refine op_store _ _ _ rfl rfl rfl H (by repeat (first | exact Split.here _ _ | apply Split.there)) (by kernel_rfl) (by kernel_rfl) (by kernel_rfl) (fun w' H1 => hK _ _ ?_); clear hK K; replace H := H1; clear H1; (try clear hc); (try simp only [nrm, splice, Value.cells, Nat.reduceAdd, Act.eval, Act.put] at H); have hc := H.cells; simp only [CellsOf, KnCells, arr_lit, knAt_cons, knAt_nil, Nat.zero_add, Nat.add_zero, Nat.reduceAdd] at hc)
      | (refine op_buildSlice_all _ _ _ rfl (by first | exact elem22 | exact elem25 | exact elem26 | exact elem29) (by kernel_rfl) (by kernel_rfl) (by kernel_rfl) H (fun b w' H1 => hK _ _ ?_); clear hK K; replace H := H1; clear H1; (try clear hc); (try simp only [nrm, splice, Value.cells, Nat.reduceAdd, Act.eval, Act.put] at H); have hc := H.cells; simp only [CellsOf, KnCells, arr_lit, knAt_cons, knAt_nil, Nat.zero_add, Nat.add_zero, Nat.reduceAdd] at hc)))
    have hl0 : ((ints data).drop beg).length = r := by rw [List.length_drop, ints_len, hd.out]; omega
    have hl0' := Lib.hid hl0
    (try simp only [Act.put, slt])
    refine wp_region_plan (.p [0, 1, 2, 3] (.q [4] (.p [5, 6, 7] (.q [8] (.p [9] (.e 10 (.p [11] .done))))))) [10] (by kernel_rfl) (by kernel_rfl) (fun _ _ d _ _ h => by cases d <;> exact h) H ?_
    clear H
    (try clear hc)
    intro X nX fX wd hcf hS H
    simp only [CellsOf, KnCells, arr_lit, knAt_cons, knAt_nil, Nat.zero_add, Nat.add_zero, Nat.reduceAdd] at hcf
    have hc := H.cells
    simp only [CellsOf, KnCells, arr_lit, knAt_cons, knAt_nil, Nat.zero_add, Nat.add_zero, Nat.reduceAdd] at hc
    iterate 4 (refine plan_p (o := ⟨_, _, _, _, _, _⟩) rfl (fun N hN => ?_); go_big_quiet_step (fail); refine wpQuiet_nil (hN _ ?_); clear hN N)
    refine plan_p0 ?_
    iterate 1 (refine plan_q (o := ⟨_, _, _, _, _, _⟩) rfl (fun N hN => ?_); go_big_quiet_step (fail); refine wpQuiet_nil (hN _ ?_); clear hN N)
    refine plan_q0 ?_
    iterate 3 (refine plan_p (o := ⟨_, _, _, _, _, _⟩) rfl (fun N hN => ?_); go_big_quiet_step (fail); refine wpQuiet_nil (hN _ ?_); clear hN N)
    refine plan_p0 ?_
    iterate 1 (refine plan_q (o := ⟨_, _, _, _, _, _⟩) rfl (fun N hN => ?_); go_big_quiet_step (fail); refine wpQuiet_nil (hN _ ?_); clear hN N)
    refine plan_q0 ?_
    iterate 1 (refine plan_p (o := ⟨_, _, _, _, _, _⟩) rfl (fun N hN => ?_); go_big_quiet_step (fail); refine wpQuiet_nil (hN _ ?_); clear hN N)
    refine plan_p0 ?_
    refine plan_e (o := ⟨_, _, _, _, _, _⟩) rfl rfl (fun K hK => ?_)
    first
      | (refine op_copy_row _ _ _ _ rfl Try.underlying26 (by kernel_rfl) (b := ko) (off := 0) (ys := (ints data).drop beg) rfl rfl H (by repeat (first | exact Split.here _ _ | apply Split.there)) (by rw [hl0'.out]; omega) (by omega) (fun ad h j u hu => row_cell_off H (Split.there _ (Split.there _ (Split.here _ _))) rfl h hu) (fun h => by cases h) (One.drop (one_ints data)) (fun w' H1 => ?_); replace H := H1; clear H1; (try clear hc); (try simp only [nrm, splice, Value.cells, Nat.reduceAdd, Act.eval, Act.put] at H); have hc := H.cells; simp only [CellsOf, KnCells, arr_lit, knAt_cons, knAt_nil, Nat.zero_add, Nat.add_zero, Nat.reduceAdd] at hc; refine hK _ _ (fun h => (h (by decide)).elim) ?_; clear hK K; (try simp only [Act.put, slt]))
      | (refine op_box _ _ rfl H (fun b w' H1 => ?_); replace H := H1; clear H1; (try clear hc); (try simp only [nrm, splice, Value.cells, Nat.reduceAdd, Act.eval, Act.put] at H); have hc := H.cells; simp only [CellsOf, KnCells, arr_lit, knAt_cons, knAt_nil, Nat.zero_add, Nat.add_zero, Nat.reduceAdd] at hc; refine hK _ _ (fun h => (h (by decide)).elim) ?_; clear hK K; (try simp only [Act.put, slt]))
      | (refine op_alloc _ rfl (zero_of _ _ rfl) H (fun b w' H1 => ?_); replace H := H1; clear H1; (try clear hc); (try simp only [nrm, splice, Value.cells, Nat.reduceAdd, Act.eval, Act.put] at H); have hc := H.cells; simp only [CellsOf, KnCells, arr_lit, knAt_cons, knAt_nil, Nat.zero_add, Nat.add_zero, Nat.reduceAdd] at hc; refine hK _ _ (fun h => (h (by decide)).elim) ?_; clear hK K; (try simp only [Act.put, slt]))
      | (refine op_store _ _ _ rfl rfl rfl H (by repeat (first | exact Split.here _ _ | apply Split.there)) (by kernel_rfl) (by kernel_rfl) (by kernel_rfl) (fun w' H1 => ?_); replace H := H1; clear H1; (try clear hc); (try simp only [nrm, splice, Value.cells, Nat.reduceAdd, Act.eval, Act.put] at H); have hc := H.cells; simp only [CellsOf, KnCells, arr_lit, knAt_cons, knAt_nil, Nat.zero_add, Nat.add_zero, Nat.reduceAdd] at hc; refine hK _ _ (fun h => (h (by decide)).elim) ?_; clear hK K; (try simp only [Act.put, slt]))
      | (refine op_buildSlice_all _ _ _ rfl (by first | exact elem22 | exact elem25 | exact elem26 | exact elem29) (by kernel_rfl) (by kernel_rfl) (by kernel_rfl) H (fun b w' H1 => ?_); replace H := H1; clear H1; (try clear hc); (try simp only [nrm, splice, Value.cells, Nat.reduceAdd, Act.eval, Act.put] at H); have hc := H.cells; simp only [CellsOf, KnCells, arr_lit, knAt_cons, knAt_nil, Nat.zero_add, Nat.add_zero, Nat.reduceAdd] at hc; refine hK _ _ (fun h => (h (by decide)).elim) ?_; clear hK K; (try simp only [Act.put, slt]))
    iterate 1 (refine plan_p (o := ⟨_, _, _, _, _, _⟩) rfl (fun N hN => ?_); go_big_quiet_step (fail); refine wpQuiet_nil (hN _ ?_); clear hN N)
    refine plan_p0 ?_
    refine plan_done ?_
    go_wp2_with (first
    | (refine loud_ rfl ?_; refine wpList_plain rfl (fun K hK => ?_); first
      | (refine op_box _ _ rfl H (fun b w' H1 => hK _ _ ?_); clear hK K; replace H := H1; clear H1; (try clear hc); (try simp only [nrm, splice, Value.cells, Nat.reduceAdd, Act.eval, Act.put] at H); have hc := H.cells; simp only [CellsOf, KnCells, arr_lit, knAt_cons, knAt_nil, Nat.zero_add, Nat.add_zero, Nat.reduceAdd] at hc)
      | (refine op_alloc _ rfl (zero_of _ _ rfl) H (fun b w' H1 => hK _ _ ?_); clear hK K; replace H := H1; clear H1; (try clear hc); (try simp only [nrm, splice, Value.cells, Nat.reduceAdd, Act.eval, Act.put] at H); have hc := H.cells; simp only [CellsOf, KnCells, arr_lit, knAt_cons, knAt_nil, Nat.zero_add, Nat.add_zero, Nat.reduceAdd] at hc)
      | (refine op_store _ _ _ rfl rfl rfl H (by repeat (first | exact Split.here _ _ | apply Split.there)) (by kernel_rfl) (by kernel_rfl) (by kernel_rfl) (fun w' H1 => hK _ _ ?_); clear hK K; replace H := H1; clear H1; (try clear hc); (try simp only [nrm, splice, Value.cells, Nat.reduceAdd, Act.eval, Act.put] at H); have hc := H.cells; simp only [CellsOf, KnCells, arr_lit, knAt_cons, knAt_nil, Nat.zero_add, Nat.add_zero, Nat.reduceAdd] at hc)
      | (refine op_buildSlice_all _ _ _ rfl (by first | exact elem22 | exact elem25 | exact elem26 | exact elem29) (by kernel_rfl) (by kernel_rfl) (by kernel_rfl) H (fun b w' H1 => hK _ _ ?_); clear hK K; replace H := H1; clear H1; (try clear hc); (try simp only [nrm, splice, Value.cells, Nat.reduceAdd, Act.eval, Act.put] at H); have hc := H.cells; simp only [CellsOf, KnCells, arr_lit, knAt_cons, knAt_nil, Nat.zero_add, Nat.add_zero, Nat.reduceAdd] at hc)))
    (try simp only [Act.put, slt])
    refine wp_region_plan (.p [0, 1, 2, 3, 4, 5] (.q [6] (.p [7, 8, 9, 10] (.q [11] (.p [12, 13] (.e 14 .done)))))) [14] (by kernel_rfl) (by kernel_rfl) (fun _ _ d _ _ h => by cases d <;> exact h) H ?_
    clear H
    (try clear hc)
    intro X nX fX wd hcf hS H
    simp only [CellsOf, KnCells, arr_lit, knAt_cons, knAt_nil, Nat.zero_add, Nat.add_zero, Nat.reduceAdd] at hcf
    have hc := H.cells
    simp only [CellsOf, KnCells, arr_lit, knAt_cons, knAt_nil, Nat.zero_add, Nat.add_zero, Nat.reduceAdd] at hc
    iterate 6 (refine plan_p (o := ⟨_, _, _, _, _, _⟩) rfl (fun N hN => ?_); go_big_quiet_step (fail); refine wpQuiet_nil (hN _ ?_); clear hN N)
    refine plan_p0 ?_
    iterate 1 (refine plan_q (o := ⟨_, _, _, _, _, _⟩) rfl (fun N hN => ?_); go_big_quiet_step (fail); refine wpQuiet_nil (hN _ ?_); clear hN N)
    refine plan_q0 ?_
    iterate 4 (refine plan_p (o := ⟨_, _, _, _, _, _⟩) rfl (fun N hN => ?_); go_big_quiet_step (fail); refine wpQuiet_nil (hN _ ?_); clear hN N)
    refine plan_p0 ?_
    iterate 1 (refine plan_q (o := ⟨_, _, _, _, _, _⟩) rfl (fun N hN => ?_); go_big_quiet_step (fail); refine wpQuiet_nil (hN _ ?_); clear hN N)
    refine plan_q0 ?_
    iterate 2 (refine plan_p (o := ⟨_, _, _, _, _, _⟩) rfl (fun N hN => ?_); go_big_quiet_step (fail); refine wpQuiet_nil (hN _ ?_); clear hN N)
    refine plan_p0 ?_
    refine plan_e (o := ⟨_, _, _, _, _, _⟩) rfl rfl (fun K hK => ?_)
    first
      | (refine op_copy_row _ _ _ _ rfl Try.underlying26 (by kernel_rfl) (b := ko) (off := r) (ys := (ints data).take beg) rfl rfl H (by repeat (first | exact Split.here _ _ | apply Split.there)) (by rw [List.length_take, ints_len, hd.out]; omega) (by have := hnr.out; omega) (fun ad h j u hu => row_cell_take H (Split.there _ (Split.there _ (Split.here _ _))) rfl h hu) (fun h => by cases h) (One.take (one_ints data)) (fun w' H1 => ?_); replace H := H1; clear H1; (try clear hc); (try simp only [nrm, splice, Value.cells, Nat.reduceAdd, Act.eval, Act.put] at H); have hc := H.cells; simp only [CellsOf, KnCells, arr_lit, knAt_cons, knAt_nil, Nat.zero_add, Nat.add_zero, Nat.reduceAdd] at hc; refine hK _ _ (fun h => (h (by decide)).elim) ?_; clear hK K; (try simp only [Act.put, slt]))
      | (refine op_box _ _ rfl H (fun b w' H1 => ?_); replace H := H1; clear H1; (try clear hc); (try simp only [nrm, splice, Value.cells, Nat.reduceAdd, Act.eval, Act.put] at H); have hc := H.cells; simp only [CellsOf, KnCells, arr_lit, knAt_cons, knAt_nil, Nat.zero_add, Nat.add_zero, Nat.reduceAdd] at hc; refine hK _ _ (fun h => (h (by decide)).elim) ?_; clear hK K; (try simp only [Act.put, slt]))
      | (refine op_alloc _ rfl (zero_of _ _ rfl) H (fun b w' H1 => ?_); replace H := H1; clear H1; (try clear hc); (try simp only [nrm, splice, Value.cells, Nat.reduceAdd, Act.eval, Act.put] at H); have hc := H.cells; simp only [CellsOf, KnCells, arr_lit, knAt_cons, knAt_nil, Nat.zero_add, Nat.add_zero, Nat.reduceAdd] at hc; refine hK _ _ (fun h => (h (by decide)).elim) ?_; clear hK K; (try simp only [Act.put, slt]))
      | (refine op_store _ _ _ rfl rfl rfl H (by repeat (first | exact Split.here _ _ | apply Split.there)) (by kernel_rfl) (by kernel_rfl) (by kernel_rfl) (fun w' H1 => ?_); replace H := H1; clear H1; (try clear hc); (try simp only [nrm, splice, Value.cells, Nat.reduceAdd, Act.eval, Act.put] at H); have hc := H.cells; simp only [CellsOf, KnCells, arr_lit, knAt_cons, knAt_nil, Nat.zero_add, Nat.add_zero, Nat.reduceAdd] at hc; refine hK _ _ (fun h => (h (by decide)).elim) ?_; clear hK K; (try simp only [Act.put, slt]))
      | (refine op_buildSlice_all _ _ _ rfl (by first | exact elem22 | exact elem25 | exact elem26 | exact elem29) (by kernel_rfl) (by kernel_rfl) (by kernel_rfl) H (fun b w' H1 => ?_); replace H := H1; clear H1; (try clear hc); (try simp only [nrm, splice, Value.cells, Nat.reduceAdd, Act.eval, Act.put] at H); have hc := H.cells; simp only [CellsOf, KnCells, arr_lit, knAt_cons, knAt_nil, Nat.zero_add, Nat.add_zero, Nat.reduceAdd] at hc; refine hK _ _ (fun h => (h (by decide)).elim) ?_; clear hK K; (try simp only [Act.put, slt]))
    refine plan_done ?_
    go_wp2_with (first
    | (refine loud_ rfl ?_; refine wpList_plain rfl (fun K hK => ?_); first
      | (refine op_box _ _ rfl H (fun b w' H1 => hK _ _ ?_); clear hK K; replace H := H1; clear H1; (try clear hc); (try simp only [nrm, splice, Value.cells, Nat.reduceAdd, Act.eval, Act.put] at H); have hc := H.cells; simp only [CellsOf, KnCells, arr_lit, knAt_cons, knAt_nil, Nat.zero_add, Nat.add_zero, Nat.reduceAdd] at hc)
      | (refine op_alloc _ rfl (zero_of _ _ rfl) H (fun b w' H1 => hK _ _ ?_); clear hK K; replace H := H1; clear H1; (try clear hc); (try simp only [nrm, splice, Value.cells, Nat.reduceAdd, Act.eval, Act.put] at H); have hc := H.cells; simp only [CellsOf, KnCells, arr_lit, knAt_cons, knAt_nil, Nat.zero_add, Nat.add_zero, Nat.reduceAdd] at hc)
      | (refine op_store _ _ _ rfl rfl rfl H (by repeat (first | exact Split.here _ _ | apply Split.there)) (by kernel_rfl) (by kernel_rfl) (by kernel_rfl) (fun w' H1 => hK _ _ ?_); clear hK K; replace H := H1; clear H1; (try clear hc); (try simp only [nrm, splice, Value.cells, Nat.reduceAdd, Act.eval, Act.put] at H); have hc := H.cells; simp only [CellsOf, KnCells, arr_lit, knAt_cons, knAt_nil, Nat.zero_add, Nat.add_zero, Nat.reduceAdd] at hc)
      | (refine op_buildSlice_all _ _ _ rfl (by first | exact elem22 | exact elem25 | exact elem26 | exact elem29) (by kernel_rfl) (by kernel_rfl) (by kernel_rfl) H (fun b w' H1 => hK _ _ ?_); clear hK K; replace H := H1; clear H1; (try clear hc); (try simp only [nrm, splice, Value.cells, Nat.reduceAdd, Act.eval, Act.put] at H); have hc := H.cells; simp only [CellsOf, KnCells, arr_lit, knAt_cons, knAt_nil, Nat.zero_add, Nat.add_zero, Nat.reduceAdd] at hc)))
    (try simp only [Act.put, slt])
    refine wp_region_plan (.p [0, 1, 2] (.q [3] (.p [4, 5, 6] (.q [7] (.p [8, 9, 10] (.q [11] (.p [12, 13, 14, 15] (.q [16] (.p [17, 18, 19] (.e 20 .done)))))))))) [20] (by kernel_rfl) (by kernel_rfl) (fun _ _ d _ _ h => by cases d <;> exact h) H ?_
    clear H
    (try clear hc)
    intro X nX fX wd hcf hS H
    simp only [CellsOf, KnCells, arr_lit, knAt_cons, knAt_nil, Nat.zero_add, Nat.add_zero, Nat.reduceAdd] at hcf
    have hc := H.cells
    simp only [CellsOf, KnCells, arr_lit, knAt_cons, knAt_nil, Nat.zero_add, Nat.add_zero, Nat.reduceAdd] at hc
    iterate 3 (refine plan_p (o := ⟨_, _, _, _, _, _⟩) rfl (fun N hN => ?_); go_big_quiet_step (fail); refine wpQuiet_nil (hN _ ?_); clear hN N)
    refine plan_p0 ?_
    iterate 1 (refine plan_q (o := ⟨_, _, _, _, _, _⟩) rfl (fun N hN => ?_); go_big_quiet_step (fail); refine wpQuiet_nil (hN _ ?_); clear hN N)
    refine plan_q0 ?_
    iterate 3 (refine plan_p (o := ⟨_, _, _, _, _, _⟩) rfl (fun N hN => ?_); go_big_quiet_step (fail); refine wpQuiet_nil (hN _ ?_); clear hN N)
    refine plan_p0 ?_
    iterate 1 (refine plan_q (o := ⟨_, _, _, _, _, _⟩) rfl (fun N hN => ?_); go_big_quiet_step (fail); refine wpQuiet_nil (hN _ ?_); clear hN N)
    refine plan_q0 ?_
    iterate 3 (refine plan_p (o := ⟨_, _, _, _, _, _⟩) rfl (fun N hN => ?_); go_big_quiet_step (fail); refine wpQuiet_nil (hN _ ?_); clear hN N)
    refine plan_p0 ?_
    iterate 1 (refine plan_q (o := ⟨_, _, _, _, _, _⟩) rfl (fun N hN => ?_); go_big_quiet_step (fail); refine wpQuiet_nil (hN _ ?_); clear hN N)
    refine plan_q0 ?_
    iterate 4 (refine plan_p (o := ⟨_, _, _, _, _, _⟩) rfl (fun N hN => ?_); go_big_quiet_step (fail); refine wpQuiet_nil (hN _ ?_); clear hN N)
    refine plan_p0 ?_
    iterate 1 (refine plan_q (o := ⟨_, _, _, _, _, _⟩) rfl (fun N hN => ?_); go_big_quiet_step (fail); refine wpQuiet_nil (hN _ ?_); clear hN N)
    refine plan_q0 ?_
    iterate 3 (refine plan_p (o := ⟨_, _, _, _, _, _⟩) rfl (fun N hN => ?_); go_big_quiet_step (fail); refine wpQuiet_nil (hN _ ?_); clear hN N)
    refine plan_p0 ?_
    refine plan_e (o := ⟨_, _, _, _, _, _⟩) rfl rfl (fun K hK => ?_)
    first
      | (refine op_storeRow _ _ _ rfl (b := ko) (i := n) rfl rfl H (by repeat (first | exact Split.here _ _ | apply Split.there)) (by kernel_rfl) (one_int _) (by show n + 1 ≤ m * 1; omega) (fun w' H1 => ?_); replace H := H1; clear H1; (try clear hc); (try simp only [nrm, splice, Value.cells, Nat.reduceAdd, Act.eval, Act.put] at H); have hc := H.cells; simp only [CellsOf, KnCells, arr_lit, knAt_cons, knAt_nil, Nat.zero_add, Nat.add_zero, Nat.reduceAdd] at hc; refine hK _ _ (fun h => (h (by decide)).elim) ?_; clear hK K; (try simp only [Act.put, slt]))
      | (refine op_box _ _ rfl H (fun b w' H1 => ?_); replace H := H1; clear H1; (try clear hc); (try simp only [nrm, splice, Value.cells, Nat.reduceAdd, Act.eval, Act.put] at H); have hc := H.cells; simp only [CellsOf, KnCells, arr_lit, knAt_cons, knAt_nil, Nat.zero_add, Nat.add_zero, Nat.reduceAdd] at hc; refine hK _ _ (fun h => (h (by decide)).elim) ?_; clear hK K; (try simp only [Act.put, slt]))
      | (refine op_alloc _ rfl (zero_of _ _ rfl) H (fun b w' H1 => ?_); replace H := H1; clear H1; (try clear hc); (try simp only [nrm, splice, Value.cells, Nat.reduceAdd, Act.eval, Act.put] at H); have hc := H.cells; simp only [CellsOf, KnCells, arr_lit, knAt_cons, knAt_nil, Nat.zero_add, Nat.add_zero, Nat.reduceAdd] at hc; refine hK _ _ (fun h => (h (by decide)).elim) ?_; clear hK K; (try simp only [Act.put, slt]))
      | (refine op_store _ _ _ rfl rfl rfl H (by repeat (first | exact Split.here _ _ | apply Split.there)) (by kernel_rfl) (by kernel_rfl) (by kernel_rfl) (fun w' H1 => ?_); replace H := H1; clear H1; (try clear hc); (try simp only [nrm, splice, Value.cells, Nat.reduceAdd, Act.eval, Act.put] at H); have hc := H.cells; simp only [CellsOf, KnCells, arr_lit, knAt_cons, knAt_nil, Nat.zero_add, Nat.add_zero, Nat.reduceAdd] at hc; refine hK _ _ (fun h => (h (by decide)).elim) ?_; clear hK K; (try simp only [Act.put, slt]))
      | (refine op_buildSlice_all _ _ _ rfl (by first | exact elem22 | exact elem25 | exact elem26 | exact elem29) (by kernel_rfl) (by kernel_rfl) (by kernel_rfl) H (fun b w' H1 => ?_); replace H := H1; clear H1; (try clear hc); (try simp only [nrm, splice, Value.cells, Nat.reduceAdd, Act.eval, Act.put] at H); have hc := H.cells; simp only [CellsOf, KnCells, arr_lit, knAt_cons, knAt_nil, Nat.zero_add, Nat.add_zero, Nat.reduceAdd] at hc; refine hK _ _ (fun h => (h (by decide)).elim) ?_; clear hK K; (try simp only [Act.put, slt]))
    refine plan_done ?_
    go_wp2_with (first
    | (refine loud_ rfl ?_; refine wpList_plain rfl (fun K hK => ?_); first
      | (refine op_box _ _ rfl H (fun b w' H1 => hK _ _ ?_); clear hK K; replace H := H1; clear H1; (try clear hc); (try simp only [nrm, splice, Value.cells, Nat.reduceAdd, Act.eval, Act.put] at H); have hc := H.cells; simp only [CellsOf, KnCells, arr_lit, knAt_cons, knAt_nil, Nat.zero_add, Nat.add_zero, Nat.reduceAdd] at hc)
      | (refine op_alloc _ rfl (zero_of _ _ rfl) H (fun b w' H1 => hK _ _ ?_); clear hK K; replace H := H1; clear H1; (try clear hc); (try simp only [nrm, splice, Value.cells, Nat.reduceAdd, Act.eval, Act.put] at H); have hc := H.cells; simp only [CellsOf, KnCells, arr_lit, knAt_cons, knAt_nil, Nat.zero_add, Nat.add_zero, Nat.reduceAdd] at hc)
      | (refine op_store _ _ _ rfl rfl rfl H (by repeat (first | exact Split.here _ _ | apply Split.there)) (by kernel_rfl) (by kernel_rfl) (by kernel_rfl) (fun w' H1 => hK _ _ ?_); clear hK K; replace H := H1; clear H1; (try clear hc); (try simp only [nrm, splice, Value.cells, Nat.reduceAdd, Act.eval, Act.put] at H); have hc := H.cells; simp only [CellsOf, KnCells, arr_lit, knAt_cons, knAt_nil, Nat.zero_add, Nat.add_zero, Nat.reduceAdd] at hc)
      | (refine op_buildSlice_all _ _ _ rfl (by first | exact elem22 | exact elem25 | exact elem26 | exact elem29) (by kernel_rfl) (by kernel_rfl) (by kernel_rfl) H (fun b w' H1 => hK _ _ ?_); clear hK K; replace H := H1; clear H1; (try clear hc); (try simp only [nrm, splice, Value.cells, Nat.reduceAdd, Act.eval, Act.put] at H); have hc := H.cells; simp only [CellsOf, KnCells, arr_lit, knAt_cons, knAt_nil, Nat.zero_add, Nat.add_zero, Nat.reduceAdd] at hc)))
    go_end0
    rw [rows_full2 hd.out hnr.out hm2] at H
    exact ⟨rfl, ko, H.sel (by repeat (first | exact Sel.nil _ | (apply Sel.cons; focus (repeat (first | exact Split.here _ _ | apply Split.there)))))⟩

end Go.Proofs.Ytlikpgidjdjgnaa
