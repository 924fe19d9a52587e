import Derived.Test.YtlikpgidjdjgnaaRingP
-- MORE
namespace Go.Proofs.Ytlikpgidjdjgnaa
set_option linter.unusedVariables false
set_option linter.unusedSimpArgs false
set_option linter.unnecessarySimpa false
open Go.RowKit Go.V

abbrev gents (o : Option Int) (br kb n beg rd : Nat) (data : List Int) : List Ent := [(true, .is br (gobj o kb n beg rd)), (true, .row (some kb) 3 1 n n (ints data))]
def more (n : Nat) (q : List Int) : Nat := if q.length = n then (if n = 0 then 16 else 2 * n) else n
theorem gwrite_calls (o : Option Int) (br kb n beg : Nat) (data q : List Int) (v : Int) (S : List Nat) (w : World) (h : GInv n beg data q) (hn : n ≤ 1000000) (H : St S w w (gents o br kb n beg q.length data)) :
    Calls Try.prog 46 #[.pointer (some ⟨br, 0, none⟩), .int .i64 v] w fun e w' => ∃ kb' beg' data', GInv (more n q) beg' data' (q ++ [v]) ∧ e = .returned (.tuple #[]) ∧ St S w w' (gents o br kb' (more n q) beg' (q.length + 1) data') := by
  by_cases hf : q.length = n
  · unfold more
    rw [if_pos hf]
    by_cases h0 : n = 0
    · subst h0
      rw [if_pos rfl]
      have hb : beg = 0 := by have := h.at'; omega
      have hd : data = [] := List.eq_nil_of_length_eq_zero h.len
      subst hb hd
      rw [hf] at H ⊢
      refine (gwrite_full0 o br kb v S w H).mono ?_
      rintro e w' ⟨ko, rfl, H'⟩
      exact ⟨ko, 0, _, ginv_full h hf (by omega), rfl, H'⟩
    · rw [if_neg h0, hf]
      rw [hf] at H
      have hb : beg < n := by have := h.at'; omega
      by_cases hb0 : beg = 0
      · subst hb0
        refine (gwrite_full1 o br kb n (2 * n) data v S w hn (by omega) rfl h.len H).mono ?_
        rintro e w' ⟨ko, rfl, H'⟩
        exact ⟨ko, 0, _, ginv_full h hf (by omega), rfl, H'⟩
      · refine (gwrite_full2 o br kb n (2 * n) (n - beg) (beg + n) beg data v S w hn (by omega) (by omega) (by show n = _; omega) rfl rfl h.len H).mono ?_
        rintro e w' ⟨ko, rfl, H'⟩
        exact ⟨ko, 0, _, ginv_full h hf (by omega), rfl, H'⟩
  · unfold more
    rw [if_neg hf]
    have hl := h.fits
    have hb : beg < n := by have := h.at'; omega
    refine (gwrite_room o br kb n beg q.length ((q.length + beg) % n) data v S w hn (by omega) hb (Nat.mod_lt _ (by omega)) rfl h.len H).mono ?_
    rintro e w' ⟨rfl, H'⟩
    exact ⟨kb, beg, _, ginv_room h (by omega) rfl, rfl, H'⟩
theorem gread_calls (o : Option Int) (br kb n beg : Nat) (data q : List Int) (x : Int) (S : List Nat) (w : World) (h : GInv n beg data (x :: q)) (hn : n ≤ 1000000) (H : St S w w (gents o br kb n beg (x :: q).length data)) :
    Calls Try.prog 45 #[.pointer (some ⟨br, 0, none⟩)] w fun e w' => ∃ beg' data', GInv n beg' data' q ∧ e = .returned (.tuple #[.int .i64 x, .bool true]) ∧ St S w w' (gents o br kb n beg' q.length data') := by
  obtain ⟨h1, h2⟩ := ginv_first h
  have hl := h.fits
  simp only [List.length_cons] at hl
  refine (gread_some o br kb n beg q.length x data S w hn (by omega) h1 h2 h.len H).mono ?_
  rintro e w' ⟨rfl, H'⟩
  exact ⟨_, _, ginv_read h, rfl, H'⟩

theorem rwrite_calls (m br kb n beg : Nat) (data q : List Int) (v : Int) (S : List Nat) (w : World) (h : GInv n beg data q) (hn : n ≤ 1000000) (H : St S w w (gents (some m) br kb n beg q.length data)) :
    Calls Try.prog 50 #[.pointer (some ⟨br, 0, none⟩), .int .i64 v] w fun e w' => ∃ kb' beg' data', GInv (more n q) beg' data' (q ++ [v]) ∧ e = .returned (.tuple #[]) ∧ St S w w' (gents (some m) br kb' (more n q) beg' (q.length + 1) data') := by
  go_enter Try.func50, Try.ntmps50
  go_wp2_with (first
    | (go_at_call 46; refine Calls.mono (gwrite_calls (some m) _ _ _ _ _ q _ _ _ h hn (H.pick (by repeat (first | exact Picks.nil _ | (apply Picks.wr; focus (repeat (first | exact Split.here _ _ | apply Split.there))) | (apply Picks.rd; focus (repeat (first | exact Split.here _ _ | apply Split.there))))))) ?_; rintro e w' ⟨kb', beg', data', hg, rfl, H'⟩; replace H := H.merge (by first | exact Strikes.nil _ | (repeat (first | exact Strikes.nil _ | (apply Strikes.cons; focus (repeat (first | exact Split.here _ _ | apply Split.there)))))) H' rfl; clear H'; (try clear hc); (try simp only [nrm, splice, Value.cells, Nat.reduceAdd, Act.eval, Act.put] at H); have hc := H.cells; simp only [CellsOf, KnCells, arr_lit, knAt_cons, knAt_nil, Nat.zero_add, Nat.add_zero, Nat.reduceAdd] at hc)
    | (refine loud_ rfl ?_; refine wpList_plain rfl (fun K hK => ?_); first
      | (refine op_box _ _ rfl H (fun b w' H1 => hK _ _ ?_); clear hK K; replace H := H1; clear H1; (try clear hc); (try simp only [nrm, splice, Value.cells, Nat.reduceAdd, Act.eval, Act.put] at H); have hc := H.cells; simp only [CellsOf, KnCells, arr_lit, knAt_cons, knAt_nil, Nat.zero_add, Nat.add_zero, Nat.reduceAdd] at hc)
      | (refine op_alloc _ rfl (zero_of _ _ rfl) H (fun b w' H1 => hK _ _ ?_); clear hK K; replace H := H1; clear H1; (try clear hc); (try simp only [nrm, splice, Value.cells, Nat.reduceAdd, Act.eval, Act.put] at H); have hc := H.cells; simp only [CellsOf, KnCells, arr_lit, knAt_cons, knAt_nil, Nat.zero_add, Nat.add_zero, Nat.reduceAdd] at hc)
      | (refine op_store _ _ _ rfl rfl rfl H (by repeat (first | exact Split.here _ _ | apply Split.there)) (by kernel_rfl) (by kernel_rfl) (by kernel_rfl) (fun w' H1 => hK _ _ ?_); clear hK K; replace H := H1; clear H1; (try clear hc); (try simp only [nrm, splice, Value.cells, Nat.reduceAdd, Act.eval, Act.put] at H); have hc := H.cells; simp only [CellsOf, KnCells, arr_lit, knAt_cons, knAt_nil, Nat.zero_add, Nat.add_zero, Nat.reduceAdd] at hc)
      | (refine op_buildSlice_all _ _ _ rfl (by first | exact elem22 | exact elem25 | exact elem26 | exact elem29) (by kernel_rfl) (by kernel_rfl) (by kernel_rfl) H (fun b w' H1 => hK _ _ ?_); clear hK K; replace H := H1; clear H1; (try clear hc); (try simp only [nrm, splice, Value.cells, Nat.reduceAdd, Act.eval, Act.put] at H); have hc := H.cells; simp only [CellsOf, KnCells, arr_lit, knAt_cons, knAt_nil, Nat.zero_add, Nat.add_zero, Nat.reduceAdd] at hc)))
  go_end0
  exact ⟨kb', beg', data', hg, rfl, H⟩
theorem rlen_calls (m br kb n beg rd : Nat) (w : World) (h : w.heap[br]? = some (gobj (some m) kb n beg rd)) :
    Calls Try.prog 48 #[.pointer (some ⟨br, 0, none⟩)] w fun e w' => e = .returned (.int .i64 rd) ∧ Ext [] w w' := by
  have H := (St.init [] w).read (.is br _) h (by simp)
  go_enter Try.func48, Try.ntmps48
  go_wp2_with (first
    | (go_at_call 44; refine Calls.mono (glen_calls (some m) _ _ _ _ _ _ (H.obj (Split.here _ _))) ?_; rintro e w' ⟨rfl, H'⟩; replace H := H.of_ext H'; clear H'; (try clear hc); (try simp only [nrm, splice, Value.cells, Nat.reduceAdd, Act.eval, Act.put] at H); have hc := H.cells; simp only [CellsOf, KnCells, arr_lit, knAt_cons, knAt_nil, Nat.zero_add, Nat.add_zero, Nat.reduceAdd] at hc)
    | (refine loud_ rfl ?_; refine wpList_plain rfl (fun K hK => ?_); first
      | (refine op_box _ _ rfl H (fun b w' H1 => hK _ _ ?_); clear hK K; replace H := H1; clear H1; (try clear hc); (try simp only [nrm, splice, Value.cells, Nat.reduceAdd, Act.eval, Act.put] at H); have hc := H.cells; simp only [CellsOf, KnCells, arr_lit, knAt_cons, knAt_nil, Nat.zero_add, Nat.add_zero, Nat.reduceAdd] at hc)
      | (refine op_alloc _ rfl (zero_of _ _ rfl) H (fun b w' H1 => hK _ _ ?_); clear hK K; replace H := H1; clear H1; (try clear hc); (try simp only [nrm, splice, Value.cells, Nat.reduceAdd, Act.eval, Act.put] at H); have hc := H.cells; simp only [CellsOf, KnCells, arr_lit, knAt_cons, knAt_nil, Nat.zero_add, Nat.add_zero, Nat.reduceAdd] at hc)
      | (refine op_store _ _ _ rfl rfl rfl H (by repeat (first | exact Split.here _ _ | apply Split.there)) (by kernel_rfl) (by kernel_rfl) (by kernel_rfl) (fun w' H1 => hK _ _ ?_); clear hK K; replace H := H1; clear H1; (try clear hc); (try simp only [nrm, splice, Value.cells, Nat.reduceAdd, Act.eval, Act.put] at H); have hc := H.cells; simp only [CellsOf, KnCells, arr_lit, knAt_cons, knAt_nil, Nat.zero_add, Nat.add_zero, Nat.reduceAdd] at hc)
      | (refine op_buildSlice_all _ _ _ rfl (by first | exact elem22 | exact elem25 | exact elem26 | exact elem29) (by kernel_rfl) (by kernel_rfl) (by kernel_rfl) H (fun b w' H1 => hK _ _ ?_); clear hK K; replace H := H1; clear H1; (try clear hc); (try simp only [nrm, splice, Value.cells, Nat.reduceAdd, Act.eval, Act.put] at H); have hc := H.cells; simp only [CellsOf, KnCells, arr_lit, knAt_cons, knAt_nil, Nat.zero_add, Nat.add_zero, Nat.reduceAdd] at hc)))
  go_ret
  exact ⟨rfl, H.ext⟩
theorem rcap_calls (m br kb n beg rd : Nat) (w : World) (h : w.heap[br]? = some (gobj (some m) kb n beg rd)) :
    Calls Try.prog 47 #[.pointer (some ⟨br, 0, none⟩)] w fun e w' => e = .returned (.int .i64 n) ∧ Ext [] w w' := by
  have H := (St.init [] w).read (.is br _) h (by simp)
  go_enter Try.func47, Try.ntmps47
  go_wp2_with (first
    | (go_at_call 43; refine Calls.mono (gcap_calls (some m) _ _ _ _ _ _ (H.obj (Split.here _ _))) ?_; rintro e w' ⟨rfl, H'⟩; replace H := H.of_ext H'; clear H'; (try clear hc); (try simp only [nrm, splice, Value.cells, Nat.reduceAdd, Act.eval, Act.put] at H); have hc := H.cells; simp only [CellsOf, KnCells, arr_lit, knAt_cons, knAt_nil, Nat.zero_add, Nat.add_zero, Nat.reduceAdd] at hc)
    | (refine loud_ rfl ?_; refine wpList_plain rfl (fun K hK => ?_); first
      | (refine op_box _ _ rfl H (fun b w' H1 => hK _ _ ?_); clear hK K; replace H := H1; clear H1; (try clear hc); (try simp only [nrm, splice, Value.cells, Nat.reduceAdd, Act.eval, Act.put] at H); have hc := H.cells; simp only [CellsOf, KnCells, arr_lit, knAt_cons, knAt_nil, Nat.zero_add, Nat.add_zero, Nat.reduceAdd] at hc)
      | (refine op_alloc _ rfl (zero_of _ _ rfl) H (fun b w' H1 => hK _ _ ?_); clear hK K; replace H := H1; clear H1; (try clear hc); (try simp only [nrm, splice, Value.cells, Nat.reduceAdd, Act.eval, Act.put] at H); have hc := H.cells; simp only [CellsOf, KnCells, arr_lit, knAt_cons, knAt_nil, Nat.zero_add, Nat.add_zero, Nat.reduceAdd] at hc)
      | (refine op_store _ _ _ rfl rfl rfl H (by repeat (first | exact Split.here _ _ | apply Split.there)) (by kernel_rfl) (by kernel_rfl) (by kernel_rfl) (fun w' H1 => hK _ _ ?_); clear hK K; replace H := H1; clear H1; (try clear hc); (try simp only [nrm, splice, Value.cells, Nat.reduceAdd, Act.eval, Act.put] at H); have hc := H.cells; simp only [CellsOf, KnCells, arr_lit, knAt_cons, knAt_nil, Nat.zero_add, Nat.add_zero, Nat.reduceAdd] at hc)
      | (refine op_buildSlice_all _ _ _ rfl (by first | exact elem22 | exact elem25 | exact elem26 | exact elem29) (by kernel_rfl) (by kernel_rfl) (by kernel_rfl) H (fun b w' H1 => hK _ _ ?_); clear hK K; replace H := H1; clear H1; (try clear hc); (try simp only [nrm, splice, Value.cells, Nat.reduceAdd, Act.eval, Act.put] at H); have hc := H.cells; simp only [CellsOf, KnCells, arr_lit, knAt_cons, knAt_nil, Nat.zero_add, Nat.add_zero, Nat.reduceAdd] at hc)))
  go_ret
  exact ⟨rfl, H.ext⟩

end Go.Proofs.Ytlikpgidjdjgnaa
