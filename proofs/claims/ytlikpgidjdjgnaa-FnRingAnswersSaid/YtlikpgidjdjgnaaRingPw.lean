import Derived.Test.YtlikpgidjdjgnaaRingO
-- MORE
namespace Go.Proofs.Ytlikpgidjdjgnaa
set_option linter.unusedVariables false
set_option linter.unusedSimpArgs false
set_option linter.unnecessarySimpa false
open Go.RowKit Go.V

set_option maxHeartbeats 2000000 in
theorem qdo_write (qb : Nat) (kind : Int) (places normal n qc total : Nat) (qs : Option Addr) (q : List Int) (src : Option Addr) (k cap : Nat) (v : List Int) (S : List Nat) (w : World) (hq : Hid (q.length = n)) (hs : Hid (qs = none → n = 0)) (hn : n ≤ 100000) (ht : total ≤ 100000) (hp : places ≤ 100000) (hqc : Hid (n ≤ qc)) (hsrc : Hid (src = none → k = 0)) (hv : Hid (v.length = k)) (hb1 : n + k ≤ 10000) (hb2 : total + k ≤ 10000) (hb3 : places ≤ 10000)
    (H : St S w w ((false, soft src (ints v)) :: qents qb kind places normal qs n qc total q)) :
    Calls Try.prog 11 #[.pointer (some ⟨qb, 0, none⟩), .agg #[.int .i64 1, .slice src k cap]] w (QTold qb kind normal ⟨places, q, total⟩ 1 v S w) := by
  simp only [qents, qobj] at H
  have hc := H.cells; simp only [CellsOf, KnCells, arr_lit, knAt_cons, knAt_nil, Nat.zero_add, Nat.add_zero, Nat.reduceAdd] at hc
  go_enter Try.func11, Try.ntmps11
  go_wp2_with (first
    | (refine loud_ rfl ?_; refine wpList_plain rfl (fun K hK => ?_); first
      | (refine op_box _ _ rfl H (fun b w' H1 => hK _ _ ?_); clear hK K; replace H := H1; clear H1; (try clear hc); (try simp only [nrm, splice, Value.cells, Nat.reduceAdd, Act.eval, Act.put] at H); have hc := H.cells; simp only [CellsOf, KnCells, arr_lit, knAt_cons, knAt_nil, Nat.zero_add, Nat.add_zero, Nat.reduceAdd] at hc)
      | (refine op_alloc _ rfl (zero_of _ _ rfl) H (fun b w' H1 => hK _ _ ?_); clear hK K; replace H := H1; clear H1; (try clear hc); (try simp only [nrm, splice, Value.cells, Nat.reduceAdd, Act.eval, Act.put] at H); have hc := H.cells; simp only [CellsOf, KnCells, arr_lit, knAt_cons, knAt_nil, Nat.zero_add, Nat.add_zero, Nat.reduceAdd] at hc)
      | (refine op_store _ _ _ rfl rfl rfl H (by repeat (first | exact Split.here _ _ | apply Split.there)) (by kernel_rfl) (by kernel_rfl) (by kernel_rfl) (fun w' H1 => hK _ _ ?_); clear hK K; replace H := H1; clear H1; (try clear hc); (try simp only [nrm, splice, Value.cells, Nat.reduceAdd, Act.eval, Act.put] at H); have hc := H.cells; simp only [CellsOf, KnCells, arr_lit, knAt_cons, knAt_nil, Nat.zero_add, Nat.add_zero, Nat.reduceAdd] at hc)
      | (refine op_buildSlice_all _ _ _ rfl (by first | exact elem22 | exact elem25 | exact elem26 | exact elem29) (by kernel_rfl) (by kernel_rfl) (by kernel_rfl) H (fun b w' H1 => hK _ _ ?_); clear hK K; replace H := H1; clear H1; (try clear hc); (try simp only [nrm, splice, Value.cells, Nat.reduceAdd, Act.eval, Act.put] at H); have hc := H.cells; simp only [CellsOf, KnCells, arr_lit, knAt_cons, knAt_nil, Nat.zero_add, Nat.add_zero, Nat.reduceAdd] at hc)))
  rename_i bo w1 bx w2 K1 a1
  have hbd : Hid (∀ j, j ≤ k → ((QM.mk places q total).writes kind (v.take j)).q.length ≤ 10000 ∧ ((QM.mk places q total).writes kind (v.take j)).total ≤ 10000 ∧ ((QM.mk places q total).writes kind (v.take j)).places ≤ 50000) := by
    show ∀ j, _
    intro j hj
    have h1 := QM.writes_le kind (v.take j) (QM.mk places q total)
    have h2 : (v.take j).length ≤ k := by rw [List.length_take, hv.out]; omega
    have h3 := hq.out
    simp only at h1
    omega
  go_loopw [15] (fun i wr => ∃ (j qc' : Nat) (qs' : Option Addr), j ≤ k ∧ i = .int .i64 j ∧ Hid (((QM.mk places q total).writes kind (v.take j)).q.length ≤ qc') ∧ Hid (qs' = none → ((QM.mk places q total).writes kind (v.take j)).q.length = 0) ∧
      St S w wr ([(true, .is b (.cells #[.bool false, .int .i64 0, .slice none 0 0] 34 (0, 0))), (true, .is bx (.cells #[.bool false, .int .i64 0, .slice none 0 0] 34 (0, 0))),
        (true, .is bo (.cells #[.int .i64 1, .slice src k cap] 28 (0, 0))), (false, soft src (ints v))] ++ qents qb kind ((QM.mk places q total).writes kind (v.take j)).places normal qs' ((QM.mk places q total).writes kind (v.take j)).q.length qc' ((QM.mk places q total).writes kind (v.take j)).total ((QM.mk places q total).writes kind (v.take j)).q)) (fun i _ => k - (intOf i).toNat)
  case atStart => exact ⟨0, qc, qs, Nat.zero_le _, rfl, (by have h1 := hq.out; have h2 := hqc.out; show q.length ≤ qc; omega), (fun h => by have h1 := hq.out; have h2 := hs.out h; show q.length = 0; omega), (by have e := hq.out; show St S w _ (_ ++ qents qb kind places normal qs q.length qc total q); rw [e]; exact H.sel (by repeat (first | exact Sel.nil _ | (apply Sel.cons; focus (repeat (first | exact Split.here _ _ | apply Split.there))))))⟩
  case round =>
    clear H hc
    obtain ⟨j, qc', qs', hj, rfl, hqc', hs', H⟩ := hrel
    obtain ⟨h1, h2, h3⟩ := hbd.out j hj
    by_cases hlt : j < k
    · have hjv : j < v.length := by rw [hv.out]; exact hlt
      obtain ⟨sb, so, rfl⟩ := lies_some (H.lies (Split.there _ (Split.there _ (Split.there _ (Split.here _ _))))) (by omega)
      have hs1 : Hid (v.take (j + 1) = v.take j ++ [v[j]]) := (List.take_append_getElem hjv).symm
      have hx : ∀ w : World, Lies w (some ⟨sb, so, none⟩) (ints v) → w.cell? ⟨sb, so + j, none⟩ = some (.int .i64 v[j]) := fun w h => lies_cell h j hjv
      generalize v[j] = x at *
      obtain ⟨m, hm⟩ : ∃ m, (QM.mk places q total).writes kind (v.take j) = m := ⟨_, rfl⟩
      rw [hm] at H h1 h2 h3 hs'
      clear hqc'
      have hm' := Lib.hid hm
      clear hm
      simp only [List.cons_append, List.nil_append] at H
      replace H := H.cellAt (Split.there _ (Split.there _ (Split.there _ (Split.here _ _)))) hjv hx
      clear hx
      obtain ⟨ml, hml⟩ : ∃ ml, m.q.length = ml := ⟨_, rfl⟩
      rw [hml] at H h1 hs'
      have hml' := Lib.hid hml
      clear hml
      simp only [qents, qobj] at H
      have hc := H.cells; simp only [CellsOf, KnCells, arr_lit, knAt_cons, knAt_nil, Nat.zero_add, Nat.add_zero, Nat.reduceAdd] at hc
      repeat' (first | (go_big_may; (first
    | (go_at_call 19; refine Calls.mono (qwrite_any qb kind normal qc' m qs' x _ _ ml hml'.out hs'.out (by omega) (by omega) (by omega) (H.pick (by repeat (first | exact Picks.nil _ | (apply Picks.wr; focus (repeat (first | exact Split.here _ _ | apply Split.there))) | (apply Picks.rd; focus (repeat (first | exact Split.here _ _ | apply Split.there))))))) ?_; rintro e w' ⟨ad, qc2, hqc2, rfl, H'⟩; replace H := H.merge (by first | exact Strikes.nil _ | (repeat (first | exact Strikes.nil _ | (apply Strikes.cons; focus (repeat (first | exact Split.here _ _ | apply Split.there)))))) H' rfl; clear H'; (try clear hc); (try simp only [nrm, splice, Value.cells, Nat.reduceAdd, Act.eval, Act.put] at H); have hc := H.cells; simp only [CellsOf, KnCells, arr_lit, knAt_cons, knAt_nil, Nat.zero_add, Nat.add_zero, Nat.reduceAdd] at hc)
    | (refine loud_ rfl ?_; refine wpList_plain rfl (fun K hK => ?_); first
      | (refine op_box _ _ rfl H (fun b w' H1 => hK _ _ ?_); clear hK K; replace H := H1; clear H1; (try clear hc); (try simp only [nrm, splice, Value.cells, Nat.reduceAdd, Act.eval, Act.put] at H); have hc := H.cells; simp only [CellsOf, KnCells, arr_lit, knAt_cons, knAt_nil, Nat.zero_add, Nat.add_zero, Nat.reduceAdd] at hc)
      | (refine op_alloc _ rfl (zero_of _ _ rfl) H (fun b w' H1 => hK _ _ ?_); clear hK K; replace H := H1; clear H1; (try clear hc); (try simp only [nrm, splice, Value.cells, Nat.reduceAdd, Act.eval, Act.put] at H); have hc := H.cells; simp only [CellsOf, KnCells, arr_lit, knAt_cons, knAt_nil, Nat.zero_add, Nat.add_zero, Nat.reduceAdd] at hc)
      | (refine op_store _ _ _ rfl rfl rfl H (by repeat (first | exact Split.here _ _ | apply Split.there)) (by kernel_rfl) (by kernel_rfl) (by kernel_rfl) (fun w' H1 => hK _ _ ?_); clear hK K; replace H := H1; clear H1; (try clear hc); (try simp only [nrm, splice, Value.cells, Nat.reduceAdd, Act.eval, Act.put] at H); have hc := H.cells; simp only [CellsOf, KnCells, arr_lit, knAt_cons, knAt_nil, Nat.zero_add, Nat.add_zero, Nat.reduceAdd] at hc)
      | (refine op_buildSlice_all _ _ _ rfl (by first | exact elem22 | exact elem25 | exact elem26 | exact elem29) (by kernel_rfl) (by kernel_rfl) (by kernel_rfl) H (fun b w' H1 => hK _ _ ?_); clear hK K; replace H := H1; clear H1; (try clear hc); (try simp only [nrm, splice, Value.cells, Nat.reduceAdd, Act.eval, Act.put] at H); have hc := H.cells; simp only [CellsOf, KnCells, arr_lit, knAt_cons, knAt_nil, Nat.zero_add, Nat.add_zero, Nat.reduceAdd] at hc)))) | go_values | go_skip | go_guarded | go_step | go_upon | go_back | dsimp only)
      refine ⟨⟨j + 1, qc2, some ad, by omega, by go_num, (by rw [hs1.out, QM.writes_snoc, hm'.out]; exact hqc2), fun h => (by cases h), ?_⟩, by simp [intOf]; omega⟩
      rw [hs1.out, QM.writes_snoc, hm'.out]
      exact H.sel (by repeat (first | exact Sel.nil _ | (apply Sel.cons; focus (repeat (first | exact Split.here _ _ | apply Split.there)))))
    · obtain rfl : j = k := by omega
      rw [List.take_of_length_le (by rw [hv.out]; omega)] at hs' hqc' H
      simp only [List.cons_append, List.nil_append] at H
      have hc := H.cells; simp only [CellsOf, KnCells, arr_lit, knAt_cons, knAt_nil, Nat.zero_add, Nat.add_zero, Nat.reduceAdd] at hc
      repeat' (first | (go_big_may; (first
    | (refine loud_ rfl ?_; refine wpList_plain rfl (fun K hK => ?_); first
      | (refine op_box _ _ rfl H (fun b w' H1 => hK _ _ ?_); clear hK K; replace H := H1; clear H1; (try clear hc); (try simp only [nrm, splice, Value.cells, Nat.reduceAdd, Act.eval, Act.put] at H); have hc := H.cells; simp only [CellsOf, KnCells, arr_lit, knAt_cons, knAt_nil, Nat.zero_add, Nat.add_zero, Nat.reduceAdd] at hc)
      | (refine op_alloc _ rfl (zero_of _ _ rfl) H (fun b w' H1 => hK _ _ ?_); clear hK K; replace H := H1; clear H1; (try clear hc); (try simp only [nrm, splice, Value.cells, Nat.reduceAdd, Act.eval, Act.put] at H); have hc := H.cells; simp only [CellsOf, KnCells, arr_lit, knAt_cons, knAt_nil, Nat.zero_add, Nat.add_zero, Nat.reduceAdd] at hc)
      | (refine op_store _ _ _ rfl rfl rfl H (by repeat (first | exact Split.here _ _ | apply Split.there)) (by kernel_rfl) (by kernel_rfl) (by kernel_rfl) (fun w' H1 => hK _ _ ?_); clear hK K; replace H := H1; clear H1; (try clear hc); (try simp only [nrm, splice, Value.cells, Nat.reduceAdd, Act.eval, Act.put] at H); have hc := H.cells; simp only [CellsOf, KnCells, arr_lit, knAt_cons, knAt_nil, Nat.zero_add, Nat.add_zero, Nat.reduceAdd] at hc)
      | (refine op_buildSlice_all _ _ _ rfl (by first | exact elem22 | exact elem25 | exact elem26 | exact elem29) (by kernel_rfl) (by kernel_rfl) (by kernel_rfl) H (fun b w' H1 => hK _ _ ?_); clear hK K; replace H := H1; clear H1; (try clear hc); (try simp only [nrm, splice, Value.cells, Nat.reduceAdd, Act.eval, Act.put] at H); have hc := H.cells; simp only [CellsOf, KnCells, arr_lit, knAt_cons, knAt_nil, Nat.zero_add, Nat.add_zero, Nat.reduceAdd] at hc)))) | go_values | go_skip | go_guarded | go_step | go_upon | go_back | dsimp only)
      exact bodyPost_ret (v := .agg #[.bool false, .int .i64 0, .slice none 0 0]) (by simp [results, Try.results11, go_sem, hc, Act.put]; try rfl) rfl ⟨none, 0, 0, qs', qc', rfl, hqc'.out, hs'.out, rfl, (H.nilRow 3 1).sel (by repeat (first | exact Sel.nil _ | (apply Sel.cons; focus (repeat (first | exact Split.here _ _ | apply Split.there)))))⟩
end Go.Proofs.Ytlikpgidjdjgnaa
