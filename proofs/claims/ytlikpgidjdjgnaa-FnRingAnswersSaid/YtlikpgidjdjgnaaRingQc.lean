import Derived.Test.YtlikpgidjdjgnaaRingM
import Derived.Test.YtlikpgidjdjgnaaRingPw
import Derived.Test.YtlikpgidjdjgnaaRingQa
import Derived.Test.YtlikpgidjdjgnaaRingQb2
-- MORE
namespace Go.Proofs.Ytlikpgidjdjgnaa
set_option linter.unusedVariables false
set_option linter.unusedSimpArgs false
set_option linter.unnecessarySimpa false
open Go.RowKit Go.V

theorem qdo_any (qb : Nat) (kind : Int) (hk : kind = 0 ∨ kind = 1 ∨ kind = 2) (normal qc n : Nat) (m : QM) (op : Int) (qs : Option Addr) (src : Option Addr) (k cap : Nat) (v : List Int) (S : List Nat) (w : World)
    (hq : Hid (m.q.length = n)) (hs : Hid (qs = none → n = 0)) (hqc : Hid (n ≤ qc)) (hsrc : Hid (src = none → k = 0)) (hv : Hid (v.length = k)) (hb1 : op = 1 → n + k ≤ 10000) (hb2 : op = 1 → m.total + k ≤ 10000) (hb3 : m.places ≤ 10000) (hn : n ≤ 10000) (ht : m.total ≤ 10000)
    (H : St S w w ((false, soft src (ints v)) :: qents qb kind m.places normal qs n qc m.total m.q)) :
    Calls Try.prog 11 #[.pointer (some ⟨qb, 0, none⟩), .agg #[.int .i64 op, .slice src k cap]] w (QTold qb kind normal m op v S w) := by
  obtain ⟨places, q, total⟩ := m
  simp only at hb2 hb3 hq ht H
  have H2 : St S w w (qents qb kind places normal qs n qc total q) := H.sublist (.cons _ (.refl _))
  by_cases k1 : op = 1
  · have e1 := hb1 k1
    have e2 := hb2 k1
    subst k1
    exact qdo_write qb kind places normal n qc total qs q src k cap v S w hq hs (by omega) (by omega) (by omega) hqc hsrc hv e1 e2 hb3 H
  by_cases k2 : op = 2
  · subst k2
    cases q with
    | nil =>
      obtain rfl : n = 0 := hq.out.symm
      rcases hk with hk | hk | hk
      · exact qdo_read0_0 qb kind places normal qc total qs src k cap v S w (by omega) (by omega) hk H2
      · by_cases hlt : normal < places
        · exact qdo_read0_1a qb kind places normal qc total qs src k cap v S w (by omega) (by omega) hk hlt H2
        · exact qdo_read0_1b qb kind places normal qc total qs src k cap v S w (by omega) (by omega) hk hlt H2
      · exact qdo_read0_2 qb kind places normal qc total qs src k cap v S w (by omega) (by omega) hk H2
    | cons x q =>
      obtain ⟨qb2, qo, rfl⟩ := lies_some (H2.lies (.there _ (.here _ _))) (by simp)
      have hqcn := hqc.out
      obtain ⟨n', rfl⟩ : ∃ n', n = n' + 1 := ⟨q.length, hq.out.symm⟩
      have hq' : q.length = n' := by have := hq.out; simp at this; exact this
      by_cases hq1 : qc = 1
      · obtain rfl : n' = 0 := by omega
        obtain rfl : q = [] := List.eq_nil_of_length_eq_zero hq'
        subst hq1
        rcases hk with hk | hk | hk
        · exact qdo_readA_0 qb kind places normal total qb2 qo x src k cap v S w (by omega) (by omega) hk H2
        · by_cases hlt : normal < places
          · exact qdo_readA_1lt qb kind places normal total qb2 qo x src k cap v S w (by omega) (by omega) hk hlt H2
          · exact qdo_readA_1ge qb kind places normal total qb2 qo x src k cap v S w (by omega) (by omega) hk hlt H2
        · exact qdo_readA_2 qb kind places normal total qb2 qo x src k cap v S w (by omega) (by omega) hk H2
      · rcases hk with hk | hk | hk
        · exact qdo_readB_0 qb kind places normal n' qc total qb2 qo x q src k cap v S w hq' (by omega) (by omega) (by omega) hqcn hq1 hk H2
        · by_cases hn0 : n' = 0
          · subst hn0
            obtain rfl : q = [] := List.eq_nil_of_length_eq_zero hq'
            by_cases hlt : normal < places
            · exact qdo_readB_1lt qb kind places normal qc total qb2 qo x src k cap v S w (by omega) (by omega) (by omega) hq1 hk hlt H2
            · exact qdo_readB_1ge qb kind places normal qc total qb2 qo x src k cap v S w (by omega) (by omega) (by omega) hq1 hk hlt H2
          · exact qdo_readB_1n qb kind places normal n' qc total qb2 qo x q src k cap v S w hq' (by omega) (by omega) (by omega) hqcn hq1 hk hn0 H2
        · exact qdo_readB_2 qb kind places normal n' qc total qb2 qo x q src k cap v S w hq' (by omega) (by omega) (by omega) hqcn hq1 hk H2
  by_cases k3 : op = 3
  · subst k3
    exact qdo_len qb kind places normal n qc total qs q src k cap v S w hq hs (by omega) (by omega) (by omega) hqc H2
  by_cases k4 : op = 4
  · subst k4
    exact qdo_cap qb kind places normal n qc total qs q src k cap v S w hq hs (by omega) (by omega) (by omega) hqc H2
  by_cases k5 : op = 5
  · subst k5
    exact qdo_slice qb kind places normal n qc total qs q src k cap v S w hq hs (by omega) (by omega) (by omega) hqc H2
  by_cases k6 : op = 6
  · subst k6
    exact qdo_total qb kind places normal n qc total qs q src k cap v S w hq hs (by omega) (by omega) (by omega) hqc H2
  by_cases k7 : op = 7
  · subst k7
    exact qdo_reset qb kind places normal n qc total qs q src k cap v S w hq hs (by omega) (by omega) (by omega) hqc H2
  · exact qdo_rest qb kind places normal n qc total qs q src k cap v S w hq hs (by omega) (by omega) (by omega) hqc op k1 k2 k3 k4 k5 k6 k7 H2

def Fit29 (n : Nat) (w : World) (e : Ending) (w' : World) : Prop := ∃ t, e = .returned (.bool t) ∧ Ext [] w w' ∧ Hid (t = true → n ≤ 2147483647)
theorem fits29_calls (op : Int) (src : Option Addr) (n cap : Nat) (w : World) :
    Calls Try.prog 18 #[.agg #[.int .i64 op, .slice src n cap]] w (Fit29 n w) := by
  have H := St.init [] w
  by_cases hn : (n : Int) ≤ 2147483647
  · go_enter Try.func18, Try.ntmps18
    go_wp2_with (first
    | (refine loud_ rfl ?_; refine wpList_plain rfl (fun K hK => ?_); first
      | (refine op_box _ _ rfl H (fun b w' H1 => hK _ _ ?_); clear hK K; replace H := H1; clear H1; (try clear hc); (try simp only [nrm, splice, Value.cells, Nat.reduceAdd, Act.eval, Act.put] at H); have hc := H.cells; simp only [CellsOf, KnCells, arr_lit, knAt_cons, knAt_nil, Nat.zero_add, Nat.add_zero, Nat.reduceAdd] at hc)
      | (refine op_alloc _ rfl (zero_of _ _ rfl) H (fun b w' H1 => hK _ _ ?_); clear hK K; replace H := H1; clear H1; (try clear hc); (try simp only [nrm, splice, Value.cells, Nat.reduceAdd, Act.eval, Act.put] at H); have hc := H.cells; simp only [CellsOf, KnCells, arr_lit, knAt_cons, knAt_nil, Nat.zero_add, Nat.add_zero, Nat.reduceAdd] at hc)
      | (refine op_store _ _ _ rfl rfl rfl H (by repeat (first | exact Split.here _ _ | apply Split.there)) (by kernel_rfl) (by kernel_rfl) (by kernel_rfl) (fun w' H1 => hK _ _ ?_); clear hK K; replace H := H1; clear H1; (try clear hc); (try simp only [nrm, splice, Value.cells, Nat.reduceAdd, Act.eval, Act.put] at H); have hc := H.cells; simp only [CellsOf, KnCells, arr_lit, knAt_cons, knAt_nil, Nat.zero_add, Nat.add_zero, Nat.reduceAdd] at hc)
      | (refine op_buildSlice_all _ _ _ rfl (by first | exact elem22 | exact elem25 | exact elem26 | exact elem29) (by kernel_rfl) (by kernel_rfl) (by kernel_rfl) H (fun b w' H1 => hK _ _ ?_); clear hK K; replace H := H1; clear H1; (try clear hc); (try simp only [nrm, splice, Value.cells, Nat.reduceAdd, Act.eval, Act.put] at H); have hc := H.cells; simp only [CellsOf, KnCells, arr_lit, knAt_cons, knAt_nil, Nat.zero_add, Nat.add_zero, Nat.reduceAdd] at hc)))
    go_ret
    exact ⟨true, rfl, H.ext, fun _ => by omega⟩
  · go_enter Try.func18, Try.ntmps18
    go_wp2_with (first
    | (refine loud_ rfl ?_; refine wpList_plain rfl (fun K hK => ?_); first
      | (refine op_box _ _ rfl H (fun b w' H1 => hK _ _ ?_); clear hK K; replace H := H1; clear H1; (try clear hc); (try simp only [nrm, splice, Value.cells, Nat.reduceAdd, Act.eval, Act.put] at H); have hc := H.cells; simp only [CellsOf, KnCells, arr_lit, knAt_cons, knAt_nil, Nat.zero_add, Nat.add_zero, Nat.reduceAdd] at hc)
      | (refine op_alloc _ rfl (zero_of _ _ rfl) H (fun b w' H1 => hK _ _ ?_); clear hK K; replace H := H1; clear H1; (try clear hc); (try simp only [nrm, splice, Value.cells, Nat.reduceAdd, Act.eval, Act.put] at H); have hc := H.cells; simp only [CellsOf, KnCells, arr_lit, knAt_cons, knAt_nil, Nat.zero_add, Nat.add_zero, Nat.reduceAdd] at hc)
      | (refine op_store _ _ _ rfl rfl rfl H (by repeat (first | exact Split.here _ _ | apply Split.there)) (by kernel_rfl) (by kernel_rfl) (by kernel_rfl) (fun w' H1 => hK _ _ ?_); clear hK K; replace H := H1; clear H1; (try clear hc); (try simp only [nrm, splice, Value.cells, Nat.reduceAdd, Act.eval, Act.put] at H); have hc := H.cells; simp only [CellsOf, KnCells, arr_lit, knAt_cons, knAt_nil, Nat.zero_add, Nat.add_zero, Nat.reduceAdd] at hc)
      | (refine op_buildSlice_all _ _ _ rfl (by first | exact elem22 | exact elem25 | exact elem26 | exact elem29) (by kernel_rfl) (by kernel_rfl) (by kernel_rfl) H (fun b w' H1 => hK _ _ ?_); clear hK K; replace H := H1; clear H1; (try clear hc); (try simp only [nrm, splice, Value.cells, Nat.reduceAdd, Act.eval, Act.put] at H); have hc := H.cells; simp only [CellsOf, KnCells, arr_lit, knAt_cons, knAt_nil, Nat.zero_add, Nat.add_zero, Nat.reduceAdd] at hc)))
    go_ret
    exact ⟨false, rfl, H.ext, fun h => by cases h⟩
def Fit28 (ops : List ROp) (w : World) (e : Ending) (w' : World) : Prop := ∃ t, Hid (t = true → ∀ o ∈ ops, o.vals.length ≤ 2147483647) ∧ e = .returned (.bool t) ∧ Ext [] w w'
theorem fits28_calls (src : Option Addr) (c : Nat) (ops : List ROp) (n : Nat) (w : World) (hn : Hid (ops.length = n)) (H : St [] w w [(false, soft src (ops.flatMap ROp.cells))]) :
    Calls Try.prog 9 #[.slice src n c] w (Fit28 ops w) := by
  go_enter Try.func9, Try.ntmps9
  go_wp2_with (first
    | (refine loud_ rfl ?_; refine wpList_plain rfl (fun K hK => ?_); first
      | (refine op_box _ _ rfl H (fun b w' H1 => hK _ _ ?_); clear hK K; replace H := H1; clear H1; (try clear hc); (try simp only [nrm, splice, Value.cells, Nat.reduceAdd, Act.eval, Act.put] at H); have hc := H.cells; simp only [CellsOf, KnCells, arr_lit, knAt_cons, knAt_nil, Nat.zero_add, Nat.add_zero, Nat.reduceAdd] at hc)
      | (refine op_alloc _ rfl (zero_of _ _ rfl) H (fun b w' H1 => hK _ _ ?_); clear hK K; replace H := H1; clear H1; (try clear hc); (try simp only [nrm, splice, Value.cells, Nat.reduceAdd, Act.eval, Act.put] at H); have hc := H.cells; simp only [CellsOf, KnCells, arr_lit, knAt_cons, knAt_nil, Nat.zero_add, Nat.add_zero, Nat.reduceAdd] at hc)
      | (refine op_store _ _ _ rfl rfl rfl H (by repeat (first | exact Split.here _ _ | apply Split.there)) (by kernel_rfl) (by kernel_rfl) (by kernel_rfl) (fun w' H1 => hK _ _ ?_); clear hK K; replace H := H1; clear H1; (try clear hc); (try simp only [nrm, splice, Value.cells, Nat.reduceAdd, Act.eval, Act.put] at H); have hc := H.cells; simp only [CellsOf, KnCells, arr_lit, knAt_cons, knAt_nil, Nat.zero_add, Nat.add_zero, Nat.reduceAdd] at hc)
      | (refine op_buildSlice_all _ _ _ rfl (by first | exact elem22 | exact elem25 | exact elem26 | exact elem29) (by kernel_rfl) (by kernel_rfl) (by kernel_rfl) H (fun b w' H1 => hK _ _ ?_); clear hK K; replace H := H1; clear H1; (try clear hc); (try simp only [nrm, splice, Value.cells, Nat.reduceAdd, Act.eval, Act.put] at H); have hc := H.cells; simp only [CellsOf, KnCells, arr_lit, knAt_cons, knAt_nil, Nat.zero_add, Nat.add_zero, Nat.reduceAdd] at hc)))
  · go_ret
    exact ⟨false, (fun h => by cases h), rfl, H.ext⟩
  · go_loopw [10] (fun i wr => ∃ k : Nat, k ≤ n ∧ i = .int .i64 k ∧ Hid (∀ o ∈ ops.take k, o.vals.length ≤ 2147483647) ∧ St [] w wr [(false, soft src (ops.flatMap ROp.cells))]) (fun i _ => n - (intOf i).toNat)
    case atStart => exact ⟨0, Nat.zero_le _, rfl, (by show ∀ o ∈ _, _; simp), H⟩
    case round =>
      clear H
      obtain ⟨j, hj, rfl, hf, H⟩ := hrel
      by_cases hlt : j < n
      · have hj' : j < ops.length := by rw [hn.out]; exact hlt
        have hcat : Hid (ops.take (j + 1) = ops.take j ++ [ops[j]]) := (List.take_append_getElem hj').symm
        obtain ⟨b1, o1, rfl, H1⟩ := H.elemSoft (Split.here _ _) (j * 2) (ops[j]).cells (by show 0 < 2; omega) (by rw [rop_len]; show _ + 2 ≤ _; omega) (fun i hi => flat_at ROp.cells 2 ops (fun _ _ => rfl) j i hj' hi)
        clear H
        have H := H1
        clear H1
        generalize ops[j] = oo at *
        obtain ⟨kind, at', ocap, vals⟩ := oo
        simp only [ROp.cells] at H
        obtain ⟨m, hm⟩ : ∃ m, vals.length = m := ⟨_, rfl⟩
        rw [hm] at H
        have hm' := Lib.hid hm
        clear hj' hm
        have hc := H.cells; simp only [CellsOf, KnCells, arr_lit, knAt_cons, knAt_nil, Nat.zero_add, Nat.add_zero, Nat.reduceAdd] at hc
        go_wp2_with (first
    | (go_at_call 18; refine Calls.mono (fits29_calls kind at' m ocap _) ?_; rintro e w' ⟨t, rfl, H', ht⟩; replace H := H.of_ext H'; clear H'; (try clear hc); (try simp only [nrm, splice, Value.cells, Nat.reduceAdd, Act.eval, Act.put] at H); have hc := H.cells; simp only [CellsOf, KnCells, arr_lit, knAt_cons, knAt_nil, Nat.zero_add, Nat.add_zero, Nat.reduceAdd] at hc; (cases t))
    | (refine loud_ rfl ?_; refine wpList_plain rfl (fun K hK => ?_); first
      | (refine op_box _ _ rfl H (fun b w' H1 => hK _ _ ?_); clear hK K; replace H := H1; clear H1; (try clear hc); (try simp only [nrm, splice, Value.cells, Nat.reduceAdd, Act.eval, Act.put] at H); have hc := H.cells; simp only [CellsOf, KnCells, arr_lit, knAt_cons, knAt_nil, Nat.zero_add, Nat.add_zero, Nat.reduceAdd] at hc)
      | (refine op_alloc _ rfl (zero_of _ _ rfl) H (fun b w' H1 => hK _ _ ?_); clear hK K; replace H := H1; clear H1; (try clear hc); (try simp only [nrm, splice, Value.cells, Nat.reduceAdd, Act.eval, Act.put] at H); have hc := H.cells; simp only [CellsOf, KnCells, arr_lit, knAt_cons, knAt_nil, Nat.zero_add, Nat.add_zero, Nat.reduceAdd] at hc)
      | (refine op_store _ _ _ rfl rfl rfl H (by repeat (first | exact Split.here _ _ | apply Split.there)) (by kernel_rfl) (by kernel_rfl) (by kernel_rfl) (fun w' H1 => hK _ _ ?_); clear hK K; replace H := H1; clear H1; (try clear hc); (try simp only [nrm, splice, Value.cells, Nat.reduceAdd, Act.eval, Act.put] at H); have hc := H.cells; simp only [CellsOf, KnCells, arr_lit, knAt_cons, knAt_nil, Nat.zero_add, Nat.add_zero, Nat.reduceAdd] at hc)
      | (refine op_buildSlice_all _ _ _ rfl (by first | exact elem22 | exact elem25 | exact elem26 | exact elem29) (by kernel_rfl) (by kernel_rfl) (by kernel_rfl) H (fun b w' H1 => hK _ _ ?_); clear hK K; replace H := H1; clear H1; (try clear hc); (try simp only [nrm, splice, Value.cells, Nat.reduceAdd, Act.eval, Act.put] at H); have hc := H.cells; simp only [CellsOf, KnCells, arr_lit, knAt_cons, knAt_nil, Nat.zero_add, Nat.add_zero, Nat.reduceAdd] at hc)))
        · go_ret
          exact ⟨false, (fun h => by cases h), rfl, H.ext⟩
        · refine ⟨⟨j + 1, by omega, by go_num, ?_, H.sel (by repeat (first | exact Sel.nil _ | (apply Sel.cons; focus (repeat (first | exact Split.here _ _ | apply Split.there)))))⟩, by simp [intOf]; omega⟩
          show ∀ o ∈ _, _
          rw [hcat.out]
          intro o ho
          rcases List.mem_append.1 ho with ho | ho
          · exact hf.out o ho
          · simp only [List.mem_singleton] at ho
            subst ho
            rw [show (ROp.mk kind at' ocap vals).vals = vals from rfl, hm'.out]
            first | exact ht.out rfl | exact ht.out trivial
      · obtain rfl : j = n := by omega
        rw [List.take_of_length_le (by rw [hn.out]; omega)] at hf
        go_wp2_with (first
    | (refine loud_ rfl ?_; refine wpList_plain rfl (fun K hK => ?_); first
      | (refine op_box _ _ rfl H (fun b w' H1 => hK _ _ ?_); clear hK K; replace H := H1; clear H1; (try clear hc); (try simp only [nrm, splice, Value.cells, Nat.reduceAdd, Act.eval, Act.put] at H); have hc := H.cells; simp only [CellsOf, KnCells, arr_lit, knAt_cons, knAt_nil, Nat.zero_add, Nat.add_zero, Nat.reduceAdd] at hc)
      | (refine op_alloc _ rfl (zero_of _ _ rfl) H (fun b w' H1 => hK _ _ ?_); clear hK K; replace H := H1; clear H1; (try clear hc); (try simp only [nrm, splice, Value.cells, Nat.reduceAdd, Act.eval, Act.put] at H); have hc := H.cells; simp only [CellsOf, KnCells, arr_lit, knAt_cons, knAt_nil, Nat.zero_add, Nat.add_zero, Nat.reduceAdd] at hc)
      | (refine op_store _ _ _ rfl rfl rfl H (by repeat (first | exact Split.here _ _ | apply Split.there)) (by kernel_rfl) (by kernel_rfl) (by kernel_rfl) (fun w' H1 => hK _ _ ?_); clear hK K; replace H := H1; clear H1; (try clear hc); (try simp only [nrm, splice, Value.cells, Nat.reduceAdd, Act.eval, Act.put] at H); have hc := H.cells; simp only [CellsOf, KnCells, arr_lit, knAt_cons, knAt_nil, Nat.zero_add, Nat.add_zero, Nat.reduceAdd] at hc)
      | (refine op_buildSlice_all _ _ _ rfl (by first | exact elem22 | exact elem25 | exact elem26 | exact elem29) (by kernel_rfl) (by kernel_rfl) (by kernel_rfl) H (fun b w' H1 => hK _ _ ?_); clear hK K; replace H := H1; clear H1; (try clear hc); (try simp only [nrm, splice, Value.cells, Nat.reduceAdd, Act.eval, Act.put] at H); have hc := H.cells; simp only [CellsOf, KnCells, arr_lit, knAt_cons, knAt_nil, Nat.zero_add, Nat.add_zero, Nat.reduceAdd] at hc)))
        go_ret
        exact ⟨true, (fun _ => hf.out), rfl, H.ext⟩
end Go.Proofs.Ytlikpgidjdjgnaa
