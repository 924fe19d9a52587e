import Derived.Test.YtjknkdmenhcbkaaDoorCpuU
-- MORE
-- SUB2
namespace Go.Proofs.YtjknkdmenhcbkaaDoor
set_option linter.unusedVariables false
set_option linter.unusedSimpArgs false
set_option linter.unnecessarySimpa false
open Go Go.RowKit Go.V Go.Lib

theorem sparse_at (l : List UInt8) (hl : l.length ≤ 5000) (all : List Int) (ok pl : Bool) (h : Hid (sparse l = (all, ok, pl))) (w : World) :
    Calls Tryd.prog 11 #[.string (bs l)] w fun e w' => ∃ key n cap vs, Hid (ok = true → vs = intsN (rising all) ∧ n = (rising all).length) ∧ e = .returned (.tuple #[sl key n cap, .bool ok, .bool pl]) ∧ St [] w w' [(true, .row key 3 1 n cap vs)] := by
  refine (sparse_calls l hl w).mono ?_
  intro e w' k
  unfold SPost at k
  rw [h.out] at k
  exact k
set_option maxHeartbeats 1000000 in
set_option maxRecDepth 8000 in
theorem reads_calls (l : List UInt8) (w : World) (he : ErrEnv w) (ht : TabAt w) :
    Calls Tryd.prog 4 #[.string (bs l)] w fun e w' => e = .returned (.bool true) ∧ Ext [] w w' := by
  have H := St.init [] w
  have hsz := bs_size l
  have he' := Lib.hid he
  have ht' := Lib.hid ht
  clear he ht
  obtain ⟨n, hn⟩ : ∃ n, Hid (n = l.length) := ⟨_, rfl⟩
  rw [← hn.out] at hsz
  by_cases hb1 : 2147483647 < n
  · have hc1 : decide ((2147483647 : Int) < (n : Int)) = true := by simp; omega
    go_enter Tryd.func4, Tryd.ntmps4
    repeat' (first | (go_big_may; (first
    | ((first
        | (refine loud_ rfl ?_; refine wpList_plain rfl (fun K hK => ?_); (first | (refine op_box _ _ rfl H (fun b w' H1 => hK _ _ ?_)) | (refine op_alloc _ rfl (zero_of _ _ rfl) H (fun b w' H1 => hK _ _ ?_)) | (refine op_store _ _ _ rfl rfl rfl H (by repeat (first | exact Split.here _ _ | apply Split.there)) (by kernel_rfl) (by kernel_rfl) (by kernel_rfl) (fun w' H1 => hK _ _ ?_)) | (refine op_buildSlice_all _ _ _ rfl (by first | exact elem22 | exact elem45 | exact elem56 | exact elem58) (by kernel_rfl) (by kernel_rfl) (by kernel_rfl) H (fun b w' H1 => hK _ _ ?_))); clear hK K; replace H := H1; clear H1)); (try clear hc); (try simp only [nrm, splice, Value.cells, Nat.reduceAdd, Act.eval, Act.put] at H); have hc := H.cells; simp only [CellsOf, KnCells, knc, Nat.reduceAdd] at hc))) | go_values | go_skip | go_guarded | go_step | go_upon | go_back | dsimp only)
    go_ret
    exact ⟨rfl, H.ext⟩
  · have hc1 : decide ((2147483647 : Int) < (n : Int)) = false := by simp; omega
    by_cases hb2 : 300 < n
    · have hc2 : decide ((300 : Int) < (n : Int)) = true := by simp; omega
      go_enter Tryd.func4, Tryd.ntmps4
      repeat' (first | (go_big_may; (first
    | go_skip
    | ((first
        | (go_at_call 6; refine Calls.mono (live_calls _ (errEnv_ext he'.out H.ext) (tabAt_ext ht'.out H.ext)) ?_; rintro e w' ⟨rfl, H'⟩; replace H := H.of_ext H'; clear H')
        | (refine loud_ rfl ?_; refine wpList_plain rfl (fun K hK => ?_); (first | (refine op_box _ _ rfl H (fun b w' H1 => hK _ _ ?_)) | (refine op_alloc _ rfl (zero_of _ _ rfl) H (fun b w' H1 => hK _ _ ?_)) | (refine op_store _ _ _ rfl rfl rfl H (by repeat (first | exact Split.here _ _ | apply Split.there)) (by kernel_rfl) (by kernel_rfl) (by kernel_rfl) (fun w' H1 => hK _ _ ?_)) | (refine op_buildSlice_all _ _ _ rfl (by first | exact elem22 | exact elem45 | exact elem56 | exact elem58) (by kernel_rfl) (by kernel_rfl) (by kernel_rfl) H (fun b w' H1 => hK _ _ ?_))); clear hK K; replace H := H1; clear H1)); (try clear hc); (try simp only [nrm, splice, Value.cells, Nat.reduceAdd, Act.eval, Act.put] at H); have hc := H.cells; simp only [CellsOf, KnCells, knc, Nat.reduceAdd] at hc))) | go_values | go_skip | go_guarded | go_step | go_upon | go_back | dsimp only)
      go_ret
      exact ⟨rfl, H.ext⟩
    · have hc2 : decide ((300 : Int) < (n : Int)) = false := by simp; omega
      have hl : l.length ≤ 300 := by rw [← hn.out]; omega
      have hl5 : l.length ≤ 5000 := by omega
      have hl9 : l.length ≤ 900000 := by omega
      rcases hs : sparse l with ⟨all, ok, pl⟩
      have hs' := Lib.hid hs
      cases pl with
      | false =>
        clear hs
        go_enter Tryd.func4, Tryd.ntmps4
        repeat' (first | (go_big_may; (first
    | go_skip
    | ((first
        | (go_at_call 11; refine Calls.mono (sparse_at l hl5 all ok false hs' _) ?_; rintro e w' ⟨key, n1, cap, vs, hv, rfl, H'⟩; replace H := H.merge (by first | exact Strikes.nil _ | (repeat (first | exact Strikes.nil _ | (apply Strikes.cons; focus (repeat (first | exact Split.here _ _ | apply Split.there)))))) H' rfl; clear H')
        | (go_at_call 6; refine Calls.mono (live_calls _ (errEnv_ext he'.out H.ext) (tabAt_ext ht'.out H.ext)) ?_; rintro e w' ⟨rfl, H'⟩; replace H := H.of_ext H'; clear H')
        | (refine loud_ rfl ?_; refine wpList_plain rfl (fun K hK => ?_); (first | (refine op_box _ _ rfl H (fun b w' H1 => hK _ _ ?_)) | (refine op_alloc _ rfl (zero_of _ _ rfl) H (fun b w' H1 => hK _ _ ?_)) | (refine op_store _ _ _ rfl rfl rfl H (by repeat (first | exact Split.here _ _ | apply Split.there)) (by kernel_rfl) (by kernel_rfl) (by kernel_rfl) (fun w' H1 => hK _ _ ?_)) | (refine op_buildSlice_all _ _ _ rfl (by first | exact elem22 | exact elem45 | exact elem56 | exact elem58) (by kernel_rfl) (by kernel_rfl) (by kernel_rfl) H (fun b w' H1 => hK _ _ ?_))); clear hK K; replace H := H1; clear H1)); (try clear hc); (try simp only [nrm, splice, Value.cells, Nat.reduceAdd, Act.eval, Act.put] at H); have hc := H.cells; simp only [CellsOf, KnCells, knc, Nat.reduceAdd] at hc))) | go_values | go_skip | go_guarded | go_step | go_upon | go_back | dsimp only)
        go_ret
        exact ⟨rfl, H.ext⟩
      | true =>
        have hlaw := plain_law hl hs
        clear hs
        cases ok with
        | false =>
          have hci : Hid (cpI l = none) := hlaw.2 rfl
          clear hlaw
          go_enter Tryd.func4, Tryd.ntmps4
          repeat' (first | (go_big_may; (first
    | go_skip
    | ((first
        | (go_at_call 11; refine Calls.mono (sparse_at l hl5 all false true hs' _) ?_; rintro e w' ⟨key, n1, cap, vs, hv, rfl, H'⟩; replace H := H.merge (by first | exact Strikes.nil _ | (repeat (first | exact Strikes.nil _ | (apply Strikes.cons; focus (repeat (first | exact Split.here _ _ | apply Split.there)))))) H' rfl; clear H')
        | (go_at_call 7; refine Calls.mono (cpuParse_none l hl9 hci _ (errEnv_ext he'.out H.ext)) ?_; rintro e w' ⟨rfl, H'⟩; replace H := H.of_ext H'; clear H')
        | (go_at_call 6; refine Calls.mono (live_calls _ (errEnv_ext he'.out H.ext) (tabAt_ext ht'.out H.ext)) ?_; rintro e w' ⟨rfl, H'⟩; replace H := H.of_ext H'; clear H')
        | (refine loud_ rfl ?_; refine wpList_plain rfl (fun K hK => ?_); (first | (refine op_box _ _ rfl H (fun b w' H1 => hK _ _ ?_)) | (refine op_alloc _ rfl (zero_of _ _ rfl) H (fun b w' H1 => hK _ _ ?_)) | (refine op_store _ _ _ rfl rfl rfl H (by repeat (first | exact Split.here _ _ | apply Split.there)) (by kernel_rfl) (by kernel_rfl) (by kernel_rfl) (fun w' H1 => hK _ _ ?_)) | (refine op_buildSlice_all _ _ _ rfl (by first | exact elem22 | exact elem45 | exact elem56 | exact elem58) (by kernel_rfl) (by kernel_rfl) (by kernel_rfl) H (fun b w' H1 => hK _ _ ?_))); clear hK K; replace H := H1; clear H1)); (try clear hc); (try simp only [nrm, splice, Value.cells, Nat.reduceAdd, Act.eval, Act.put] at H); have hc := H.cells; simp only [CellsOf, KnCells, knc, Nat.reduceAdd] at hc))) | go_values | go_skip | go_guarded | go_step | go_upon | go_back | dsimp only)
          go_ret
          exact ⟨rfl, H.ext⟩
        | true =>
          obtain ⟨L, hL1, hL2, hL3, hL4, hL5⟩ := hlaw.1 rfl
          have hci := Lib.hid hL1
          have hso := Lib.hid hL2
          have hrl : (rising all).length ≤ 100000000 := by omega
          clear hlaw hL1 hL2 hL4 hL5
          go_enter Tryd.func4, Tryd.ntmps4
          repeat' (first | (go_big_may; (first
    | go_skip
    | ((first
        | (go_at_call 11; refine Calls.mono (sparse_at l hl5 all true true hs' _) ?_; rintro e w' ⟨key, n1, cap, vs, hv, rfl, H'⟩; replace H := H.merge (by first | exact Strikes.nil _ | (repeat (first | exact Strikes.nil _ | (apply Strikes.cons; focus (repeat (first | exact Split.here _ _ | apply Split.there)))))) H' rfl; clear H')
        | (go_at_call 7; refine Calls.mono (cpuParse_some l L (rising all) hl9 hci hso hL3 _ (errEnv_ext he'.out H.ext)) ?_; rintro e w' ⟨key2, n2, cap2, hn2, rfl, H'⟩; replace H := H.merge (by first | exact Strikes.nil _ | (repeat (first | exact Strikes.nil _ | (apply Strikes.cons; focus (repeat (first | exact Split.here _ _ | apply Split.there)))))) H' rfl; clear H')
        | (refine loud_ rfl ?_; refine wpList_plain rfl (fun K hK => ?_); (first | (refine op_box _ _ rfl H (fun b w' H1 => hK _ _ ?_)) | (refine op_alloc _ rfl (zero_of _ _ rfl) H (fun b w' H1 => hK _ _ ?_)) | (refine op_store _ _ _ rfl rfl rfl H (by repeat (first | exact Split.here _ _ | apply Split.there)) (by kernel_rfl) (by kernel_rfl) (by kernel_rfl) (fun w' H1 => hK _ _ ?_)) | (refine op_buildSlice_all _ _ _ rfl (by first | exact elem22 | exact elem45 | exact elem56 | exact elem58) (by kernel_rfl) (by kernel_rfl) (by kernel_rfl) H (fun b w' H1 => hK _ _ ?_))); clear hK K; replace H := H1; clear H1)); (try clear hc); (try simp only [nrm, splice, Value.cells, Nat.reduceAdd, Act.eval, Act.put] at H); have hc := H.cells; simp only [CellsOf, KnCells, knc, Nat.reduceAdd] at hc))) | go_values | go_skip | go_guarded | go_step | go_upon | go_back | dsimp only)
          obtain ⟨hv1, hv2⟩ := hv.out rfl
          have hv1' := hv1
          subst hv1'
          have hn3 := hn2.out
          obtain rfl : n1 = n2 := by rw [hv2, hn3]
          refine Calls.mono (equal_rows key2 key (rising all) n1 cap2 cap hn2 (by omega) _ (H.pick (by repeat (first | exact Picks.nil _ | (apply Picks.wr; focus (repeat (first | exact Split.here _ _ | apply Split.there))) | (apply Picks.rd; focus (repeat (first | exact Split.here _ _ | apply Split.there))))))) ?_
          rintro e w2 ⟨rfl, H'⟩
          replace H := H.of_ext H'
          clear H' hv1 hv2 hn3
          (try simp only [nrm, splice, Value.cells, Nat.reduceAdd, Act.eval, Act.put] at H); have hc := H.cells; simp only [CellsOf, KnCells, knc, Nat.reduceAdd] at hc
          repeat' (first | (go_big_may; (first
    | go_skip
    | ((first
        | (go_at_call 6; refine Calls.mono (live_calls _ (errEnv_ext he'.out H.ext) (tabAt_ext ht'.out H.ext)) ?_; rintro e w' ⟨rfl, H'⟩; replace H := H.of_ext H'; clear H')
        | (refine loud_ rfl ?_; refine wpList_plain rfl (fun K hK => ?_); (first | (refine op_box _ _ rfl H (fun b w' H1 => hK _ _ ?_)) | (refine op_alloc _ rfl (zero_of _ _ rfl) H (fun b w' H1 => hK _ _ ?_)) | (refine op_store _ _ _ rfl rfl rfl H (by repeat (first | exact Split.here _ _ | apply Split.there)) (by kernel_rfl) (by kernel_rfl) (by kernel_rfl) (fun w' H1 => hK _ _ ?_)) | (refine op_buildSlice_all _ _ _ rfl (by first | exact elem22 | exact elem45 | exact elem56 | exact elem58) (by kernel_rfl) (by kernel_rfl) (by kernel_rfl) H (fun b w' H1 => hK _ _ ?_))); clear hK K; replace H := H1; clear H1)); (try clear hc); (try simp only [nrm, splice, Value.cells, Nat.reduceAdd, Act.eval, Act.put] at H); have hc := H.cells; simp only [CellsOf, KnCells, knc, Nat.reduceAdd] at hc))) | go_values | go_skip | go_guarded | go_step | go_upon | go_back | dsimp only)
          go_ret
          exact ⟨rfl, H.ext⟩
end Go.Proofs.YtjknkdmenhcbkaaDoor
