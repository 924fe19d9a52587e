import Derived.Test.YtikaldcoakpfoaaGreatDoorCpuE
-- MORE
-- SUB2
namespace Go.Proofs.YtikaldcoakpfoaaGreatDoor
set_option linter.unusedVariables false
set_option linter.unusedSimpArgs false
set_option linter.unnecessarySimpa false
open Go Go.RowKit Go.V Go.Lib

theorem wide_none {p : List UInt8} (h : pair p = none) : wideP p = false := by unfold wideP; rw [h]
theorem wide_some {p x y : List UInt8} (h : pair p = some (x, y)) : wideP p = match atoi? x, atoi? y with
    | some a, some b => decide (1152921504606846976 < b) || decide (a < -1152921504606846976) || decide (100000 < wrap64 (b - a))
    | _, _ => false := by
  unfold wideP
  rw [h]
  simp only
  cases atoi? x <;> cases atoi? y <;> simp only
set_option maxHeartbeats 1000000 in
set_option maxRecDepth 8000 in
theorem wide_calls (l : List UInt8) (hl : l.length ≤ 900000) (w : World) (he : ErrEnv w) :
    Calls Tryz.prog 35 #[.string (bs l)] w fun e w' => e = .returned (.bool (wideP l)) ∧ Ext [] w w' := by
  have H := St.init [] w
  have hsz := bs_size l
  have he' := Lib.hid he
  clear he
  obtain ⟨n, hn⟩ : ∃ n, Hid (n = l.length) := ⟨_, rfl⟩
  rw [← hn.out] at hsz hl
  go_enter Tryz.func35, Tryz.ntmps35
  repeat' (first | (go_big_may; (first
    | ((first
        | (refine loud_ rfl ?_; refine wpList_plain rfl (fun K hK => ?_); (first | (refine op_box _ _ rfl H (fun b w' H1 => hK _ _ ?_)) | (refine op_alloc _ rfl (zero_of _ _ rfl) H (fun b w' H1 => hK _ _ ?_)) | (refine op_store _ _ _ rfl rfl rfl H (by repeat (first | exact Split.here _ _ | apply Split.there)) (by kernel_rfl) (by kernel_rfl) (by kernel_rfl) (fun w' H1 => hK _ _ ?_)) | (refine op_buildSlice_all _ _ _ rfl (by first | exact elem22 | exact elem60 | exact elem66 | exact elem72 | exact elem74) (by kernel_rfl) (by kernel_rfl) (by kernel_rfl) H (fun b w' H1 => hK _ _ ?_))); clear hK K; replace H := H1; clear H1)); (try clear hc); (try simp only [nrm, splice, Value.cells, Nat.reduceAdd, Act.eval, Act.put] at H); have hc := H.cells; simp only [CellsOf, KnCells, knc, Nat.reduceAdd] at hc))) | go_values | go_skip | go_guarded | go_step | go_upon | go_back | dsimp only)
  go_loopw [3] (AtPair w l) (fun i _ => n - (intOf i).toNat)
  case atStart => exact ⟨0, rfl, Nat.zero_le _, (fun j h hj => by omega), rfl⟩
  case round =>
    obtain ⟨q, rfl, hq, hh, rfl⟩ := hrel
    rw [← hn.out] at hq
    by_cases hlt : q < n
    · have hlt' : q < l.length := by rw [← hn.out]; exact hlt
      have hqs : q < (bs l).size := by rw [hsz]; exact hlt
      have hat : (bs l)[q] = l[q] := bs_at l q hqs
      by_cases hd : l[q] = 45
      · have hfin := idx_some hlt' (fun j hj => hh.out j (by omega) hj) hd
        have hpair : Hid (pair l = some (l.take q, l.drop (q + 1))) := by show _ = _; rw [pair_idx, hfin]; rfl
        have hb45 : (bs l)[q] = 45 := by rw [hat, hd]
        clear hat hd hfin
        have hs1 : (bs l).extract 0 q = bs (l.take q) := by rw [bs_extract]; rfl
        have hs2 : (bs l).extract (q + 1) n = bs (l.drop (q + 1)) := by
          rw [bs_extract, List.take_of_length_le (by rw [List.length_drop, ← hn.out]; omega)]
        have hqle : q ≤ (bs l).size := by omega
        have hqle2 : q + 1 ≤ (bs l).size := by omega
        have hw := Lib.hid (wide_some hpair.out)
        have hxl : (l.take q).length ≤ 1000000 := by rw [List.length_take]; omega
        have hyl : (l.drop (q + 1)).length ≤ 1000000 := by rw [List.length_drop, ← hn.out]; omega
        generalize l.take q = x at *
        generalize l.drop (q + 1) = y at *
        cases hx : atoi? x with
        | none =>
          have hx' := Lib.hid hx
          cases hy : atoi? y with
          | none =>
            have hy' := Lib.hid hy
            rw [hx, hy] at hw
            clear hx hy
            repeat' (first | (go_big_may; (first
    | go_skip
    | ((first
        | (go_at_call 52; (with_reducible refine gate_args (l := Value.string (bs x) :: _) ?_); refine Calls.mono (atoi_bad x hxl hx' _ (errEnv_ext he'.out H.ext)) ?_; rintro e w' ⟨va, Na, rfl, H'⟩; replace H := H.of_ext H'; clear H')
        | (go_at_call 52; (with_reducible refine gate_args (l := Value.string (bs y) :: _) ?_); refine Calls.mono (atoi_bad y hyl hy' _ (errEnv_ext he'.out H.ext)) ?_; rintro e w' ⟨vb, Nb, rfl, H'⟩; replace H := H.of_ext H'; clear H')
        | (refine loud_ rfl ?_; refine wpList_plain rfl (fun K hK => ?_); (first | (refine op_box _ _ rfl H (fun b w' H1 => hK _ _ ?_)) | (refine op_alloc _ rfl (zero_of _ _ rfl) H (fun b w' H1 => hK _ _ ?_)) | (refine op_store _ _ _ rfl rfl rfl H (by repeat (first | exact Split.here _ _ | apply Split.there)) (by kernel_rfl) (by kernel_rfl) (by kernel_rfl) (fun w' H1 => hK _ _ ?_)) | (refine op_buildSlice_all _ _ _ rfl (by first | exact elem22 | exact elem60 | exact elem66 | exact elem72 | exact elem74) (by kernel_rfl) (by kernel_rfl) (by kernel_rfl) H (fun b w' H1 => hK _ _ ?_))); clear hK K; replace H := H1; clear H1)); (try clear hc); (try simp only [nrm, splice, Value.cells, Nat.reduceAdd, Act.eval, Act.put] at H); have hc := H.cells; simp only [CellsOf, KnCells, knc, Nat.reduceAdd] at hc))) | go_values | go_skip | go_guarded | go_step | go_upon | go_back | dsimp only)
            have hw2 : wideP l = false := hw.out
            go_ret
            exact ⟨by rw [hw2]; rfl, H.ext⟩
          | some b =>
            have hy' := Lib.hid hy
            rw [hx, hy] at hw
            clear hx hy
            repeat' (first | (go_big_may; (first
    | go_skip
    | ((first
        | (go_at_call 52; (with_reducible refine gate_args (l := Value.string (bs x) :: _) ?_); refine Calls.mono (atoi_bad x hxl hx' _ (errEnv_ext he'.out H.ext)) ?_; rintro e w' ⟨va, Na, rfl, H'⟩; replace H := H.of_ext H'; clear H')
        | (go_at_call 52; (with_reducible refine gate_args (l := Value.string (bs y) :: _) ?_); refine Calls.mono (atoi_ok y hyl b hy' _) ?_; rintro e w' ⟨rfl, H'⟩; replace H := H.of_ext H'; clear H')
        | (refine loud_ rfl ?_; refine wpList_plain rfl (fun K hK => ?_); (first | (refine op_box _ _ rfl H (fun b w' H1 => hK _ _ ?_)) | (refine op_alloc _ rfl (zero_of _ _ rfl) H (fun b w' H1 => hK _ _ ?_)) | (refine op_store _ _ _ rfl rfl rfl H (by repeat (first | exact Split.here _ _ | apply Split.there)) (by kernel_rfl) (by kernel_rfl) (by kernel_rfl) (fun w' H1 => hK _ _ ?_)) | (refine op_buildSlice_all _ _ _ rfl (by first | exact elem22 | exact elem60 | exact elem66 | exact elem72 | exact elem74) (by kernel_rfl) (by kernel_rfl) (by kernel_rfl) H (fun b w' H1 => hK _ _ ?_))); clear hK K; replace H := H1; clear H1)); (try clear hc); (try simp only [nrm, splice, Value.cells, Nat.reduceAdd, Act.eval, Act.put] at H); have hc := H.cells; simp only [CellsOf, KnCells, knc, Nat.reduceAdd] at hc))) | go_values | go_skip | go_guarded | go_step | go_upon | go_back | dsimp only)
            have hw2 : wideP l = false := hw.out
            go_ret
            exact ⟨by rw [hw2]; rfl, H.ext⟩
        | some a =>
          have hx' := Lib.hid hx
          cases hy : atoi? y with
          | none =>
            have hy' := Lib.hid hy
            rw [hx, hy] at hw
            clear hx hy
            repeat' (first | (go_big_may; (first
    | go_skip
    | ((first
        | (go_at_call 52; (with_reducible refine gate_args (l := Value.string (bs x) :: _) ?_); refine Calls.mono (atoi_ok x hxl a hx' _) ?_; rintro e w' ⟨rfl, H'⟩; replace H := H.of_ext H'; clear H')
        | (go_at_call 52; (with_reducible refine gate_args (l := Value.string (bs y) :: _) ?_); refine Calls.mono (atoi_bad y hyl hy' _ (errEnv_ext he'.out H.ext)) ?_; rintro e w' ⟨vb, Nb, rfl, H'⟩; replace H := H.of_ext H'; clear H')
        | (refine loud_ rfl ?_; refine wpList_plain rfl (fun K hK => ?_); (first | (refine op_box _ _ rfl H (fun b w' H1 => hK _ _ ?_)) | (refine op_alloc _ rfl (zero_of _ _ rfl) H (fun b w' H1 => hK _ _ ?_)) | (refine op_store _ _ _ rfl rfl rfl H (by repeat (first | exact Split.here _ _ | apply Split.there)) (by kernel_rfl) (by kernel_rfl) (by kernel_rfl) (fun w' H1 => hK _ _ ?_)) | (refine op_buildSlice_all _ _ _ rfl (by first | exact elem22 | exact elem60 | exact elem66 | exact elem72 | exact elem74) (by kernel_rfl) (by kernel_rfl) (by kernel_rfl) H (fun b w' H1 => hK _ _ ?_))); clear hK K; replace H := H1; clear H1)); (try clear hc); (try simp only [nrm, splice, Value.cells, Nat.reduceAdd, Act.eval, Act.put] at H); have hc := H.cells; simp only [CellsOf, KnCells, knc, Nat.reduceAdd] at hc))) | go_values | go_skip | go_guarded | go_step | go_upon | go_back | dsimp only)
            have hw2 : wideP l = false := hw.out
            go_ret
            exact ⟨by rw [hw2]; rfl, H.ext⟩
          | some b =>
            have hy' := Lib.hid hy
            rw [hx, hy] at hw
            clear hx hy
            repeat' (first | (go_big_may; (first
    | go_skip
    | ((first
        | (go_at_call 52; (with_reducible refine gate_args (l := Value.string (bs x) :: _) ?_); refine Calls.mono (atoi_ok x hxl a hx' _) ?_; rintro e w' ⟨rfl, H'⟩; replace H := H.of_ext H'; clear H')
        | (go_at_call 52; (with_reducible refine gate_args (l := Value.string (bs y) :: _) ?_); refine Calls.mono (atoi_ok y hyl b hy' _) ?_; rintro e w' ⟨rfl, H'⟩; replace H := H.of_ext H'; clear H')
        | (refine loud_ rfl ?_; refine wpList_plain rfl (fun K hK => ?_); (first | (refine op_box _ _ rfl H (fun b w' H1 => hK _ _ ?_)) | (refine op_alloc _ rfl (zero_of _ _ rfl) H (fun b w' H1 => hK _ _ ?_)) | (refine op_store _ _ _ rfl rfl rfl H (by repeat (first | exact Split.here _ _ | apply Split.there)) (by kernel_rfl) (by kernel_rfl) (by kernel_rfl) (fun w' H1 => hK _ _ ?_)) | (refine op_buildSlice_all _ _ _ rfl (by first | exact elem22 | exact elem60 | exact elem66 | exact elem72 | exact elem74) (by kernel_rfl) (by kernel_rfl) (by kernel_rfl) H (fun b w' H1 => hK _ _ ?_))); clear hK K; replace H := H1; clear H1)); (try clear hc); (try simp only [nrm, splice, Value.cells, Nat.reduceAdd, Act.eval, Act.put] at H); have hc := H.cells; simp only [CellsOf, KnCells, knc, Nat.reduceAdd] at hc))) | go_values | go_skip | go_guarded | go_step | go_upon | go_back | dsimp only)
            all_goals go_ret
            all_goals exact ⟨by rw [show wideP l = (decide (1152921504606846976 < b) || decide (a < -1152921504606846976) || decide (100000 < wrap64 (b - a))) from hw.out]; simp_all, H.ext⟩
      · have hn45 : (((bs l)[q].toNat : Int) == 45) = false := by
          rw [hat]
          have h45 : l[q].toNat ≠ 45 := fun e => hd (UInt8.toNat_inj.1 e)
          simp
          omega
        have hnx : Hid (∀ (j : Nat) (h : j < l.length), j < q + 1 → l[j] ≠ 45) := by
          intro j hj hjq
          rcases Nat.lt_or_ge j q with h | h
          · exact hh.out j hj h
          · obtain rfl : j = q := by omega
            exact hd
        clear hat hd
        repeat' (first | (go_big_may; (first
    | ((first
        | (refine loud_ rfl ?_; refine wpList_plain rfl (fun K hK => ?_); (first | (refine op_box _ _ rfl H (fun b w' H1 => hK _ _ ?_)) | (refine op_alloc _ rfl (zero_of _ _ rfl) H (fun b w' H1 => hK _ _ ?_)) | (refine op_store _ _ _ rfl rfl rfl H (by repeat (first | exact Split.here _ _ | apply Split.there)) (by kernel_rfl) (by kernel_rfl) (by kernel_rfl) (fun w' H1 => hK _ _ ?_)) | (refine op_buildSlice_all _ _ _ rfl (by first | exact elem22 | exact elem60 | exact elem66 | exact elem72 | exact elem74) (by kernel_rfl) (by kernel_rfl) (by kernel_rfl) H (fun b w' H1 => hK _ _ ?_))); clear hK K; replace H := H1; clear H1)); (try clear hc); (try simp only [nrm, splice, Value.cells, Nat.reduceAdd, Act.eval, Act.put] at H); have hc := H.cells; simp only [CellsOf, KnCells, knc, Nat.reduceAdd] at hc))) | go_values | go_skip | go_guarded | go_step | go_upon | go_back | dsimp only)
        exact ⟨⟨q + 1, by go_num, by omega, hnx, rfl⟩, by simp [intOf]; omega⟩
    · have hfin := idx_none (c := 45) (l := l) (fun j hj => hh.out j hj (by have := hn.out; omega))
      have hpair : pair l = none := by rw [pair_idx, hfin]; rfl
      have hw := wide_none hpair
      clear hfin hpair
      repeat' (first | (go_big_may; (first
    | ((first
        | (refine loud_ rfl ?_; refine wpList_plain rfl (fun K hK => ?_); (first | (refine op_box _ _ rfl H (fun b w' H1 => hK _ _ ?_)) | (refine op_alloc _ rfl (zero_of _ _ rfl) H (fun b w' H1 => hK _ _ ?_)) | (refine op_store _ _ _ rfl rfl rfl H (by repeat (first | exact Split.here _ _ | apply Split.there)) (by kernel_rfl) (by kernel_rfl) (by kernel_rfl) (fun w' H1 => hK _ _ ?_)) | (refine op_buildSlice_all _ _ _ rfl (by first | exact elem22 | exact elem60 | exact elem66 | exact elem72 | exact elem74) (by kernel_rfl) (by kernel_rfl) (by kernel_rfl) H (fun b w' H1 => hK _ _ ?_))); clear hK K; replace H := H1; clear H1)); (try clear hc); (try simp only [nrm, splice, Value.cells, Nat.reduceAdd, Act.eval, Act.put] at H); have hc := H.cells; simp only [CellsOf, KnCells, knc, Nat.reduceAdd] at hc))) | go_values | go_skip | go_guarded | go_step | go_upon | go_back | dsimp only)
      go_ret
      exact ⟨by rw [hw]; rfl, Ext.refl _ _⟩
end Go.Proofs.YtikaldcoakpfoaaGreatDoor
