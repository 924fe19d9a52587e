import Derived.Test.YtjknkdmenhcbkaaDoorCpuI
-- MORE
-- SUB2
namespace Go.Proofs.YtjknkdmenhcbkaaDoor
set_option linter.unusedVariables false
set_option linter.unusedSimpArgs false
set_option linter.unnecessarySimpa false
open Go Go.RowKit Go.V Go.Lib

theorem number_is (l : List UInt8) (a : Int) (q : Bool) (hl : l.length ≤ 900000) (h : Hid (numv l = (a, q))) (w : World) :
    Calls Tryd.prog 35 #[.string (bs l)] w fun e w' => e = .returned (.tuple #[.int .i64 a, .bool q]) ∧ Ext [] w w' := by
  have := number_calls l hl w
  rw [h.out] at this
  exact this
def AtCr (w : World) (l : List UInt8) (i : Value) (wr : World) : Prop := ∃ q : Nat, i = .int .i64 q ∧ q ≤ l.length ∧ Hid (∀ (j : Nat) (h : j < l.length), j < q → l[j] ≠ 45) ∧ wr = w
set_option maxHeartbeats 1000000 in
set_option maxRecDepth 8000 in
theorem cpuRange_calls (l : List UInt8) (hl : l.length ≤ 900000) (a b : Int) (ok : Bool) (hr : Hid (cpuRange l = (a, b, ok))) (w : World) :
    Calls Tryd.prog 21 #[.string (bs l)] w fun e w' => e = .returned (.tuple #[.int .i64 a, .int .i64 b, .bool ok]) ∧ Ext [] w w' := by
  have H := St.init [] w
  have hsz := bs_size l
  obtain ⟨n, hn⟩ : ∃ n, Hid (n = l.length) := ⟨_, rfl⟩
  rw [← hn.out] at hsz hl
  go_enter Tryd.func21, Tryd.ntmps21
  repeat' (first | (go_big_may; (first
    | ((first
        | (refine loud_ rfl ?_; refine wpList_plain rfl (fun K hK => ?_); (first | (refine op_box _ _ rfl H (fun b w' H1 => hK _ _ ?_)) | (refine op_alloc _ rfl (zero_of _ _ rfl) H (fun b w' H1 => hK _ _ ?_)) | (refine op_store _ _ _ rfl rfl rfl H (by repeat (first | exact Split.here _ _ | apply Split.there)) (by kernel_rfl) (by kernel_rfl) (by kernel_rfl) (fun w' H1 => hK _ _ ?_)) | (refine op_buildSlice_all _ _ _ rfl (by first | exact elem22 | exact elem45 | exact elem56 | exact elem58) (by kernel_rfl) (by kernel_rfl) (by kernel_rfl) H (fun b w' H1 => hK _ _ ?_))); clear hK K; replace H := H1; clear H1)); (try clear hc); (try simp only [nrm, splice, Value.cells, Nat.reduceAdd, Act.eval, Act.put] at H); have hc := H.cells; simp only [CellsOf, KnCells, knc, Nat.reduceAdd] at hc))) | go_values | go_skip | go_guarded | go_step | go_upon | go_back | dsimp only)
  go_loopw [14] (AtCr w l) (fun i _ => n - (intOf i).toNat)
  case atStart => exact ⟨0, rfl, Nat.zero_le _, (fun j h hj => by omega), rfl⟩
  case round =>
    obtain ⟨q, rfl, hq, hh, rfl⟩ := hrel
    rw [← hn.out] at hq
    by_cases hlt : q < n
    · have hlt' : q < l.length := by rw [← hn.out]; exact hlt
      have hqs : q < (bs l).size := by rw [hsz]; exact hlt
      have hat : (bs l)[q] = l[q] := bs_at l q hqs
      have hcl : decide ((q : Int) < (n : Int)) = true := by simp; omega
      by_cases hd : l[q] = 45
      · have hfin := idx_some hlt' (fun j hj => hh.out j (by omega) hj) hd
        have hpair : pair l = some (l.take q, l.drop (q + 1)) := by rw [pair_idx, hfin]; rfl
        have hb45 : (bs l)[q] = 45 := by rw [hat, hd]
        clear hat hd hfin
        have hs1 : (bs l).extract 0 q = bs (l.take q) := by rw [bs_extract]; rfl
        have hs2 : (bs l).extract (q + 1) n = bs (l.drop (q + 1)) := by
          rw [bs_extract, List.take_of_length_le (by rw [List.length_drop, ← hn.out]; omega)]
        have hqle : q ≤ (bs l).size := by omega
        have hqle2 : q + 1 ≤ (bs l).size := by omega
        have hxl : (l.take q).length ≤ 900000 := by rw [List.length_take]; omega
        have hyl : (l.drop (q + 1)).length ≤ 900000 := by rw [List.length_drop, ← hn.out]; omega
        generalize l.take q = x at *
        generalize l.drop (q + 1) = y at *
        rcases hx : numv x with ⟨a', qa⟩
        rcases hy : numv y with ⟨b', qb⟩
        have hr2 := hr.out
        rw [cr_some hpair hx hy] at hr2
        injection hr2 with h1 h2
        injection h2 with h2 h3
        subst h1 h2
        have hx' := Lib.hid hx
        have hy' := Lib.hid hy
        clear hx hy hr hpair
        cases qa with
        | false =>
          have hok : ok = false := h3.symm
          subst hok
          clear h3
          repeat' (first | (go_big_may; (first
    | go_skip
    | ((first
        | (go_at_call 35; (with_reducible refine gate_args (l := Value.string (bs x) :: _) ?_); refine Calls.mono (number_is x _ _ hxl hx' _) ?_; rintro e w' ⟨rfl, H'⟩; replace H := H.of_ext H'; clear H')
        | (go_at_call 35; (with_reducible refine gate_args (l := Value.string (bs y) :: _) ?_); refine Calls.mono (number_is y _ _ hyl hy' _) ?_; rintro e w' ⟨rfl, H'⟩; replace H := H.of_ext H'; clear H')
        | (refine loud_ rfl ?_; refine wpList_plain rfl (fun K hK => ?_); (first | (refine op_box _ _ rfl H (fun b w' H1 => hK _ _ ?_)) | (refine op_alloc _ rfl (zero_of _ _ rfl) H (fun b w' H1 => hK _ _ ?_)) | (refine op_store _ _ _ rfl rfl rfl H (by repeat (first | exact Split.here _ _ | apply Split.there)) (by kernel_rfl) (by kernel_rfl) (by kernel_rfl) (fun w' H1 => hK _ _ ?_)) | (refine op_buildSlice_all _ _ _ rfl (by first | exact elem22 | exact elem45 | exact elem56 | exact elem58) (by kernel_rfl) (by kernel_rfl) (by kernel_rfl) H (fun b w' H1 => hK _ _ ?_))); clear hK K; replace H := H1; clear H1)); (try clear hc); (try simp only [nrm, splice, Value.cells, Nat.reduceAdd, Act.eval, Act.put] at H); have hc := H.cells; simp only [CellsOf, KnCells, knc, Nat.reduceAdd] at hc))) | go_values | go_skip | go_guarded | go_step | go_upon | go_back | dsimp only)
          go_ret3
          exact ⟨rfl, H.ext⟩
        | true =>
          cases qb with
          | false =>
            have hok : ok = false := h3.symm
            subst hok
            clear h3
            repeat' (first | (go_big_may; (first
    | go_skip
    | ((first
        | (go_at_call 35; (with_reducible refine gate_args (l := Value.string (bs x) :: _) ?_); refine Calls.mono (number_is x _ _ hxl hx' _) ?_; rintro e w' ⟨rfl, H'⟩; replace H := H.of_ext H'; clear H')
        | (go_at_call 35; (with_reducible refine gate_args (l := Value.string (bs y) :: _) ?_); refine Calls.mono (number_is y _ _ hyl hy' _) ?_; rintro e w' ⟨rfl, H'⟩; replace H := H.of_ext H'; clear H')
        | (refine loud_ rfl ?_; refine wpList_plain rfl (fun K hK => ?_); (first | (refine op_box _ _ rfl H (fun b w' H1 => hK _ _ ?_)) | (refine op_alloc _ rfl (zero_of _ _ rfl) H (fun b w' H1 => hK _ _ ?_)) | (refine op_store _ _ _ rfl rfl rfl H (by repeat (first | exact Split.here _ _ | apply Split.there)) (by kernel_rfl) (by kernel_rfl) (by kernel_rfl) (fun w' H1 => hK _ _ ?_)) | (refine op_buildSlice_all _ _ _ rfl (by first | exact elem22 | exact elem45 | exact elem56 | exact elem58) (by kernel_rfl) (by kernel_rfl) (by kernel_rfl) H (fun b w' H1 => hK _ _ ?_))); clear hK K; replace H := H1; clear H1)); (try clear hc); (try simp only [nrm, splice, Value.cells, Nat.reduceAdd, Act.eval, Act.put] at H); have hc := H.cells; simp only [CellsOf, KnCells, knc, Nat.reduceAdd] at hc))) | go_values | go_skip | go_guarded | go_step | go_upon | go_back | dsimp only)
            go_ret3
            exact ⟨rfl, H.ext⟩
          | true =>
            have hok : ok = decide (a' ≤ b') := h3.symm
            subst hok
            clear h3
            repeat' (first | (go_big_may; (first
    | go_skip
    | ((first
        | (go_at_call 35; (with_reducible refine gate_args (l := Value.string (bs x) :: _) ?_); refine Calls.mono (number_is x _ _ hxl hx' _) ?_; rintro e w' ⟨rfl, H'⟩; replace H := H.of_ext H'; clear H')
        | (go_at_call 35; (with_reducible refine gate_args (l := Value.string (bs y) :: _) ?_); refine Calls.mono (number_is y _ _ hyl hy' _) ?_; rintro e w' ⟨rfl, H'⟩; replace H := H.of_ext H'; clear H')
        | (refine loud_ rfl ?_; refine wpList_plain rfl (fun K hK => ?_); (first | (refine op_box _ _ rfl H (fun b w' H1 => hK _ _ ?_)) | (refine op_alloc _ rfl (zero_of _ _ rfl) H (fun b w' H1 => hK _ _ ?_)) | (refine op_store _ _ _ rfl rfl rfl H (by repeat (first | exact Split.here _ _ | apply Split.there)) (by kernel_rfl) (by kernel_rfl) (by kernel_rfl) (fun w' H1 => hK _ _ ?_)) | (refine op_buildSlice_all _ _ _ rfl (by first | exact elem22 | exact elem45 | exact elem56 | exact elem58) (by kernel_rfl) (by kernel_rfl) (by kernel_rfl) H (fun b w' H1 => hK _ _ ?_))); clear hK K; replace H := H1; clear H1)); (try clear hc); (try simp only [nrm, splice, Value.cells, Nat.reduceAdd, Act.eval, Act.put] at H); have hc := H.cells; simp only [CellsOf, KnCells, knc, Nat.reduceAdd] at hc))) | go_values | go_skip | go_guarded | go_step | go_upon | go_back | dsimp only)
            go_ret3
            exact ⟨rfl, H.ext⟩
      · have hn45 : (((bs l)[q].toNat : Int) == 45) = false := by
          rw [hat]
          have h45 : l[q].toNat ≠ 45 := fun e => hd (UInt8.toNat_inj.1 e)
          simp
          omega
        have hnx : Hid (∀ (j : Nat) (h : j < l.length), j < q + 1 → l[j] ≠ 45) := by
          intro j hj hjq
          rcases Nat.lt_or_ge j q with h | h
          · exact hh.out j hj h
          · obtain rfl : j = q := by omega
            exact hd
        clear hat hd
        repeat' (first | (go_big_may; (first
    | ((first
        | (refine loud_ rfl ?_; refine wpList_plain rfl (fun K hK => ?_); (first | (refine op_box _ _ rfl H (fun b w' H1 => hK _ _ ?_)) | (refine op_alloc _ rfl (zero_of _ _ rfl) H (fun b w' H1 => hK _ _ ?_)) | (refine op_store _ _ _ rfl rfl rfl H (by repeat (first | exact Split.here _ _ | apply Split.there)) (by kernel_rfl) (by kernel_rfl) (by kernel_rfl) (fun w' H1 => hK _ _ ?_)) | (refine op_buildSlice_all _ _ _ rfl (by first | exact elem22 | exact elem45 | exact elem56 | exact elem58) (by kernel_rfl) (by kernel_rfl) (by kernel_rfl) H (fun b w' H1 => hK _ _ ?_))); clear hK K; replace H := H1; clear H1)); (try clear hc); (try simp only [nrm, splice, Value.cells, Nat.reduceAdd, Act.eval, Act.put] at H); have hc := H.cells; simp only [CellsOf, KnCells, knc, Nat.reduceAdd] at hc))) | go_values | go_skip | go_guarded | go_step | go_upon | go_back | dsimp only)
        exact ⟨⟨q + 1, by go_num, by omega, hnx, rfl⟩, by simp [intOf]; omega⟩
    · have hfin := idx_none (c := 45) (l := l) (fun j hj => hh.out j hj (by have := hn.out; omega))
      have hcl : decide ((q : Int) < (n : Int)) = false := by simp; omega
      have hpair : pair l = none := by rw [pair_idx, hfin]; rfl
      rcases hx : numv l with ⟨a', qa⟩
      have hr2 := hr.out
      rw [cr_none hpair hx] at hr2
      injection hr2 with h1 h2
      injection h2 with h2 h3
      subst h1 h2 h3
      have hx' := Lib.hid hx
      have hl2 : l.length ≤ 900000 := by rw [← hn.out]; exact hl
      clear hfin hpair hx hr
      repeat' (first | (go_big_may; (first
    | go_skip
    | ((first
        | (go_at_call 35; refine Calls.mono (number_is l _ _ hl2 hx' _) ?_; rintro e w' ⟨rfl, H'⟩; replace H := H.of_ext H'; clear H')
        | (refine loud_ rfl ?_; refine wpList_plain rfl (fun K hK => ?_); (first | (refine op_box _ _ rfl H (fun b w' H1 => hK _ _ ?_)) | (refine op_alloc _ rfl (zero_of _ _ rfl) H (fun b w' H1 => hK _ _ ?_)) | (refine op_store _ _ _ rfl rfl rfl H (by repeat (first | exact Split.here _ _ | apply Split.there)) (by kernel_rfl) (by kernel_rfl) (by kernel_rfl) (fun w' H1 => hK _ _ ?_)) | (refine op_buildSlice_all _ _ _ rfl (by first | exact elem22 | exact elem45 | exact elem56 | exact elem58) (by kernel_rfl) (by kernel_rfl) (by kernel_rfl) H (fun b w' H1 => hK _ _ ?_))); clear hK K; replace H := H1; clear H1)); (try clear hc); (try simp only [nrm, splice, Value.cells, Nat.reduceAdd, Act.eval, Act.put] at H); have hc := H.cells; simp only [CellsOf, KnCells, knc, Nat.reduceAdd] at hc))) | go_values | go_skip | go_guarded | go_step | go_upon | go_back | dsimp only)
      go_ret3
      exact ⟨rfl, H.ext⟩
end Go.Proofs.YtjknkdmenhcbkaaDoor
