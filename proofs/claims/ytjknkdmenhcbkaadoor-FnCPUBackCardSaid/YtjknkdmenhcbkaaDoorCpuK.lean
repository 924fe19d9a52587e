import Derived.Test.YtjknkdmenhcbkaaDoorCpuJ
-- MORE
-- SUB2
namespace Go.Proofs.YtjknkdmenhcbkaaDoor
set_option linter.unusedVariables false
set_option linter.unusedSimpArgs false
set_option linter.unnecessarySimpa false
open Go Go.RowKit Go.V Go.Lib

def AtPc (w : World) (l : List UInt8) (out b i : Value) (wr : World) : Prop := ∃ (key : Option Nat) (n cap : Nat) (done : List (List UInt8)) (vs : List Value), out = sl key n cap ∧ Hid (vs = strs8 done ∧ n = done.length) ∧ St [] w wr [(true, .row key 9 1 n cap vs)] ∧ ((∃ k q : Nat, b = .int .i64 k ∧ i = .int .i64 q ∧ k ≤ q ∧ q ≤ l.length ∧ n ≤ k ∧ Hid (∀ (j : Nat) (h : j < l.length), k ≤ j → j < q → l[j] ≠ 44) ∧ Hid (splitAt' 44 l = done ++ splitAt' 44 (l.drop k)))
  ∨ (b = .int .i64 (l.length + 1 : Nat) ∧ i = .int .i64 (l.length + 1 : Nat) ∧ n ≤ l.length + 1 ∧ Hid (splitAt' 44 l = done)))
set_option maxHeartbeats 1000000 in
set_option maxRecDepth 8000 in
theorem pieces_calls (l : List UInt8) (hl : l.length ≤ 900000) (w : World) :
    Calls Tryd.prog 20 #[.string (bs l)] w fun e w' => ∃ key n cap vs, Hid (vs = strs8 (splitAt' 44 l) ∧ n = (splitAt' 44 l).length) ∧ n ≤ l.length + 1 ∧ e = .returned (sl key n cap) ∧ St [] w w' [(true, .row key 9 1 n cap vs)] := by
  have H := St.init [] w
  have hsz := bs_size l
  obtain ⟨m, hm⟩ : ∃ n, Hid (n = l.length) := ⟨_, rfl⟩
  rw [← hm.out] at hsz hl
  go_enter Tryd.func20, Tryd.ntmps20
  repeat' (first | (go_big_may; (first
    | ((first
        | (refine loud_ rfl ?_; refine wpList_plain rfl (fun K hK => ?_); (first | (refine op_box _ _ rfl H (fun b w' H1 => hK _ _ ?_)) | (refine op_alloc _ rfl (zero_of _ _ rfl) H (fun b w' H1 => hK _ _ ?_)) | (refine op_store _ _ _ rfl rfl rfl H (by repeat (first | exact Split.here _ _ | apply Split.there)) (by kernel_rfl) (by kernel_rfl) (by kernel_rfl) (fun w' H1 => hK _ _ ?_)) | (refine op_buildSlice_all _ _ _ rfl (by first | exact elem22 | exact elem45 | exact elem56 | exact elem58) (by kernel_rfl) (by kernel_rfl) (by kernel_rfl) H (fun b w' H1 => hK _ _ ?_))); clear hK K; replace H := H1; clear H1)); (try clear hc); (try simp only [nrm, splice, Value.cells, Nat.reduceAdd, Act.eval, Act.put] at H); have hc := H.cells; simp only [CellsOf, KnCells, knc, Nat.reduceAdd] at hc))) | go_values | go_skip | go_guarded | go_step | go_upon | go_back | dsimp only)
  go_loopw [3, 4, 5] (AtPc w l) (fun _ _ i _ => m + 2 - (intOf i).toNat)
  case atStart => exact ⟨none, 0, 0, [], [], rfl, ⟨rfl, rfl⟩, H.nilRow _ _, .inl ⟨0, 0, rfl, rfl, Nat.le_refl _, Nat.zero_le _, Nat.zero_le _, (fun j h h1 hj => by omega), rfl⟩⟩
  case round =>
    clear H
    obtain ⟨key, n, cap, done, vs, rfl, hvs, H, ⟨k, q, rfl, rfl, hkq, hq, hnk, hh, hspl⟩ | ⟨rfl, rfl, hnl, hspl⟩⟩ := hrel
    · rw [← hm.out] at hq
      have hc1 : decide ((q : Int) ≤ (m : Int)) = true := by simp; omega
      have hn1 : n ≤ 900000 := by omega
      by_cases hlt : q < m
      · have hlt' : q < l.length := by rw [← hm.out]; exact hlt
        have hqs : q < (bs l).size := by rw [hsz]; exact hlt
        have hat : (bs l)[q] = l[q] := bs_at l q hqs
        have hc2 : ((q : Int) == (m : Int)) = false := by simp; omega
        by_cases hd : l[q] = 44
        · have hb44 : (bs l)[q] = 44 := by rw [hat, hd]
          have hnx := piece_next hkq hlt' hh.out hd
          have hs1 : (bs l).extract k q = bs ((l.drop k).take (q - k)) := bs_extract _ _ _
          have hks : k ≤ (bs l).size := by omega
          have hkq2 : (k : Int) ≤ (q : Int) := by omega
          have hnx2 : Hid (splitAt' 44 l = (done ++ [(l.drop k).take (q - k)]) ++ splitAt' 44 (l.drop (q + 1)) ∧ vs ++ [Value.string (bs ((l.drop k).take (q - k)))] = strs8 (done ++ [(l.drop k).take (q - k)]) ∧ n + 1 = (done ++ [(l.drop k).take (q - k)]).length) := by
            refine ⟨by rw [hspl.out, hnx]; simp, by rw [strs8_app, ← hvs.out.1]; rfl, by rw [List.length_append, ← hvs.out.2]; rfl⟩
          clear hat hd hnx
          generalize (l.drop k).take (q - k) = p at *
          have hc := H.cells; simp only [CellsOf, KnCells, knc, Nat.reduceAdd] at hc
          repeat' (first | (go_big_may; (first
    | ((first
        | (refine loud_ rfl ?_; refine wpList_plain rfl (fun K hK => ?_); (first | (refine op_append_lit _ _ _ rfl elem45 rfl rfl H (by repeat (first | exact Split.here _ _ | apply Split.there)) (by repeat (first | exact Split.here _ _ | apply Split.there)) (by kernel_rfl) (by kernel_rfl) (by omega) (by unfold maxLen; omega) (fun key cap' w' H1 => hK _ _ ?_)) | (refine op_box _ _ rfl H (fun b w' H1 => hK _ _ ?_)) | (refine op_alloc _ rfl (zero_of _ _ rfl) H (fun b w' H1 => hK _ _ ?_)) | (refine op_store _ _ _ rfl rfl rfl H (by repeat (first | exact Split.here _ _ | apply Split.there)) (by kernel_rfl) (by kernel_rfl) (by kernel_rfl) (fun w' H1 => hK _ _ ?_)) | (refine op_buildSlice_all _ _ _ rfl (by first | exact elem22 | exact elem45 | exact elem56 | exact elem58) (by kernel_rfl) (by kernel_rfl) (by kernel_rfl) H (fun b w' H1 => hK _ _ ?_))); clear hK K; replace H := H1; clear H1)); (try clear hc); (try simp only [nrm, splice, Value.cells, Nat.reduceAdd, Act.eval, Act.put] at H); have hc := H.cells; simp only [CellsOf, KnCells, knc, Nat.reduceAdd] at hc))) | go_values | go_skip | go_guarded | go_step | go_upon | go_back | dsimp only)
          exact ⟨⟨key, n + 1, cap', done ++ [p], _, rfl, ⟨hnx2.out.2.1, hnx2.out.2.2⟩, H, .inl ⟨q + 1, q + 1, by go_num, by go_num, Nat.le_refl _, by omega, by omega, (fun j h h1 hj => by omega), hnx2.out.1⟩⟩, by simp [intOf]; omega⟩
        · have hn44 : (((bs l)[q].toNat : Int) == 44) = false := by
            rw [hat]
            have h45 : l[q].toNat ≠ 44 := fun e => hd (UInt8.toNat_inj.1 e)
            simp
            omega
          have hnx : Hid (∀ (j : Nat) (h : j < l.length), k ≤ j → j < q + 1 → l[j] ≠ 44) := by
            intro j hj hkj hjq
            rcases Nat.lt_or_ge j q with h | h
            · exact hh.out j hj hkj h
            · obtain rfl : j = q := by omega
              exact hd
          clear hat hd
          have hc := H.cells; simp only [CellsOf, KnCells, knc, Nat.reduceAdd] at hc
          repeat' (first | (go_big_may; (first
    | ((first
        | (refine loud_ rfl ?_; refine wpList_plain rfl (fun K hK => ?_); (first | (refine op_box _ _ rfl H (fun b w' H1 => hK _ _ ?_)) | (refine op_alloc _ rfl (zero_of _ _ rfl) H (fun b w' H1 => hK _ _ ?_)) | (refine op_store _ _ _ rfl rfl rfl H (by repeat (first | exact Split.here _ _ | apply Split.there)) (by kernel_rfl) (by kernel_rfl) (by kernel_rfl) (fun w' H1 => hK _ _ ?_)) | (refine op_buildSlice_all _ _ _ rfl (by first | exact elem22 | exact elem45 | exact elem56 | exact elem58) (by kernel_rfl) (by kernel_rfl) (by kernel_rfl) H (fun b w' H1 => hK _ _ ?_))); clear hK K; replace H := H1; clear H1)); (try clear hc); (try simp only [nrm, splice, Value.cells, Nat.reduceAdd, Act.eval, Act.put] at H); have hc := H.cells; simp only [CellsOf, KnCells, knc, Nat.reduceAdd] at hc))) | go_values | go_skip | go_guarded | go_step | go_upon | go_back | dsimp only)
          exact ⟨⟨key, n, cap, done, vs, rfl, hvs, H, .inl ⟨k, q + 1, rfl, by go_num, by omega, by omega, hnk, hnx, hspl⟩⟩, by simp [intOf]; omega⟩
      · obtain rfl : q = m := by omega
        have hc2 : ((q : Int) == (q : Int)) = true := by simp
        have hnx := piece_last (l := l) (k := k) (fun j hj hkj => hh.out j hj hkj (by rw [hm.out]; exact hj))
        have hs1 : (bs l).extract k q = bs (l.drop k) := by rw [bs_extract, List.take_of_length_le (by rw [List.length_drop, ← hm.out]; omega)]
        have hnx2 : Hid (splitAt' 44 l = (done ++ [l.drop k]) ∧ vs ++ [Value.string (bs (l.drop k))] = strs8 (done ++ [l.drop k]) ∧ n + 1 = (done ++ [l.drop k]).length) := by
          refine ⟨by rw [hspl.out, hnx], by rw [strs8_app, ← hvs.out.1]; rfl, by rw [List.length_append, ← hvs.out.2]; rfl⟩
        clear hnx
        generalize l.drop k = p at *
        have hks : k ≤ (bs l).size := by omega
        have hqs : q ≤ (bs l).size := by omega
        have hkq2 : (k : Int) ≤ (q : Int) := by omega
        have hc := H.cells; simp only [CellsOf, KnCells, knc, Nat.reduceAdd] at hc
        repeat' (first | (go_big_may; (first
    | ((first
        | (refine loud_ rfl ?_; refine wpList_plain rfl (fun K hK => ?_); (first | (refine op_append_lit _ _ _ rfl elem45 rfl rfl H (by repeat (first | exact Split.here _ _ | apply Split.there)) (by repeat (first | exact Split.here _ _ | apply Split.there)) (by kernel_rfl) (by kernel_rfl) (by omega) (by unfold maxLen; omega) (fun key cap' w' H1 => hK _ _ ?_)) | (refine op_box _ _ rfl H (fun b w' H1 => hK _ _ ?_)) | (refine op_alloc _ rfl (zero_of _ _ rfl) H (fun b w' H1 => hK _ _ ?_)) | (refine op_store _ _ _ rfl rfl rfl H (by repeat (first | exact Split.here _ _ | apply Split.there)) (by kernel_rfl) (by kernel_rfl) (by kernel_rfl) (fun w' H1 => hK _ _ ?_)) | (refine op_buildSlice_all _ _ _ rfl (by first | exact elem22 | exact elem45 | exact elem56 | exact elem58) (by kernel_rfl) (by kernel_rfl) (by kernel_rfl) H (fun b w' H1 => hK _ _ ?_))); clear hK K; replace H := H1; clear H1)); (try clear hc); (try simp only [nrm, splice, Value.cells, Nat.reduceAdd, Act.eval, Act.put] at H); have hc := H.cells; simp only [CellsOf, KnCells, knc, Nat.reduceAdd] at hc))) | go_values | go_skip | go_guarded | go_step | go_upon | go_back | dsimp only)
        exact ⟨⟨key, n + 1, cap', done ++ [p], _, rfl, ⟨hnx2.out.2.1, hnx2.out.2.2⟩, H, .inr ⟨by rw [← hm.out]; go_num, by rw [← hm.out]; go_num, by rw [← hm.out]; omega, hnx2.out.1⟩⟩, by simp [intOf]⟩
    · rw [← hm.out]
      have hc1 : decide (((m + 1 : Nat) : Int) ≤ (m : Int)) = false := by simp; omega
      have hc := H.cells; simp only [CellsOf, KnCells, knc, Nat.reduceAdd] at hc
      repeat' (first | (go_big_may; (first
    | ((first
        | (refine loud_ rfl ?_; refine wpList_plain rfl (fun K hK => ?_); (first | (refine op_box _ _ rfl H (fun b w' H1 => hK _ _ ?_)) | (refine op_alloc _ rfl (zero_of _ _ rfl) H (fun b w' H1 => hK _ _ ?_)) | (refine op_store _ _ _ rfl rfl rfl H (by repeat (first | exact Split.here _ _ | apply Split.there)) (by kernel_rfl) (by kernel_rfl) (by kernel_rfl) (fun w' H1 => hK _ _ ?_)) | (refine op_buildSlice_all _ _ _ rfl (by first | exact elem22 | exact elem45 | exact elem56 | exact elem58) (by kernel_rfl) (by kernel_rfl) (by kernel_rfl) H (fun b w' H1 => hK _ _ ?_))); clear hK K; replace H := H1; clear H1)); (try clear hc); (try simp only [nrm, splice, Value.cells, Nat.reduceAdd, Act.eval, Act.put] at H); have hc := H.cells; simp only [CellsOf, KnCells, knc, Nat.reduceAdd] at hc))) | go_values | go_skip | go_guarded | go_step | go_upon | go_back | dsimp only)
      go_ret
      exact ⟨key, n, cap, vs, by rw [hspl.out]; exact hvs, hnl, rfl, H⟩
end Go.Proofs.YtjknkdmenhcbkaaDoor
