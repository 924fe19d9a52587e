import Derived.Test.YtfnapcgbjdkpaaaSnpU
-- MORE
-- SUB2
namespace Go.Proofs.Ytfnapcgbjdkpaaa
set_option linter.unusedVariables false
set_option linter.unusedSimpArgs false
set_option linter.unnecessarySimpa false
open Go Go.RowKit Go.V Go.Lib

abbrev dStr : ByteArray := { data := #[100] }
theorem snapD : snapB [100] [] 2 1 = [10, 1, 100, 18, 6, 10, 0, 16, 2, 24, 1] := by
  have u0 : uvarint 0 = [0] := uvarint_small (by decide)
  have u1 : uvarint 1 = [1] := uvarint_small (by decide)
  have u2 : uvarint 2 = [2] := uvarint_small (by decide)
  have u6 : uvarint 6 = [6] := uvarint_small (by decide)
  have c0 : confB [] = [] := rfl
  simp [snapB, metaB, bfield, vfield, c0, u0, u1, u2, u6]
theorem crcD : 0 < crc (snapB [100] [] 2 1) := by
  rw [snapD]
  decide +kernel
theorem nameD : snapName 1 2 = { data := #[48, 48, 48, 48, 48, 48, 48, 48, 48, 48, 48, 48, 48, 48, 48, 49, 45, 48, 48, 48, 48, 48, 48, 48, 48, 48, 48, 48, 48, 48, 48, 48, 50, 46, 115, 110, 97, 112] } := by decide +kernel
theorem st_soft0 (w : World) : St [] w w [(false, soft none (u64s []))] := (St.init [] w).soft (Lies.nil w none)
theorem saveD_calls (w : World) : Calls Try.prog 8 #[.agg #[.string dStr, .int .u64 2, .int .u64 1, .slice none 0 0]] w fun e w' => e = .returned (.agg #[.string { data := #[48, 48, 48, 48, 48, 48, 48, 48, 48, 48, 48, 48, 48, 48, 48, 49, 45, 48, 48, 48, 48, 48, 48, 48, 48, 48, 48, 48, 48, 48, 48, 48, 50, 46, 115, 110, 97, 112] }, .string (saveB dStr 2 1 [])]) ∧ Ext [] w w' := by
  have h := snapSave_calls dStr (by decide) 2 1 (by decide) (Lib.hid ⟨by decide, by decide⟩) none [] 0 0 rfl (Lib.hid (by simp)) (by decide) w (st_soft0 w)
  rw [nameD] at h
  exact h
theorem saveD_size : (saveB dStr 2 1 []).size ≤ 1000000000 := by
  have h1 := crc_lt (snapB [100] [] 2 1)
  have h2 := uvarint_length64 (x := crc (snapB [100] [] 2 1)) (by omega)
  show (fileB (crc (snapB [100] [] 2 1)) (snapB [100] [] 2 1)).toArray.size ≤ _
  have u11 : uvarint 11 = [11] := uvarint_small (by decide)
  rw [List.size_toArray, fileB, List.length_append, vfield, List.length_cons]
  have h3 : (bfield 2 (snapB [100] [] 2 1)).length = 13 := by rw [snapD]; simp [bfield, u11]
  omega
theorem readD_calls (w : World) : Calls Try.prog 5 #[.string (saveB dStr 2 1 [])] w fun e w' => ∃ key n cap, e = .returned (.tuple #[.agg #[.string dStr, .int .u64 2, .int .u64 1, sl key n cap], .int .i64 0]) ∧ Ext [] w w' := by
  have hs : Hid ((saveB dStr 2 1 []).data.toList = fileB (crc (snapB [100] [] 2 1)) (snapB [100] [] 2 1)) := by show _ = _; simp [saveB]
  refine (srGood_calls (saveB dStr 2 1 []) [100] [] 2 1 hs (Lib.hid ⟨by decide, by decide⟩) (Lib.hid (by simp)) (by decide) crcD (by rw [snapD]; decide) saveD_size w).mono ?_
  rintro e w' ⟨key, n, cap, hn, rfl, H'⟩
  exact ⟨key, n, cap, rfl, H'.ext⟩
set_option maxHeartbeats 1000000 in
set_option maxRecDepth 8000 in
theorem snLive_calls (w : World) : Calls Try.prog 7 #[] w fun e w' => e = .returned (.bool true) ∧ Ext [] w w' := by
  have H := St.init [] w
  go_enter Try.func7, Try.ntmps7
  repeat' (first | (go_big_may; (first
    | go_skip
    | ((first
        | (go_at_call 8; refine Calls.mono (saveD_calls _) ?_; rintro e w' ⟨rfl, H'⟩; replace H := H.of_ext H'; clear H')
        | (go_at_call 5; refine Calls.mono (readD_calls _) ?_; rintro e w' ⟨key, n, cap, rfl, H'⟩; replace H := H.of_ext H'; clear H')
        | (refine loud_ rfl ?_; refine wpList_plain rfl (fun K hK => ?_); (first | (refine op_box _ _ rfl H (fun b w' H1 => hK _ _ ?_)) | (refine op_alloc _ rfl (zero_of _ _ rfl) H (fun b w' H1 => hK _ _ ?_)) | (refine op_store _ _ _ rfl rfl rfl H (by repeat (first | exact Split.here _ _ | apply Split.there)) (by kernel_rfl) (by kernel_rfl) (by kernel_rfl) (fun w' H1 => hK _ _ ?_)) | (refine op_buildSlice_all _ _ _ rfl (by first | exact elem23 | exact elem34 | exact elem51 | exact elem148) (by kernel_rfl) (by kernel_rfl) (by kernel_rfl) H (fun b w' H1 => hK _ _ ?_))); clear hK K; replace H := H1; clear H1)); (try clear hc); (try simp only [nrm, splice, Value.cells, Nat.reduceAdd, Act.eval, Act.put] at H); have hc := H.cells; simp only [CellsOf, KnCells, knc, Nat.reduceAdd] at hc))) | go_values | go_skip | go_guarded | go_step | go_upon | go_back | dsimp only)

  go_ret
  exact ⟨rfl, H.ext⟩
end Go.Proofs.Ytfnapcgbjdkpaaa
