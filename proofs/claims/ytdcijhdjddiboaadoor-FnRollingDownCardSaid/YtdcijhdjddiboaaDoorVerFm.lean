import Derived.Test.YtdcijhdjddiboaaDoorVerFa
-- MORE
namespace Go.Proofs.YtdcijhdjddiboaaDoor
set_option linter.unusedVariables false
set_option linter.unusedSimpArgs false
set_option linter.unnecessarySimpa false
open Go.RowKit Go.V

/-- How far a cluster is laid. -/
def AtFirst (w : World) (n : Nat) (a : ByteArray) (vb rb : Nat) (iv : Value) (wr : World) : Prop := ∃ (j : Nat) (key : Option Nat) (cap : Nat), j ≤ n ∧ iv = .int .i64 j ∧ (j = 0 → key = none) ∧
  St [] w wr [(true, .is vb (.cells #[.string a, .string a, .string ByteArray.empty, .bool false, .bool false, sl key j cap] 24 (0, 0))), (true, .row key 9 1 j cap (strs (List.replicate j a))),
    (true, .is rb (.cells #[.string ByteArray.empty, .string ByteArray.empty, .string ByteArray.empty, .bool false, .bool false, .slice none 0 0] 24 (0, 0)))]
theorem strs_snoc (j : Nat) (a : ByteArray) : strs (List.replicate j a) ++ [.string a] = strs (List.replicate (j + 1) a) := by
  rw [List.replicate_succ', strs, strs, List.map_append]
  rfl
set_option maxHeartbeats 4000000 in
set_option maxRecDepth 8000 in
theorem verFirst_calls (n : Nat) (m : Int) (hn : 1 ≤ n ∧ n ≤ 9) (hm : 0 ≤ m ∧ m ≤ 9999) (w : World) :
    Calls Tryd.prog 26 #[.int .i64 n, .int .i64 m] w fun e w' => ∃ mb cap, e = .returned (.agg #[.string (vstr ⟨3, m, 0⟩), .string (vstr ⟨3, m, 0⟩), .string ByteArray.empty, .bool false, .bool false, .slice (some ⟨mb, 0, none⟩) n cap]) ∧
      St [] w w' [(true, .row (some mb) 9 1 n cap (strs (List.replicate n (vstr ⟨3, m, 0⟩))))] := by
  have hX : Hid (∀ (w : World), Calls Tryd.prog 18 #[.agg #[.int .i64 3, .int .i64 m, .int .i64 0]] w fun e w' => e = .returned (.string (vstr ⟨3, m, 0⟩)) ∧ Ext [] w w') := fun w => verText_calls ⟨3, m, 0⟩ ⟨by show (0 : Int) ≤ 3 ∧ (3 : Int) ≤ 9999; decide, hm, by show (0 : Int) ≤ 0 ∧ (0 : Int) ≤ 9999; decide⟩ w
  generalize vstr ⟨3, m, 0⟩ = a at *
  obtain ⟨hn1, hn9⟩ := hn
  have H := St.init [] w
  go_enter Tryd.func26, Tryd.ntmps26
  go_wp2_with (first
    | go_skip
    | ((first
        | (go_at_call 18; refine Calls.mono (hX.out _) ?_; rintro e w' ⟨rfl, H'⟩; replace H := H.of_ext H'; clear H')
        | (refine loud_ rfl ?_; refine wpList_plain rfl (fun K hK => ?_); (first | (refine op_box _ _ rfl H (fun b w' H1 => hK _ _ ?_)) | (refine op_alloc _ rfl (zero_of _ _ rfl) H (fun b w' H1 => hK _ _ ?_)) | (refine op_store _ _ _ rfl rfl rfl H (by repeat (first | exact Split.here _ _ | apply Split.there)) (by kernel_rfl) (by kernel_rfl) (by kernel_rfl) (fun w' H1 => hK _ _ ?_)) | (refine op_buildSlice_all _ _ _ rfl (by first | exact elem22 | exact elem39 | exact elem76 | exact elem154) (by kernel_rfl) (by kernel_rfl) (by kernel_rfl) H (fun b w' H1 => hK _ _ ?_))); clear hK K; replace H := H1; clear H1)); (try clear hc); (try simp only [nrm, splice, Value.cells, Nat.reduceAdd, Act.eval, Act.put] at H); have hc := H.cells; simp only [CellsOf, KnCells, knc, Nat.reduceAdd] at hc))
  obtain ⟨vb, rfl⟩ : ∃ q : Nat, q = b := ⟨_, rfl⟩
  obtain ⟨rb, rfl⟩ : ∃ q : Nat, q = b := ⟨_, rfl⟩
  have hA0 : AtFirst w n a vb rb (.int .i64 (0 : Nat)) w' := ⟨0, none, 0, Nat.zero_le _, rfl, fun _ => rfl, (H.nilRow 9 1).sel (by repeat (first | exact Sel.nil _ | (apply Sel.cons; focus (repeat (first | exact Split.here _ _ | apply Split.there)))))⟩
  clear H hc
  (try simp only [Act.put, slt])
  go_loopw [14] (AtFirst w n a vb rb) (fun i _ => n - (intOf i).toNat)
  case atStart => exact hA0
  case round =>
    clear hA0
    obtain ⟨j, key, cap, hj, rfl, hk0, H⟩ := hrel
    by_cases hlt : j < n
    · have hlI : (j : Int) < n := by omega
      clear hk0
      have hc := H.cells; simp only [CellsOf, KnCells, knc, Nat.reduceAdd] at hc
      repeat' (first | (go_big_may; (first
    | ((first
        | (refine loud_ rfl ?_; refine wpList_plain rfl (fun K hK => ?_); (first | (refine op_append_lit _ _ _ rfl elem22 rfl rfl H (by repeat (first | exact Split.here _ _ | apply Split.there)) (by repeat (first | exact Split.here _ _ | apply Split.there)) (by kernel_rfl) (by kernel_rfl) (by omega) (by unfold maxLen; omega) (fun key cap' w' H1 => hK _ _ ?_)) | (refine op_box _ _ rfl H (fun b w' H1 => hK _ _ ?_)) | (refine op_alloc _ rfl (zero_of _ _ rfl) H (fun b w' H1 => hK _ _ ?_)) | (refine op_store _ _ _ rfl rfl rfl H (by repeat (first | exact Split.here _ _ | apply Split.there)) (by kernel_rfl) (by kernel_rfl) (by kernel_rfl) (fun w' H1 => hK _ _ ?_)) | (refine op_buildSlice_all _ _ _ rfl (by first | exact elem22 | exact elem39 | exact elem76 | exact elem154) (by kernel_rfl) (by kernel_rfl) (by kernel_rfl) H (fun b w' H1 => hK _ _ ?_))); clear hK K; replace H := H1; clear H1)); (try clear hc); (try simp only [nrm, splice, Value.cells, Nat.reduceAdd, Act.eval, Act.put] at H); have hc := H.cells; simp only [CellsOf, KnCells, knc, Nat.reduceAdd] at hc))) | go_values | go_skip | go_guarded | go_step | go_upon | go_back | dsimp only)
      rw [strs_snoc] at H
      exact ⟨⟨j + 1, _, _, by omega, by go_num, fun h => absurd h (by omega), H.sel (by repeat (first | exact Sel.nil _ | (apply Sel.cons; focus (repeat (first | exact Split.here _ _ | apply Split.there)))))⟩, by simp [intOf]; omega⟩
    · obtain rfl : j = n := by omega
      cases key with
      | none => exact absurd (H.get (Split.there _ (Split.here _ _))).1 (by omega)
      | some mb =>
        have hc := H.cells; simp only [CellsOf, KnCells, knc, Nat.reduceAdd] at hc
        repeat' (first | (go_big_may; (first
    | ((first
        | (refine loud_ rfl ?_; refine wpList_plain rfl (fun K hK => ?_); (first | (refine op_box _ _ rfl H (fun b w' H1 => hK _ _ ?_)) | (refine op_alloc _ rfl (zero_of _ _ rfl) H (fun b w' H1 => hK _ _ ?_)) | (refine op_store _ _ _ rfl rfl rfl H (by repeat (first | exact Split.here _ _ | apply Split.there)) (by kernel_rfl) (by kernel_rfl) (by kernel_rfl) (fun w' H1 => hK _ _ ?_)) | (refine op_buildSlice_all _ _ _ rfl (by first | exact elem22 | exact elem39 | exact elem76 | exact elem154) (by kernel_rfl) (by kernel_rfl) (by kernel_rfl) H (fun b w' H1 => hK _ _ ?_))); clear hK K; replace H := H1; clear H1)); (try clear hc); (try simp only [nrm, splice, Value.cells, Nat.reduceAdd, Act.eval, Act.put] at H); have hc := H.cells; simp only [CellsOf, KnCells, knc, Nat.reduceAdd] at hc))) | go_values | go_skip | go_guarded | go_step | go_upon | go_back | dsimp only)
        exact bodyPost_ret (v := .agg #[.string a, .string a, .string ByteArray.empty, .bool false, .bool false, .slice (some ⟨mb, 0, none⟩) j cap]) (by simp [results, Tryd.results26, go_sem, hc, Act.put]; try rfl) rfl ⟨mb, cap, rfl, H.sel (by repeat (first | exact Sel.nil _ | (apply Sel.cons; focus (repeat (first | exact Split.here _ _ | apply Split.there)))))⟩
end Go.Proofs.YtdcijhdjddiboaaDoor
