import Derived.Test.YtfnapcgbjdkpaaaSnpN
-- MORE
-- SUB2
namespace Go.Proofs.Ytfnapcgbjdkpaaa
set_option linter.unusedVariables false
set_option linter.unusedSimpArgs false
set_option linter.unnecessarySimpa false
open Go Go.RowKit Go.V Go.Lib

def snapName (t i : Nat) : ByteArray := hex16 t ++ { data := #[45] } ++ hex16 i ++ { data := #[46, 115, 110, 97, 112] }
theorem hex16_size (n : Nat) : (hex16 n).size = 16 := by
  show (hexs 16 n).toArray.size = 16
  rw [List.size_toArray, hexs_len]
theorem snapName_size (t i : Nat) : (snapName t i).size = 38 := by simp [snapName, ByteArray.size_append, hex16_size]; rfl
set_option maxHeartbeats 1000000 in
set_option maxRecDepth 8000 in
theorem save_calls (S : List Nat) (x fo m bs bm bc blk off : Nat) (d : List UInt8) (nd cd : Nat) (i t : Nat) (sv : Option Addr) (vs : List Nat) (n c : Nat) (hd : Hid (d.length = nd)) (hnd : nd ≤ 1000000) (hit : Hid (i < 18446744073709551616 ∧ t < 18446744073709551616)) (hn : Hid (vs.length = n)) (hv : Hid (∀ v ∈ vs, v < 18446744073709551616)) (hnn : n ≤ 1000000) (w : World)
    (H : St S w w [(true, .is m (.map #[] 0)), (false, .is x (snapperObj fo)), (false, .is fo (foldObj m)), (false, .is bs (snapObj (some ⟨blk, off, none⟩) nd cd bm)), (false, .is bm (metaObj bc i t)), (false, .is bc (confObj sv n c)), (false, soft (some ⟨blk, off, none⟩) (by8 d)), (false, soft sv (u64s vs))]) :
    Calls Try.prog 25 #[.pointer (some ⟨x, 0, none⟩), .pointer (some ⟨bs, 0, none⟩)] w fun e w' => ∃ j b cap ys, Hid (ys = by8 (fileB (crc (snapB d vs i t)) (snapB d vs i t)) ∧ j = ys.length) ∧ j ≤ 40000000 ∧ e = .returned .nilIface ∧
      St S w w' [(true, .is m (oneFile (snapName t i) (.slice (some ⟨b, 0, none⟩) j cap))), (true, .row (some b) 5 1 j cap ys)] := by
  have hs1 := hex16_size t
  have hs2 := hex16_size i
  have hs3 : (hex16 t ++ { data := #[45] }).size = 17 := by rw [ByteArray.size_append, hs1]; rfl
  have hs4 : (hex16 t ++ { data := #[45] } ++ hex16 i).size = 33 := by rw [ByteArray.size_append, hs3, hs2]
  have hc := H.cells; simp only [CellsOf, KnCells, knc, Nat.reduceAdd] at hc
  go_enter Try.func25, Try.ntmps25
  go_upto_region 1 with (first
    | ((first
        | (refine loud_ rfl ?_; refine wpList_plain rfl (fun K hK => ?_); (first | (refine op_box _ _ rfl H (fun b w' H1 => hK _ _ ?_)) | (refine op_alloc _ rfl (zero_of _ _ rfl) H (fun b w' H1 => hK _ _ ?_)) | (refine op_store _ _ _ rfl rfl rfl H (by repeat (first | exact Split.here _ _ | apply Split.there)) (by kernel_rfl) (by kernel_rfl) (by kernel_rfl) (fun w' H1 => hK _ _ ?_)) | (refine op_buildSlice_all _ _ _ rfl (by first | exact elem23 | exact elem34 | exact elem51 | exact elem148) (by kernel_rfl) (by kernel_rfl) (by kernel_rfl) H (fun b w' H1 => hK _ _ ?_))); clear hK K; replace H := H1; clear H1)); (try clear hc); (try simp only [nrm, splice, Value.cells, Nat.reduceAdd, Act.eval, Act.put] at H); have hc := H.cells; simp only [CellsOf, KnCells, knc, Nat.reduceAdd] at hc))
  (try simp only [Act.put, slt])
  refine wp_region_plan (.p [0, 1, 2] (.q [3] (.p [7, 8, 9] (.q [10] (.e 4 (.e 5 (.p [6] (.e 11 (.e 12 (.p [13, 14, 15] .done)))))))))) [11, 12] (by kernel_rfl) (by kernel_rfl) (fun _ _ d _ _ h => by cases d <;> exact h) H ?_
  clear H
  (try clear hc)
  intro X nX fX wd hcf hS H
  simp only [CellsOf, KnCells, knc, Nat.reduceAdd] at hcf
  have hc := H.cells
  simp only [CellsOf, KnCells, knc, Nat.reduceAdd] at hc
  iterate 3 (refine plan_p (o := ⟨_, _, _, _, _, _⟩) rfl (fun N hN => ?_); go_big_quiet_step (fail); refine wpQuiet_nil (hN _ ?_); clear hN N)
  refine plan_p0 ?_
  iterate 1 (refine plan_q (o := ⟨_, _, _, _, _, _⟩) rfl (fun N hN => ?_); go_big_quiet_step (fail); refine wpQuiet_nil (hN _ ?_); clear hN N)
  refine plan_q0 ?_
  iterate 3 (refine plan_p (o := ⟨_, _, _, _, _, _⟩) rfl (fun N hN => ?_); go_big_quiet_step (fail); refine wpQuiet_nil (hN _ ?_); clear hN N)
  refine plan_p0 ?_
  iterate 1 (refine plan_q (o := ⟨_, _, _, _, _, _⟩) rfl (fun N hN => ?_); go_big_quiet_step (fail); refine wpQuiet_nil (hN _ ?_); clear hN N)
  refine plan_q0 ?_
  refine plan_e (o := ⟨_, _, _, _, _, _⟩) rfl rfl (fun K hK => ?_)
  (first | (go_step; go_at_call 31; refine Calls.mono (getTerm_calls bm bc i t _ (H.obj (by repeat (first | exact Split.here _ _ | apply Split.there)))) ?_; rintro e w' ⟨rfl, H'⟩; replace H := H.of_ext H'; clear H') | (go_step; go_at_call 24; refine Calls.mono (getIndex_calls bm bc i t _ (H.obj (by repeat (first | exact Split.here _ _ | apply Split.there)))) ?_; rintro e w' ⟨rfl, H'⟩; replace H := H.of_ext H'; clear H') | (go_step; go_at_call 30; refine Calls.mono (zzHex_calls _ (by first | exact hit.out.1 | exact hit.out.2) _) ?_; rintro e w' ⟨rfl, H'⟩; replace H := H.of_ext H'; clear H') | (refine op_box _ _ rfl H (fun b w' H1 => ?_); replace H := H1; clear H1) | (refine op_alloc _ rfl (zero_of _ _ rfl) H (fun b w' H1 => ?_); replace H := H1; clear H1) | (refine op_store _ _ _ rfl rfl rfl H (by repeat (first | exact Split.here _ _ | apply Split.there)) (by kernel_rfl) (by kernel_rfl) (by kernel_rfl) (fun w' H1 => ?_); replace H := H1; clear H1) | (refine op_buildSlice_all _ _ _ rfl (by first | exact elem23 | exact elem34 | exact elem51 | exact elem148) (by kernel_rfl) (by kernel_rfl) (by kernel_rfl) H (fun b w' H1 => ?_); replace H := H1; clear H1)); (try clear hc); (try simp only [nrm, splice, Value.cells, Nat.reduceAdd, Act.eval, Act.put] at H); have hc := H.cells; simp only [CellsOf, KnCells, knc, Nat.reduceAdd] at hc; refine hK _ _ (fun _ _ => hS _ (H.sublist (by repeat (first | exact List.Sublist.refl _ | exact List.nil_sublist _ | apply List.Sublist.cons_cons | apply List.Sublist.cons))).all) ?_; clear hK K; (try simp only [Act.put, slt])
  refine plan_e (o := ⟨_, _, _, _, _, _⟩) rfl rfl (fun K hK => ?_)
  (first | (go_step; go_at_call 31; refine Calls.mono (getTerm_calls bm bc i t _ (H.obj (by repeat (first | exact Split.here _ _ | apply Split.there)))) ?_; rintro e w' ⟨rfl, H'⟩; replace H := H.of_ext H'; clear H') | (go_step; go_at_call 24; refine Calls.mono (getIndex_calls bm bc i t _ (H.obj (by repeat (first | exact Split.here _ _ | apply Split.there)))) ?_; rintro e w' ⟨rfl, H'⟩; replace H := H.of_ext H'; clear H') | (go_step; go_at_call 30; refine Calls.mono (zzHex_calls _ (by first | exact hit.out.1 | exact hit.out.2) _) ?_; rintro e w' ⟨rfl, H'⟩; replace H := H.of_ext H'; clear H') | (refine op_box _ _ rfl H (fun b w' H1 => ?_); replace H := H1; clear H1) | (refine op_alloc _ rfl (zero_of _ _ rfl) H (fun b w' H1 => ?_); replace H := H1; clear H1) | (refine op_store _ _ _ rfl rfl rfl H (by repeat (first | exact Split.here _ _ | apply Split.there)) (by kernel_rfl) (by kernel_rfl) (by kernel_rfl) (fun w' H1 => ?_); replace H := H1; clear H1) | (refine op_buildSlice_all _ _ _ rfl (by first | exact elem23 | exact elem34 | exact elem51 | exact elem148) (by kernel_rfl) (by kernel_rfl) (by kernel_rfl) H (fun b w' H1 => ?_); replace H := H1; clear H1)); (try clear hc); (try simp only [nrm, splice, Value.cells, Nat.reduceAdd, Act.eval, Act.put] at H); have hc := H.cells; simp only [CellsOf, KnCells, knc, Nat.reduceAdd] at hc; refine hK _ _ (fun _ _ => hS _ (H.sublist (by repeat (first | exact List.Sublist.refl _ | exact List.nil_sublist _ | apply List.Sublist.cons_cons | apply List.Sublist.cons))).all) ?_; clear hK K; (try simp only [Act.put, slt])
  iterate 1 (refine plan_p (o := ⟨_, _, _, _, _, _⟩) rfl (fun N hN => ?_); go_big_quiet_step (fail); refine wpQuiet_nil (hN _ ?_); clear hN N)
  refine plan_p0 ?_
  refine plan_e (o := ⟨_, _, _, _, _, _⟩) rfl rfl (fun K hK => ?_)
  (first | (go_step; go_at_call 31; refine Calls.mono (getTerm_calls bm bc i t _ (H.obj (by repeat (first | exact Split.here _ _ | apply Split.there)))) ?_; rintro e w' ⟨rfl, H'⟩; replace H := H.of_ext H'; clear H') | (go_step; go_at_call 24; refine Calls.mono (getIndex_calls bm bc i t _ (H.obj (by repeat (first | exact Split.here _ _ | apply Split.there)))) ?_; rintro e w' ⟨rfl, H'⟩; replace H := H.of_ext H'; clear H') | (go_step; go_at_call 30; refine Calls.mono (zzHex_calls _ (by first | exact hit.out.1 | exact hit.out.2) _) ?_; rintro e w' ⟨rfl, H'⟩; replace H := H.of_ext H'; clear H') | (refine op_box _ _ rfl H (fun b w' H1 => ?_); replace H := H1; clear H1) | (refine op_alloc _ rfl (zero_of _ _ rfl) H (fun b w' H1 => ?_); replace H := H1; clear H1) | (refine op_store _ _ _ rfl rfl rfl H (by repeat (first | exact Split.here _ _ | apply Split.there)) (by kernel_rfl) (by kernel_rfl) (by kernel_rfl) (fun w' H1 => ?_); replace H := H1; clear H1) | (refine op_buildSlice_all _ _ _ rfl (by first | exact elem23 | exact elem34 | exact elem51 | exact elem148) (by kernel_rfl) (by kernel_rfl) (by kernel_rfl) H (fun b w' H1 => ?_); replace H := H1; clear H1)); (try clear hc); (try simp only [nrm, splice, Value.cells, Nat.reduceAdd, Act.eval, Act.put] at H); have hc := H.cells; simp only [CellsOf, KnCells, knc, Nat.reduceAdd] at hc; refine hK _ _ (fun h => (h (by decide)).elim) ?_; clear hK K; (try simp only [Act.put, slt])
  refine plan_e (o := ⟨_, _, _, _, _, _⟩) rfl rfl (fun K hK => ?_)
  (first | (go_step; go_at_call 31; refine Calls.mono (getTerm_calls bm bc i t _ (H.obj (by repeat (first | exact Split.here _ _ | apply Split.there)))) ?_; rintro e w' ⟨rfl, H'⟩; replace H := H.of_ext H'; clear H') | (go_step; go_at_call 24; refine Calls.mono (getIndex_calls bm bc i t _ (H.obj (by repeat (first | exact Split.here _ _ | apply Split.there)))) ?_; rintro e w' ⟨rfl, H'⟩; replace H := H.of_ext H'; clear H') | (go_step; go_at_call 30; refine Calls.mono (zzHex_calls _ (by first | exact hit.out.1 | exact hit.out.2) _) ?_; rintro e w' ⟨rfl, H'⟩; replace H := H.of_ext H'; clear H') | (refine op_box _ _ rfl H (fun b w' H1 => ?_); replace H := H1; clear H1) | (refine op_alloc _ rfl (zero_of _ _ rfl) H (fun b w' H1 => ?_); replace H := H1; clear H1) | (refine op_store _ _ _ rfl rfl rfl H (by repeat (first | exact Split.here _ _ | apply Split.there)) (by kernel_rfl) (by kernel_rfl) (by kernel_rfl) (fun w' H1 => ?_); replace H := H1; clear H1) | (refine op_buildSlice_all _ _ _ rfl (by first | exact elem23 | exact elem34 | exact elem51 | exact elem148) (by kernel_rfl) (by kernel_rfl) (by kernel_rfl) H (fun b w' H1 => ?_); replace H := H1; clear H1)); (try clear hc); (try simp only [nrm, splice, Value.cells, Nat.reduceAdd, Act.eval, Act.put] at H); have hc := H.cells; simp only [CellsOf, KnCells, knc, Nat.reduceAdd] at hc; refine hK _ _ (fun h => (h (by decide)).elim) ?_; clear hK K; (try simp only [Act.put, slt])
  iterate 3 (refine plan_p (o := ⟨_, _, _, _, _, _⟩) rfl (fun N hN => ?_); go_big_quiet_step (fail); refine wpQuiet_nil (hN _ ?_); clear hN N)
  refine plan_p0 ?_
  refine plan_done ?_
  clear hs1 hs2 hs3 hs4
  go_upto_region 2 with (first
    | ((first
        | (refine loud_ rfl ?_; refine wpList_plain rfl (fun K hK => ?_); (first | (refine op_box _ _ rfl H (fun b w' H1 => hK _ _ ?_)) | (refine op_alloc _ rfl (zero_of _ _ rfl) H (fun b w' H1 => hK _ _ ?_)) | (refine op_store _ _ _ rfl rfl rfl H (by repeat (first | exact Split.here _ _ | apply Split.there)) (by kernel_rfl) (by kernel_rfl) (by kernel_rfl) (fun w' H1 => hK _ _ ?_)) | (refine op_buildSlice_all _ _ _ rfl (by first | exact elem23 | exact elem34 | exact elem51 | exact elem148) (by kernel_rfl) (by kernel_rfl) (by kernel_rfl) H (fun b w' H1 => hK _ _ ?_))); clear hK K; replace H := H1; clear H1)); (try clear hc); (try simp only [nrm, splice, Value.cells, Nat.reduceAdd, Act.eval, Act.put] at H); have hc := H.cells; simp only [CellsOf, KnCells, knc, Nat.reduceAdd] at hc))
  have hnm : hex16 t ++ { data := #[45] } ++ hex16 i ++ { data := #[46, 115, 110, 97, 112] } = snapName t i := rfl
  rw [hnm]
  clear hnm
  have hsz := Lib.hid (snapName_size t i)
  obtain ⟨nm, hnE⟩ : ∃ q, Hid (q = snapName t i) := ⟨_, rfl⟩
  rw [← hnE.out] at hsz ⊢
  repeat' (first | (go_big_may; (first
    | ((first
        | (refine loud_ rfl ?_; refine wpList_plain rfl (fun K hK => ?_); (first | (refine op_box _ _ rfl H (fun b w' H1 => hK _ _ ?_)) | (refine op_alloc _ rfl (zero_of _ _ rfl) H (fun b w' H1 => hK _ _ ?_)) | (refine op_store _ _ _ rfl rfl rfl H (by repeat (first | exact Split.here _ _ | apply Split.there)) (by kernel_rfl) (by kernel_rfl) (by kernel_rfl) (fun w' H1 => hK _ _ ?_)) | (refine op_buildSlice_all _ _ _ rfl (by first | exact elem23 | exact elem34 | exact elem51 | exact elem148) (by kernel_rfl) (by kernel_rfl) (by kernel_rfl) H (fun b w' H1 => hK _ _ ?_))); clear hK K; replace H := H1; clear H1)); (try clear hc); (try simp only [nrm, splice, Value.cells, Nat.reduceAdd, Act.eval, Act.put] at H); have hc := H.cells; simp only [CellsOf, KnCells, knc, Nat.reduceAdd] at hc))) | go_values | go_skip | go_guarded | go_step | go_upon | go_back | dsimp only)
  go_at_call 32
  refine Calls.mono (marshalSnap bs bm bc blk off d nd cd i t sv vs n c hd hnd hit hn hv hnn _ (H.pick (by repeat (first | exact Picks.nil _ | (apply Picks.wr; focus (repeat (first | exact Split.here _ _ | apply Split.there))) | (apply Picks.rd; focus (repeat (first | exact Split.here _ _ | apply Split.there))))))) ?_
  rintro e w' ⟨j1, b1, cap1, ys1, hj1, hb1, rfl, H'⟩
  replace H := H.merge (by first | exact Strikes.nil _ | (repeat (first | exact Strikes.nil _ | (apply Strikes.cons; focus (repeat (first | exact Split.here _ _ | apply Split.there)))))) H' rfl
  clear H'
  obtain ⟨rfl, hj2⟩ := hj1.out
  have hpl : Hid ((snapB d vs i t).length = j1) := by rw [hj2, by8_len]; exact rfl
  clear hj1 hj2
  obtain ⟨p, hpE⟩ : ∃ q, Hid (q = snapB d vs i t) := ⟨_, rfl⟩
  rw [← hpE.out] at hpl H
  replace H := H.rowSoft (key := some b1) (by repeat (first | exact Split.here _ _ | apply Split.there))
  (try simp only [List.append, Option.map_some] at H)
  (try simp only [nrm, splice, Value.cells, Nat.reduceAdd, Act.eval, Act.put] at H); have hc := H.cells; simp only [CellsOf, KnCells, knc, Nat.reduceAdd] at hc
  have hcr := Lib.hid (crc_lt p)
  repeat' (first | (go_big_may; (first
    | go_skip
    | ((first
        | (go_at_call 22; refine Calls.mono (sumOf_calls _ p _ _ hpl (by omega) _ (H.pick (by repeat (first | exact Picks.nil _ | (apply Picks.wr; focus (repeat (first | exact Split.here _ _ | apply Split.there))) | (apply Picks.rd; focus (repeat (first | exact Split.here _ _ | apply Split.there))))))) ?_; rintro e w' ⟨rfl, H'⟩; replace H := H.of_ext H'; clear H')
        | (refine loud_ rfl ?_; refine wpList_plain rfl (fun K hK => ?_); (first | (refine op_box _ _ rfl H (fun b w' H1 => hK _ _ ?_)) | (refine op_alloc _ rfl (zero_of _ _ rfl) H (fun b w' H1 => hK _ _ ?_)) | (refine op_store _ _ _ rfl rfl rfl H (by repeat (first | exact Split.here _ _ | apply Split.there)) (by kernel_rfl) (by kernel_rfl) (by kernel_rfl) (fun w' H1 => hK _ _ ?_)) | (refine op_buildSlice_all _ _ _ rfl (by first | exact elem23 | exact elem34 | exact elem51 | exact elem148) (by kernel_rfl) (by kernel_rfl) (by kernel_rfl) H (fun b w' H1 => hK _ _ ?_))); clear hK K; replace H := H1; clear H1)); (try clear hc); (try simp only [nrm, splice, Value.cells, Nat.reduceAdd, Act.eval, Act.put] at H); have hc := H.cells; simp only [CellsOf, KnCells, knc, Nat.reduceAdd] at hc))) | go_values | go_skip | go_guarded | go_step | go_upon | go_back | dsimp only)
  go_at_call 32
  refine Calls.mono (marshalFile _ _ _ (crc p) p _ _ hpl (by omega) hcr _ (H.pick (by repeat (first | exact Picks.nil _ | (apply Picks.wr; focus (repeat (first | exact Split.here _ _ | apply Split.there))) | (apply Picks.rd; focus (repeat (first | exact Split.here _ _ | apply Split.there))))))) ?_
  rintro e w' ⟨j2, b2, cap2, ys2, hj2, hb2, rfl, H'⟩
  replace H := H.merge (by first | exact Strikes.nil _ | (repeat (first | exact Strikes.nil _ | (apply Strikes.cons; focus (repeat (first | exact Split.here _ _ | apply Split.there)))))) H' rfl
  clear H'
  (try simp only [nrm, splice, Value.cells, Nat.reduceAdd, Act.eval, Act.put] at H); have hc := H.cells; simp only [CellsOf, KnCells, knc, Nat.reduceAdd] at hc
  repeat' (first | (go_big_may; (first
    | go_skip
    | ((first
        | (go_at_call 11; refine Calls.mono (foldWrite1 _ fo m nm (by rw [hsz.out]; unfold maxLen; omega) _ _ _ _ (H.pick (by repeat (first | exact Picks.nil _ | (apply Picks.wr; focus (repeat (first | exact Split.here _ _ | apply Split.there))) | (apply Picks.rd; focus (repeat (first | exact Split.here _ _ | apply Split.there))))))) ?_; rintro e w' ⟨rfl, H'⟩; replace H := H.merge (by first | exact Strikes.nil _ | (repeat (first | exact Strikes.nil _ | (apply Strikes.cons; focus (repeat (first | exact Split.here _ _ | apply Split.there)))))) H' rfl; clear H')
        | (refine loud_ rfl ?_; refine wpList_plain rfl (fun K hK => ?_); (first | (refine op_box _ _ rfl H (fun b w' H1 => hK _ _ ?_)) | (refine op_alloc _ rfl (zero_of _ _ rfl) H (fun b w' H1 => hK _ _ ?_)) | (refine op_store _ _ _ rfl rfl rfl H (by repeat (first | exact Split.here _ _ | apply Split.there)) (by kernel_rfl) (by kernel_rfl) (by kernel_rfl) (fun w' H1 => hK _ _ ?_)) | (refine op_buildSlice_all _ _ _ rfl (by first | exact elem23 | exact elem34 | exact elem51 | exact elem148) (by kernel_rfl) (by kernel_rfl) (by kernel_rfl) H (fun b w' H1 => hK _ _ ?_))); clear hK K; replace H := H1; clear H1)); (try clear hc); (try simp only [nrm, splice, Value.cells, Nat.reduceAdd, Act.eval, Act.put] at H); have hc := H.cells; simp only [CellsOf, KnCells, knc, Nat.reduceAdd] at hc))) | go_values | go_skip | go_guarded | go_step | go_upon | go_back | dsimp only)
  go_ret
  rw [hpE.out] at hj2
  rw [hnE.out] at H
  exact ⟨j2, b2, cap2, ys2, hj2, hb2, rfl, H.sel (by repeat (first | exact Sel.nil _ | (apply Sel.cons; focus (repeat (first | exact Split.here _ _ | apply Split.there)))))⟩
set_option maxHeartbeats 1000000 in
set_option maxRecDepth 8000 in
theorem saveSnap_calls (S : List Nat) (x fo m bs bm bc blk off : Nat) (d : List UInt8) (nd cd : Nat) (i t : Nat) (hi0 : 0 < i) (sv : Option Addr) (vs : List Nat) (n c : Nat) (hd : Hid (d.length = nd)) (hnd : nd ≤ 1000000) (hit : Hid (i < 18446744073709551616 ∧ t < 18446744073709551616)) (hn : Hid (vs.length = n)) (hv : Hid (∀ v ∈ vs, v < 18446744073709551616)) (hnn : n ≤ 1000000) (w : World)
    (H : St S w w [(true, .is m (.map #[] 0)), (false, .is x (snapperObj fo)), (false, .is fo (foldObj m)), (false, .is bs (snapObj (some ⟨blk, off, none⟩) nd cd bm)), (false, .is bm (metaObj bc i t)), (false, .is bc (confObj sv n c)), (false, soft (some ⟨blk, off, none⟩) (by8 d)), (false, soft sv (u64s vs))]) :
    Calls Try.prog 16 #[.pointer (some ⟨x, 0, none⟩), .pointer (some ⟨bs, 0, none⟩)] w fun e w' => ∃ j b cap ys, Hid (ys = by8 (fileB (crc (snapB d vs i t)) (snapB d vs i t)) ∧ j = ys.length) ∧ j ≤ 40000000 ∧ e = .returned .nilIface ∧
      St S w w' [(true, .is m (oneFile (snapName t i) (.slice (some ⟨b, 0, none⟩) j cap))), (true, .row (some b) 5 1 j cap ys)] := by
  have hi1 : ((i : Int) == 0) = false := by simp; omega
  have hc := H.cells; simp only [CellsOf, KnCells, knc, Nat.reduceAdd] at hc
  go_enter Try.func16, Try.ntmps16
  repeat' (first | (go_big_may; (first
    | go_skip
    | ((first
        | (go_at_call 24; refine Calls.mono (getIndex_calls bm bc i t _ (H.obj (by repeat (first | exact Split.here _ _ | apply Split.there)))) ?_; rintro e w' ⟨rfl, H'⟩; replace H := H.of_ext H'; clear H')
        | (refine loud_ rfl ?_; refine wpList_plain rfl (fun K hK => ?_); (first | (refine op_box _ _ rfl H (fun b w' H1 => hK _ _ ?_)) | (refine op_alloc _ rfl (zero_of _ _ rfl) H (fun b w' H1 => hK _ _ ?_)) | (refine op_store _ _ _ rfl rfl rfl H (by repeat (first | exact Split.here _ _ | apply Split.there)) (by kernel_rfl) (by kernel_rfl) (by kernel_rfl) (fun w' H1 => hK _ _ ?_)) | (refine op_buildSlice_all _ _ _ rfl (by first | exact elem23 | exact elem34 | exact elem51 | exact elem148) (by kernel_rfl) (by kernel_rfl) (by kernel_rfl) H (fun b w' H1 => hK _ _ ?_))); clear hK K; replace H := H1; clear H1)); (try clear hc); (try simp only [nrm, splice, Value.cells, Nat.reduceAdd, Act.eval, Act.put] at H); have hc := H.cells; simp only [CellsOf, KnCells, knc, Nat.reduceAdd] at hc))) | go_values | go_skip | go_guarded | go_step | go_upon | go_back | dsimp only)
  go_at_call 25
  refine Calls.mono (save_calls _ x fo m bs bm bc blk off d nd cd i t sv vs n c hd hnd hit hn hv hnn _ (H.pick (by repeat (first | exact Picks.nil _ | (apply Picks.wr; focus (repeat (first | exact Split.here _ _ | apply Split.there))) | (apply Picks.rd; focus (repeat (first | exact Split.here _ _ | apply Split.there))))))) ?_
  rintro e w' ⟨j2, b2, cap2, ys2, hj2, hb2, rfl, H'⟩
  replace H := H.merge (by first | exact Strikes.nil _ | (repeat (first | exact Strikes.nil _ | (apply Strikes.cons; focus (repeat (first | exact Split.here _ _ | apply Split.there)))))) H' rfl
  clear H'
  (try simp only [nrm, splice, Value.cells, Nat.reduceAdd, Act.eval, Act.put] at H); have hc := H.cells; simp only [CellsOf, KnCells, knc, Nat.reduceAdd] at hc
  repeat' (first | (go_big_may; (first
    | ((first
        | (refine loud_ rfl ?_; refine wpList_plain rfl (fun K hK => ?_); (first | (refine op_box _ _ rfl H (fun b w' H1 => hK _ _ ?_)) | (refine op_alloc _ rfl (zero_of _ _ rfl) H (fun b w' H1 => hK _ _ ?_)) | (refine op_store _ _ _ rfl rfl rfl H (by repeat (first | exact Split.here _ _ | apply Split.there)) (by kernel_rfl) (by kernel_rfl) (by kernel_rfl) (fun w' H1 => hK _ _ ?_)) | (refine op_buildSlice_all _ _ _ rfl (by first | exact elem23 | exact elem34 | exact elem51 | exact elem148) (by kernel_rfl) (by kernel_rfl) (by kernel_rfl) H (fun b w' H1 => hK _ _ ?_))); clear hK K; replace H := H1; clear H1)); (try clear hc); (try simp only [nrm, splice, Value.cells, Nat.reduceAdd, Act.eval, Act.put] at H); have hc := H.cells; simp only [CellsOf, KnCells, knc, Nat.reduceAdd] at hc))) | go_values | go_skip | go_guarded | go_step | go_upon | go_back | dsimp only)
  go_ret
  exact ⟨j2, b2, cap2, ys2, hj2, hb2, rfl, H.sel (by repeat (first | exact Sel.nil _ | (apply Sel.cons; focus (repeat (first | exact Split.here _ _ | apply Split.there)))))⟩
end Go.Proofs.Ytfnapcgbjdkpaaa
