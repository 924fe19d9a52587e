import Derived.Test.YtfnapcgbjdkpaaaSnpR
-- MORE
-- SUB2
namespace Go.Proofs.Ytfnapcgbjdkpaaa
set_option linter.unusedVariables false
set_option linter.unusedSimpArgs false
set_option linter.unnecessarySimpa false
open Go Go.RowKit Go.V Go.Lib

theorem eqEE (w : World) : (binOp BinOp.eql 39 errEmpty errEmpty).run Try.prog w = .ok (.bool true) w := by kernel_rfl
theorem eqCE (w : World) : (binOp BinOp.eql 39 errCrc errEmpty).run Try.prog w = .ok (.bool false) w := by kernel_rfl
theorem eqCC (w : World) : (binOp BinOp.eql 39 errCrc errCrc).run Try.prog w = .ok (.bool true) w := by kernel_rfl
abbrev snap0 : Value := .agg #[.string ByteArray.empty, .int .u64 0, .int .u64 0, .slice none 0 0]
set_option maxHeartbeats 1000000 in
set_option maxRecDepth 8000 in
theorem srEmpty_calls (w : World) :
    Calls Try.prog 5 #[.string ByteArray.empty] w fun e w' => e = .returned (.tuple #[snap0, .int .i64 1]) ∧ Ext [] w w' := by
  have H := St.init [] w
  go_enter Try.func5, Try.ntmps5
  have hsz : ByteArray.empty.size = 0 := rfl
  go_upto_region 4 with (first
    | go_skip
    | ((first
        | (go_at_call 10; refine Calls.mono (foldNew_calls _) ?_; rintro e w' ⟨fo, m, rfl, H'⟩; replace H := H.merge (by first | exact Strikes.nil _ | (repeat (first | exact Strikes.nil _ | (apply Strikes.cons; focus (repeat (first | exact Split.here _ _ | apply Split.there)))))) H' rfl; clear H')
        | (go_at_call 11; refine Calls.mono (foldWrite1 _ fo m nmX nmX_size _ _ _ _ (H.pick (by repeat (first | exact Picks.nil _ | (apply Picks.wr; focus (repeat (first | exact Split.here _ _ | apply Split.there))) | (apply Picks.rd; focus (repeat (first | exact Split.here _ _ | apply Split.there))))))) ?_; rintro e w' ⟨rfl, H'⟩; replace H := H.merge (by first | exact Strikes.nil _ | (repeat (first | exact Strikes.nil _ | (apply Strikes.cons; focus (repeat (first | exact Split.here _ _ | apply Split.there)))))) H' rfl; clear H')
        | (go_at_call 12; refine Calls.mono (readEmpty_calls fo m _ _ _ (H.pick (by repeat (first | exact Picks.nil _ | (apply Picks.wr; focus (repeat (first | exact Split.here _ _ | apply Split.there))) | (apply Picks.rd; focus (repeat (first | exact Split.here _ _ | apply Split.there))))))) ?_; rintro e w' ⟨rfl, H'⟩; replace H := H.of_ext H'; clear H')
        | (refine loud_ rfl ?_; refine wpList_plain rfl (fun K hK => ?_); (first | (refine op_convBytes_by8 9 34 5 _ rfl Try.underlying9 Try.underlying34 Try.underlying5 ByteArray.empty rfl H (fun b1 w' cap1 hcap1 H1 => hK _ _ ?_)) | (refine op_box _ _ rfl H (fun b w' H1 => hK _ _ ?_)) | (refine op_alloc _ rfl (zero_of _ _ rfl) H (fun b w' H1 => hK _ _ ?_)) | (refine op_store _ _ _ rfl rfl rfl H (by repeat (first | exact Split.here _ _ | apply Split.there)) (by kernel_rfl) (by kernel_rfl) (by kernel_rfl) (fun w' H1 => hK _ _ ?_)) | (refine op_buildSlice_all _ _ _ rfl (by first | exact elem23 | exact elem34 | exact elem51 | exact elem148) (by kernel_rfl) (by kernel_rfl) (by kernel_rfl) H (fun b w' H1 => hK _ _ ?_))); clear hK K; replace H := H1; clear H1)); (try clear hc); (try simp only [nrm, splice, Value.cells, Nat.reduceAdd, Act.eval, Act.put] at H); have hc := H.cells; simp only [CellsOf, KnCells, knc, Nat.reduceAdd] at hc))
  clear hsz
  have h1 := eqEE
  have hc := H.cells; simp only [CellsOf, KnCells, knc, Nat.reduceAdd] at hc
  repeat' (first | (go_big_may; (first
    | ((first
        | (refine loud_ rfl ?_; refine wpList_plain rfl (fun K hK => ?_); (first | (refine op_box _ _ rfl H (fun b w' H1 => hK _ _ ?_)) | (refine op_alloc _ rfl (zero_of _ _ rfl) H (fun b w' H1 => hK _ _ ?_)) | (refine op_store _ _ _ rfl rfl rfl H (by repeat (first | exact Split.here _ _ | apply Split.there)) (by kernel_rfl) (by kernel_rfl) (by kernel_rfl) (fun w' H1 => hK _ _ ?_)) | (refine op_buildSlice_all _ _ _ rfl (by first | exact elem23 | exact elem34 | exact elem51 | exact elem148) (by kernel_rfl) (by kernel_rfl) (by kernel_rfl) H (fun b w' H1 => hK _ _ ?_))); clear hK K; replace H := H1; clear H1)); (try clear hc); (try simp only [nrm, splice, Value.cells, Nat.reduceAdd, Act.eval, Act.put] at H); have hc := H.cells; simp only [CellsOf, KnCells, knc, Nat.reduceAdd] at hc))) | go_values | go_skip | go_guarded | go_step | go_upon | go_back | dsimp only)
  exact bodyPost_ret (v := .tuple #[snap0, .int .i64 1]) (by simp [results, Try.results5, go_sem, hc, Act.put]; try rfl) rfl ⟨rfl, H.ext⟩
set_option maxHeartbeats 1000000 in
set_option maxRecDepth 8000 in
theorem srBad_calls (s : ByteArray) (r : Nat) (p : List UInt8) (hs : Hid (s.data.toList = fileB r p)) (hr : r < 4294967296) (hr0 : 0 < r) (hp0 : 0 < p.length) (hpn : p.length ≤ 30000000) (hbad : crc p ≠ r) (hn : s.size ≤ 1000000000) (w : World) :
    Calls Try.prog 5 #[.string s] w fun e w' => e = .returned (.tuple #[snap0, .int .i64 2]) ∧ Ext [] w w' := by
  have H := St.init [] w
  have hl : Hid ((fileB r p).length = s.size) := by rw [← hs.out, Array.length_toList]; exact rfl
  have hn0 : 0 < s.size := by rw [← hl.out, fileB, List.length_append]; have := vf_len 8 r; omega
  go_enter Try.func5, Try.ntmps5
  go_upto_region 4 with (first
    | go_skip
    | (go_at_call 11; refine Calls.mono (foldWrite1 _ fo m nmX nmX_size _ _ _ _ (H.pick (by repeat (first | exact Picks.nil _ | (apply Picks.wr; focus (repeat (first | exact Split.here _ _ | apply Split.there))) | (apply Picks.rd; focus (repeat (first | exact Split.here _ _ | apply Split.there))))))) ?_; rintro e w' ⟨rfl, H'⟩; replace H := H.merge (by first | exact Strikes.nil _ | (repeat (first | exact Strikes.nil _ | (apply Strikes.cons; focus (repeat (first | exact Split.here _ _ | apply Split.there)))))) H' rfl; clear H'; (try clear hc); (try simp only [nrm, splice, Value.cells, Nat.reduceAdd, Act.eval, Act.put] at H); have hc := H.cells; simp only [CellsOf, KnCells, knc, Nat.reduceAdd] at hc; replace H := H.arrSoft (by repeat (first | exact Split.here _ _ | apply Split.there)); (try simp only [List.append] at H); rw [hs.out] at H)
    | ((first
        | (go_at_call 10; refine Calls.mono (foldNew_calls _) ?_; rintro e w' ⟨fo, m, rfl, H'⟩; replace H := H.merge (by first | exact Strikes.nil _ | (repeat (first | exact Strikes.nil _ | (apply Strikes.cons; focus (repeat (first | exact Split.here _ _ | apply Split.there)))))) H' rfl; clear H')
        | (go_at_call 12; refine Calls.mono (readBad_calls fo m _ _ _ r p hr hr0 hp0 hpn hl hn hn0 hcap1 hbad _ (H.pick (by repeat (first | exact Picks.nil _ | (apply Picks.wr; focus (repeat (first | exact Split.here _ _ | apply Split.there))) | (apply Picks.rd; focus (repeat (first | exact Split.here _ _ | apply Split.there))))))) ?_; rintro e w' ⟨rfl, H'⟩; replace H := H.of_ext H'; clear H')
        | (refine loud_ rfl ?_; refine wpList_plain rfl (fun K hK => ?_); (first | (refine op_convBytes_by8 9 34 5 _ rfl Try.underlying9 Try.underlying34 Try.underlying5 s rfl H (fun b1 w' cap1 hcap1 H1 => hK _ _ ?_)) | (refine op_box _ _ rfl H (fun b w' H1 => hK _ _ ?_)) | (refine op_alloc _ rfl (zero_of _ _ rfl) H (fun b w' H1 => hK _ _ ?_)) | (refine op_store _ _ _ rfl rfl rfl H (by repeat (first | exact Split.here _ _ | apply Split.there)) (by kernel_rfl) (by kernel_rfl) (by kernel_rfl) (fun w' H1 => hK _ _ ?_)) | (refine op_buildSlice_all _ _ _ rfl (by first | exact elem23 | exact elem34 | exact elem51 | exact elem148) (by kernel_rfl) (by kernel_rfl) (by kernel_rfl) H (fun b w' H1 => hK _ _ ?_))); clear hK K; replace H := H1; clear H1)); (try clear hc); (try simp only [nrm, splice, Value.cells, Nat.reduceAdd, Act.eval, Act.put] at H); have hc := H.cells; simp only [CellsOf, KnCells, knc, Nat.reduceAdd] at hc))
  clear hbad hr
  have h1 := eqCE
  have h2 := eqCC
  have hc := H.cells; simp only [CellsOf, KnCells, knc, Nat.reduceAdd] at hc
  repeat' (first | (go_big_may; (first
    | ((first
        | (refine loud_ rfl ?_; refine wpList_plain rfl (fun K hK => ?_); (first | (refine op_box _ _ rfl H (fun b w' H1 => hK _ _ ?_)) | (refine op_alloc _ rfl (zero_of _ _ rfl) H (fun b w' H1 => hK _ _ ?_)) | (refine op_store _ _ _ rfl rfl rfl H (by repeat (first | exact Split.here _ _ | apply Split.there)) (by kernel_rfl) (by kernel_rfl) (by kernel_rfl) (fun w' H1 => hK _ _ ?_)) | (refine op_buildSlice_all _ _ _ rfl (by first | exact elem23 | exact elem34 | exact elem51 | exact elem148) (by kernel_rfl) (by kernel_rfl) (by kernel_rfl) H (fun b w' H1 => hK _ _ ?_))); clear hK K; replace H := H1; clear H1)); (try clear hc); (try simp only [nrm, splice, Value.cells, Nat.reduceAdd, Act.eval, Act.put] at H); have hc := H.cells; simp only [CellsOf, KnCells, knc, Nat.reduceAdd] at hc))) | go_values | go_skip | go_guarded | go_step | go_upon | go_back | dsimp only)
  exact bodyPost_ret (v := .tuple #[snap0, .int .i64 2]) (by simp [results, Try.results5, go_sem, hc, Act.put]; try rfl) rfl ⟨rfl, H.ext⟩
set_option maxHeartbeats 1000000 in
set_option maxRecDepth 8000 in
theorem srGood_calls (s : ByteArray) (d : List UInt8) (vs : List Nat) (i t : Nat) (hs : Hid (s.data.toList = fileB (crc (snapB d vs i t)) (snapB d vs i t))) (hit : Hid (i < 18446744073709551616 ∧ t < 18446744073709551616)) (hv : Hid (∀ v ∈ vs, v < 18446744073709551616)) (hvn : vs.length ≤ 1000000) (hr0 : 0 < crc (snapB d vs i t)) (hpn : (snapB d vs i t).length ≤ 30000000) (hn : s.size ≤ 1000000000) (w : World) :
    Calls Try.prog 5 #[.string s] w fun e w' => ∃ key n cap, Hid (n = vs.length) ∧ e = .returned (.tuple #[snapVal ⟨d.toArray⟩ i t key n cap, .int .i64 0]) ∧ St [] w w' [(true, .row key 22 1 n cap (u64s vs))] := by
  have H := St.init [] w
  have hl : Hid ((fileB (crc (snapB d vs i t)) (snapB d vs i t)).length = s.size) := by rw [← hs.out, Array.length_toList]; exact rfl
  have hn0 : 0 < s.size := by rw [← hl.out, fileB, List.length_append]; have := vf_len 8 (crc (snapB d vs i t)); omega
  go_enter Try.func5, Try.ntmps5
  repeat' (first | (go_big_may; (first
    | go_skip
    | (go_at_call 11; refine Calls.mono (foldWrite1 _ fo m nmX nmX_size _ _ _ _ (H.pick (by repeat (first | exact Picks.nil _ | (apply Picks.wr; focus (repeat (first | exact Split.here _ _ | apply Split.there))) | (apply Picks.rd; focus (repeat (first | exact Split.here _ _ | apply Split.there))))))) ?_; rintro e w' ⟨rfl, H'⟩; replace H := H.merge (by first | exact Strikes.nil _ | (repeat (first | exact Strikes.nil _ | (apply Strikes.cons; focus (repeat (first | exact Split.here _ _ | apply Split.there)))))) H' rfl; clear H'; (try clear hc); (try simp only [nrm, splice, Value.cells, Nat.reduceAdd, Act.eval, Act.put] at H); have hc := H.cells; simp only [CellsOf, KnCells, knc, Nat.reduceAdd] at hc; replace H := H.arrSoft (by repeat (first | exact Split.here _ _ | apply Split.there)); (try simp only [List.append] at H); rw [hs.out] at H)
    | ((first
        | (go_at_call 10; refine Calls.mono (foldNew_calls _) ?_; rintro e w' ⟨fo, m, rfl, H'⟩; replace H := H.merge (by first | exact Strikes.nil _ | (repeat (first | exact Strikes.nil _ | (apply Strikes.cons; focus (repeat (first | exact Split.here _ _ | apply Split.there)))))) H' rfl; clear H')
        | (refine loud_ rfl ?_; refine wpList_plain rfl (fun K hK => ?_); (first | (refine op_convBytes_by8 9 34 5 _ rfl Try.underlying9 Try.underlying34 Try.underlying5 s rfl H (fun b1 w' cap1 hcap1 H1 => hK _ _ ?_)) | (refine op_box _ _ rfl H (fun b w' H1 => hK _ _ ?_)) | (refine op_alloc _ rfl (zero_of _ _ rfl) H (fun b w' H1 => hK _ _ ?_)) | (refine op_store _ _ _ rfl rfl rfl H (by repeat (first | exact Split.here _ _ | apply Split.there)) (by kernel_rfl) (by kernel_rfl) (by kernel_rfl) (fun w' H1 => hK _ _ ?_)) | (refine op_buildSlice_all _ _ _ rfl (by first | exact elem23 | exact elem34 | exact elem51 | exact elem148) (by kernel_rfl) (by kernel_rfl) (by kernel_rfl) H (fun b w' H1 => hK _ _ ?_))); clear hK K; replace H := H1; clear H1)); (try clear hc); (try simp only [nrm, splice, Value.cells, Nat.reduceAdd, Act.eval, Act.put] at H); have hc := H.cells; simp only [CellsOf, KnCells, knc, Nat.reduceAdd] at hc))) | go_values | go_skip | go_guarded | go_step | go_upon | go_back | dsimp only)
  go_at_call 12
  refine Calls.mono (readGood_calls fo m _ _ _ d vs i t hit hv hvn hr0 hpn hl hn hn0 hcap1 _ (H.pick (by repeat (first | exact Picks.nil _ | (apply Picks.wr; focus (repeat (first | exact Split.here _ _ | apply Split.there))) | (apply Picks.rd; focus (repeat (first | exact Split.here _ _ | apply Split.there))))))) ?_
  rintro e w' ⟨bs, rfl, keyd, md, capd, bm, bc, key2, m2, cap2, hm2, H'⟩
  replace H := H.merge (by first | exact Strikes.nil _ | (repeat (first | exact Strikes.nil _ | (apply Strikes.cons; focus (repeat (first | exact Split.here _ _ | apply Split.there)))))) H' rfl
  clear H'
  (try clear hc)
  (try simp only [nrm, splice, Value.cells, Nat.reduceAdd, Act.eval, Act.put] at H); have hc := H.cells; simp only [CellsOf, KnCells, knc, Nat.reduceAdd] at hc
  replace H := H.rowSoft (key := keyd) (by repeat (first | exact Split.here _ _ | apply Split.there))
  (try simp only [List.append] at H)
  replace H := H.rowSoft (key := key2) (by repeat (first | exact Split.here _ _ | apply Split.there))
  (try simp only [List.append] at H)
  (try simp only [nrm, splice, Value.cells, Nat.reduceAdd, Act.eval, Act.put] at H); have hc := H.cells; simp only [CellsOf, KnCells, knc, Nat.reduceAdd] at hc
  have hm2n : m2 ≤ 1000000 := by rw [hm2.out.2]; exact hvn
  clear hr0 hpn hn hn0
  repeat' (first | (go_big_may; (first
    | go_skip
    | ((first
        | (go_at_call 13; refine Calls.mono (snapOut_calls bs bm bc _ md capd d hm2.out.1 i t _ vs m2 cap2 hm2.out.2 hm2n _ (H.pick (by repeat (first | exact Picks.nil _ | (apply Picks.wr; focus (repeat (first | exact Split.here _ _ | apply Split.there))) | (apply Picks.rd; focus (repeat (first | exact Split.here _ _ | apply Split.there))))))) ?_; rintro e w' ⟨key, cap, rfl, H'⟩; replace H := H.merge (by first | exact Strikes.nil _ | (repeat (first | exact Strikes.nil _ | (apply Strikes.cons; focus (repeat (first | exact Split.here _ _ | apply Split.there)))))) H' rfl; clear H')
        | (refine loud_ rfl ?_; refine wpList_plain rfl (fun K hK => ?_); (first | (refine op_box _ _ rfl H (fun b w' H1 => hK _ _ ?_)) | (refine op_alloc _ rfl (zero_of _ _ rfl) H (fun b w' H1 => hK _ _ ?_)) | (refine op_store _ _ _ rfl rfl rfl H (by repeat (first | exact Split.here _ _ | apply Split.there)) (by kernel_rfl) (by kernel_rfl) (by kernel_rfl) (fun w' H1 => hK _ _ ?_)) | (refine op_buildSlice_all _ _ _ rfl (by first | exact elem23 | exact elem34 | exact elem51 | exact elem148) (by kernel_rfl) (by kernel_rfl) (by kernel_rfl) H (fun b w' H1 => hK _ _ ?_))); clear hK K; replace H := H1; clear H1)); (try clear hc); (try simp only [nrm, splice, Value.cells, Nat.reduceAdd, Act.eval, Act.put] at H); have hc := H.cells; simp only [CellsOf, KnCells, knc, Nat.reduceAdd] at hc))) | go_values | go_skip | go_guarded | go_step | go_upon | go_back | dsimp only)
  exact bodyPost_ret (v := .tuple #[snapVal ⟨d.toArray⟩ i t key m2 cap, .int .i64 0]) (by simp [results, Try.results5, go_sem, hc, Act.put]; try rfl) rfl ⟨key, m2, cap, hm2.out.2, rfl, H.sel (by repeat (first | exact Sel.nil _ | (apply Sel.cons; focus (repeat (first | exact Split.here _ _ | apply Split.there)))))⟩
end Go.Proofs.Ytfnapcgbjdkpaaa
