import Derived.Test.YtfnapcgbjdkpaaaSnpW
-- MORE
-- SUB2
namespace Go.Proofs.Ytfnapcgbjdkpaaa
set_option linter.unusedVariables false
set_option linter.unusedSimpArgs false
set_option linter.unnecessarySimpa false
open Go Go.RowKit Go.V Go.Lib

theorem bytes_empty (t : ByteArray) : t.toList.isEmpty = decide (t.size = 0) := by
  rw [ByteArray.toList_eq]
  obtain ⟨⟨l⟩⟩ := t
  cases l <;> simp [ByteArray.size]
set_option maxRecDepth 8000 in
theorem fits_calls (s : ByteArray) (i t : Int) (sv : Option Addr) (n c : Nat) (w : World) :
    Calls Try.prog 4 #[.agg #[.string s, .int .u64 i, .int .u64 t, .slice sv n c]] w fun e w' => e = .returned (.bool (decide (s.size ≤ 2147483647) && decide (n ≤ 2147483647))) ∧ Ext [] w w' := by
  have H := St.init [] w
  go_enter Try.func4, Try.ntmps4
  by_cases h1 : s.size ≤ 2147483647
  · have d1 : decide (2147483647 < (s.size : Int)) = false := by simp; omega
    by_cases h2 : n ≤ 2147483647
    · have d2 : decide (2147483647 < (n : Int)) = false := by simp; omega
      repeat' (first | (go_big_may; (first
    | ((first
        | (refine loud_ rfl ?_; refine wpList_plain rfl (fun K hK => ?_); (first | (refine op_box _ _ rfl H (fun b w' H1 => hK _ _ ?_)) | (refine op_alloc _ rfl (zero_of _ _ rfl) H (fun b w' H1 => hK _ _ ?_)) | (refine op_store _ _ _ rfl rfl rfl H (by repeat (first | exact Split.here _ _ | apply Split.there)) (by kernel_rfl) (by kernel_rfl) (by kernel_rfl) (fun w' H1 => hK _ _ ?_)) | (refine op_buildSlice_all _ _ _ rfl (by first | exact elem23 | exact elem34 | exact elem51 | exact elem148) (by kernel_rfl) (by kernel_rfl) (by kernel_rfl) H (fun b w' H1 => hK _ _ ?_))); clear hK K; replace H := H1; clear H1)); (try clear hc); (try simp only [nrm, splice, Value.cells, Nat.reduceAdd, Act.eval, Act.put] at H); have hc := H.cells; simp only [CellsOf, KnCells, knc, Nat.reduceAdd] at hc))) | go_values | go_skip | go_guarded | go_step | go_upon | go_back | dsimp only)
      go_ret
      exact ⟨by simp [h1, h2], H.ext⟩
    · have d2 : decide (2147483647 < (n : Int)) = true := by simp; omega
      repeat' (first | (go_big_may; (first
    | ((first
        | (refine loud_ rfl ?_; refine wpList_plain rfl (fun K hK => ?_); (first | (refine op_box _ _ rfl H (fun b w' H1 => hK _ _ ?_)) | (refine op_alloc _ rfl (zero_of _ _ rfl) H (fun b w' H1 => hK _ _ ?_)) | (refine op_store _ _ _ rfl rfl rfl H (by repeat (first | exact Split.here _ _ | apply Split.there)) (by kernel_rfl) (by kernel_rfl) (by kernel_rfl) (fun w' H1 => hK _ _ ?_)) | (refine op_buildSlice_all _ _ _ rfl (by first | exact elem23 | exact elem34 | exact elem51 | exact elem148) (by kernel_rfl) (by kernel_rfl) (by kernel_rfl) H (fun b w' H1 => hK _ _ ?_))); clear hK K; replace H := H1; clear H1)); (try clear hc); (try simp only [nrm, splice, Value.cells, Nat.reduceAdd, Act.eval, Act.put] at H); have hc := H.cells; simp only [CellsOf, KnCells, knc, Nat.reduceAdd] at hc))) | go_values | go_skip | go_guarded | go_step | go_upon | go_back | dsimp only)
      go_ret
      exact ⟨by simp [h2], H.ext⟩
  · have d1 : decide (2147483647 < (s.size : Int)) = true := by simp; omega
    repeat' (first | (go_big_may; (first
    | ((first
        | (refine loud_ rfl ?_; refine wpList_plain rfl (fun K hK => ?_); (first | (refine op_box _ _ rfl H (fun b w' H1 => hK _ _ ?_)) | (refine op_alloc _ rfl (zero_of _ _ rfl) H (fun b w' H1 => hK _ _ ?_)) | (refine op_store _ _ _ rfl rfl rfl H (by repeat (first | exact Split.here _ _ | apply Split.there)) (by kernel_rfl) (by kernel_rfl) (by kernel_rfl) (fun w' H1 => hK _ _ ?_)) | (refine op_buildSlice_all _ _ _ rfl (by first | exact elem23 | exact elem34 | exact elem51 | exact elem148) (by kernel_rfl) (by kernel_rfl) (by kernel_rfl) H (fun b w' H1 => hK _ _ ?_))); clear hK K; replace H := H1; clear H1)); (try clear hc); (try simp only [nrm, splice, Value.cells, Nat.reduceAdd, Act.eval, Act.put] at H); have hc := H.cells; simp only [CellsOf, KnCells, knc, Nat.reduceAdd] at hc))) | go_values | go_skip | go_guarded | go_step | go_upon | go_back | dsimp only)
    go_ret
    exact ⟨by simp [h1], H.ext⟩
set_option maxHeartbeats 4000000 in
set_option maxRecDepth 8000 in
theorem sees_calls (s : ByteArray) (i t : Nat) (hit : Hid (i < 18446744073709551616 ∧ t < 18446744073709551616)) (sv : Option Addr) (vs : List Nat) (n c : Nat) (hn : Hid (vs.length = n)) (hv : Hid (∀ v ∈ vs, v < 18446744073709551616)) (place : Int) (hpl : Hid (place < 9223372036854775808)) (by' : Int) (hby : Hid (0 ≤ by' ∧ by' < 256)) (w : World) (H : St [] w w [(false, soft sv (u64s vs))]) :
    Calls Try.prog 3 #[.agg #[.string s, .int .u64 i, .int .u64 t, .slice sv n c], .int .i64 place, .int .u8 by'] w fun e w' => e = .returned (.bool true) ∧ St [] w w' [] := by
  go_enter Try.func3, Try.ntmps3
  by_cases hf : (decide (s.size ≤ 2147483647) && decide (n ≤ 2147483647)) = true
  case neg =>
    have hf' : (decide (s.size ≤ 2147483647) && decide (n ≤ 2147483647)) = false := by simpa using hf
    clear hf
    repeat' (first | (go_big_may; (first
    | go_skip
    | ((first
        | (go_at_call 4; refine Calls.mono (fits_calls s i t sv n c _) ?_; rintro e w' ⟨rfl, H'⟩; replace H := H.of_ext H'; clear H')
        | (refine loud_ rfl ?_; refine wpList_plain rfl (fun K hK => ?_); (first | (refine op_box _ _ rfl H (fun b w' H1 => hK _ _ ?_)) | (refine op_alloc _ rfl (zero_of _ _ rfl) H (fun b w' H1 => hK _ _ ?_)) | (refine op_store _ _ _ rfl rfl rfl H (by repeat (first | exact Split.here _ _ | apply Split.there)) (by kernel_rfl) (by kernel_rfl) (by kernel_rfl) (fun w' H1 => hK _ _ ?_)) | (refine op_buildSlice_all _ _ _ rfl (by first | exact elem23 | exact elem34 | exact elem51 | exact elem148) (by kernel_rfl) (by kernel_rfl) (by kernel_rfl) H (fun b w' H1 => hK _ _ ?_))); clear hK K; replace H := H1; clear H1)); (try clear hc); (try simp only [nrm, splice, Value.cells, Nat.reduceAdd, Act.eval, Act.put] at H); have hc := H.cells; simp only [CellsOf, KnCells, knc, Nat.reduceAdd] at hc))) | go_values | go_skip | go_guarded | go_step | go_upon | go_back | dsimp only)
    go_ret
    exact ⟨rfl, H.top0⟩
  have hf' := hf
  clear hf
  go_upto_region 4 with (first
    | go_skip
    | ((first
        | (go_at_call 4; refine Calls.mono (fits_calls s i t sv n c _) ?_; rintro e w' ⟨rfl, H'⟩; replace H := H.of_ext H'; clear H')
        | (go_at_call 5; refine Calls.mono (srEmpty_calls _) ?_; rintro e w' ⟨rfl, H'⟩; replace H := H.of_ext H'; clear H')
        | (refine loud_ rfl ?_; refine wpList_plain rfl (fun K hK => ?_); (first | (refine op_box _ _ rfl H (fun b w' H1 => hK _ _ ?_)) | (refine op_alloc _ rfl (zero_of _ _ rfl) H (fun b w' H1 => hK _ _ ?_)) | (refine op_store _ _ _ rfl rfl rfl H (by repeat (first | exact Split.here _ _ | apply Split.there)) (by kernel_rfl) (by kernel_rfl) (by kernel_rfl) (fun w' H1 => hK _ _ ?_)) | (refine op_buildSlice_all _ _ _ rfl (by first | exact elem23 | exact elem34 | exact elem51 | exact elem148) (by kernel_rfl) (by kernel_rfl) (by kernel_rfl) H (fun b w' H1 => hK _ _ ?_))); clear hK K; replace H := H1; clear H1)); (try clear hc); (try simp only [nrm, splice, Value.cells, Nat.reduceAdd, Act.eval, Act.put] at H); have hc := H.cells; simp only [CellsOf, KnCells, knc, Nat.reduceAdd] at hc))
  repeat' (first | (go_big_may; (first
    | ((first
        | (refine loud_ rfl ?_; refine wpList_plain rfl (fun K hK => ?_); (first | (refine op_box _ _ rfl H (fun b w' H1 => hK _ _ ?_)) | (refine op_alloc _ rfl (zero_of _ _ rfl) H (fun b w' H1 => hK _ _ ?_)) | (refine op_store _ _ _ rfl rfl rfl H (by repeat (first | exact Split.here _ _ | apply Split.there)) (by kernel_rfl) (by kernel_rfl) (by kernel_rfl) (fun w' H1 => hK _ _ ?_)) | (refine op_buildSlice_all _ _ _ rfl (by first | exact elem23 | exact elem34 | exact elem51 | exact elem148) (by kernel_rfl) (by kernel_rfl) (by kernel_rfl) H (fun b w' H1 => hK _ _ ?_))); clear hK K; replace H := H1; clear H1)); (try clear hc); (try simp only [nrm, splice, Value.cells, Nat.reduceAdd, Act.eval, Act.put] at H); have hc := H.cells; simp only [CellsOf, KnCells, knc, Nat.reduceAdd] at hc))) | go_values | go_skip | go_guarded | go_step | go_upon | go_back | dsimp only)
  go_at_call 6
  refine Calls.mono (snGood_calls s i t hit sv vs n c hn hv _ (H.pick (by repeat (first | exact Picks.nil _ | (apply Picks.wr; focus (repeat (first | exact Split.here _ _ | apply Split.there))) | (apply Picks.rd; focus (repeat (first | exact Split.here _ _ | apply Split.there))))))) ?_
  rintro e w' ⟨good, rfl, H', hgood⟩
  replace H := H.of_ext H'
  clear H'
  cases good
  case false =>
    clear hgood
    (try simp only [nrm, splice, Value.cells, Nat.reduceAdd, Act.eval, Act.put] at H); have hc := H.cells; simp only [CellsOf, KnCells, knc, Nat.reduceAdd] at hc
    repeat' (first | (go_big_may; (first
    | go_skip
    | ((first
        | (go_at_call 7; refine Calls.mono (snLive_calls _) ?_; rintro e w' ⟨rfl, H'⟩; replace H := H.of_ext H'; clear H')
        | (refine loud_ rfl ?_; refine wpList_plain rfl (fun K hK => ?_); (first | (refine op_box _ _ rfl H (fun b w' H1 => hK _ _ ?_)) | (refine op_alloc _ rfl (zero_of _ _ rfl) H (fun b w' H1 => hK _ _ ?_)) | (refine op_store _ _ _ rfl rfl rfl H (by repeat (first | exact Split.here _ _ | apply Split.there)) (by kernel_rfl) (by kernel_rfl) (by kernel_rfl) (fun w' H1 => hK _ _ ?_)) | (refine op_buildSlice_all _ _ _ rfl (by first | exact elem23 | exact elem34 | exact elem51 | exact elem148) (by kernel_rfl) (by kernel_rfl) (by kernel_rfl) H (fun b w' H1 => hK _ _ ?_))); clear hK K; replace H := H1; clear H1)); (try clear hc); (try simp only [nrm, splice, Value.cells, Nat.reduceAdd, Act.eval, Act.put] at H); have hc := H.cells; simp only [CellsOf, KnCells, knc, Nat.reduceAdd] at hc))) | go_values | go_skip | go_guarded | go_step | go_upon | go_back | dsimp only)
    go_ret
    exact ⟨rfl, H.top0⟩
  case true =>
    have hg := hgood rfl
    clear hgood
    (try simp only [nrm, splice, Value.cells, Nat.reduceAdd, Act.eval, Act.put] at H); have hc := H.cells; simp only [CellsOf, KnCells, knc, Nat.reduceAdd] at hc
    by_cases hE : s.size = 0
    case pos =>
      have hE' : s.toList.isEmpty = true := by rw [bytes_empty]; simpa using hE
      repeat' (first | (go_big_may; (first
    | go_skip
    | ((first
        | (go_at_call 7; refine Calls.mono (snLive_calls _) ?_; rintro e w' ⟨rfl, H'⟩; replace H := H.of_ext H'; clear H')
        | (refine loud_ rfl ?_; refine wpList_plain rfl (fun K hK => ?_); (first | (refine op_box _ _ rfl H (fun b w' H1 => hK _ _ ?_)) | (refine op_alloc _ rfl (zero_of _ _ rfl) H (fun b w' H1 => hK _ _ ?_)) | (refine op_store _ _ _ rfl rfl rfl H (by repeat (first | exact Split.here _ _ | apply Split.there)) (by kernel_rfl) (by kernel_rfl) (by kernel_rfl) (fun w' H1 => hK _ _ ?_)) | (refine op_buildSlice_all _ _ _ rfl (by first | exact elem23 | exact elem34 | exact elem51 | exact elem148) (by kernel_rfl) (by kernel_rfl) (by kernel_rfl) H (fun b w' H1 => hK _ _ ?_))); clear hK K; replace H := H1; clear H1)); (try clear hc); (try simp only [nrm, splice, Value.cells, Nat.reduceAdd, Act.eval, Act.put] at H); have hc := H.cells; simp only [CellsOf, KnCells, knc, Nat.reduceAdd] at hc))) | go_values | go_skip | go_guarded | go_step | go_upon | go_back | dsimp only)
      go_ret
      exact ⟨rfl, H.top0⟩
    have hE' : s.toList.isEmpty = false := by rw [bytes_empty]; simpa using hE
    by_cases hP : place < 0
    case pos =>
      have hP' : decide (place < 0) = true := by simpa using hP
      repeat' (first | (go_big_may; (first
    | go_skip
    | ((first
        | (go_at_call 7; refine Calls.mono (snLive_calls _) ?_; rintro e w' ⟨rfl, H'⟩; replace H := H.of_ext H'; clear H')
        | (refine loud_ rfl ?_; refine wpList_plain rfl (fun K hK => ?_); (first | (refine op_box _ _ rfl H (fun b w' H1 => hK _ _ ?_)) | (refine op_alloc _ rfl (zero_of _ _ rfl) H (fun b w' H1 => hK _ _ ?_)) | (refine op_store _ _ _ rfl rfl rfl H (by repeat (first | exact Split.here _ _ | apply Split.there)) (by kernel_rfl) (by kernel_rfl) (by kernel_rfl) (fun w' H1 => hK _ _ ?_)) | (refine op_buildSlice_all _ _ _ rfl (by first | exact elem23 | exact elem34 | exact elem51 | exact elem148) (by kernel_rfl) (by kernel_rfl) (by kernel_rfl) H (fun b w' H1 => hK _ _ ?_))); clear hK K; replace H := H1; clear H1)); (try clear hc); (try simp only [nrm, splice, Value.cells, Nat.reduceAdd, Act.eval, Act.put] at H); have hc := H.cells; simp only [CellsOf, KnCells, knc, Nat.reduceAdd] at hc))) | go_values | go_skip | go_guarded | go_step | go_upon | go_back | dsimp only)
      go_ret
      exact ⟨rfl, H.top0⟩
    have hP' : decide (place < 0) = false := by simpa using hP
    by_cases hB : by' = 0
    case pos =>
      have hB' : (by' == 0) = true := by simpa using hB
      clear hB
      repeat' (first | (go_big_may; (first
    | go_skip
    | ((first
        | (go_at_call 7; refine Calls.mono (snLive_calls _) ?_; rintro e w' ⟨rfl, H'⟩; replace H := H.of_ext H'; clear H')
        | (refine loud_ rfl ?_; refine wpList_plain rfl (fun K hK => ?_); (first | (refine op_box _ _ rfl H (fun b w' H1 => hK _ _ ?_)) | (refine op_alloc _ rfl (zero_of _ _ rfl) H (fun b w' H1 => hK _ _ ?_)) | (refine op_store _ _ _ rfl rfl rfl H (by repeat (first | exact Split.here _ _ | apply Split.there)) (by kernel_rfl) (by kernel_rfl) (by kernel_rfl) (fun w' H1 => hK _ _ ?_)) | (refine op_buildSlice_all _ _ _ rfl (by first | exact elem23 | exact elem34 | exact elem51 | exact elem148) (by kernel_rfl) (by kernel_rfl) (by kernel_rfl) H (fun b w' H1 => hK _ _ ?_))); clear hK K; replace H := H1; clear H1)); (try clear hc); (try simp only [nrm, splice, Value.cells, Nat.reduceAdd, Act.eval, Act.put] at H); have hc := H.cells; simp only [CellsOf, KnCells, knc, Nat.reduceAdd] at hc))) | go_values | go_skip | go_guarded | go_step | go_upon | go_back | dsimp only)
      go_ret
      exact ⟨rfl, H.top0⟩
    have hB' : (by' == 0) = false := by simpa using hB
    obtain ⟨g1, g2, g3, g4⟩ := hg.out
    have hfits := data_fits s i t vs
    have hsz2 := Lib.hid (saveB_size s i t vs g2 g3 hv.out hit.out)
    have hsz : (saveB s i t vs).size ≤ 1000000000 := Nat.le_trans hsz2.out (by decide)
    have hsn := Lib.hid (snapB_len s.data.toList vs i t (by rw [size_list]; exact g2) g3 hv.out hit.out)
    have hcr0 := Lib.hid g4
    have hn20 : n ≤ 1000000 := by rw [← hn.out]; omega
    have hf := file_1 (snapName t i) (saveB s i t vs)
    clear g3 g4
    go_upto_region 11 with (first
    | go_skip
    | ((first
        | (go_at_call 8; refine Calls.mono (snapSave_calls s (by omega) i t g1 hit sv vs n c hn hv hn20 _ (H.pick (by repeat (first | exact Picks.nil _ | (apply Picks.wr; focus (repeat (first | exact Split.here _ _ | apply Split.there))) | (apply Picks.rd; focus (repeat (first | exact Split.here _ _ | apply Split.there))))))) ?_; rintro e w' ⟨rfl, H'⟩; replace H := H.of_ext H'; clear H')
        | (go_at_call 9; refine Calls.mono (lgFind_calls (saveB s i t vs) s (dataAt s i t vs) (data_extract s i t vs) hfits hsz _) ?_; rintro e w' ⟨k, hk1, hk2, rfl, H'⟩; replace H := H.of_ext H'; clear H')
        | (refine loud_ rfl ?_; refine wpList_plain rfl (fun K hK => ?_); (first | (refine op_convBytes_is 9 34 5 _ rfl Try.underlying9 Try.underlying34 Try.underlying5 (saveB s i t vs) rfl H (fun b1 w' cap1 cs hcap1 hcs1 hcs2 H1 => hK _ _ ?_)) | (refine op_box _ _ rfl H (fun b w' H1 => hK _ _ ?_)) | (refine op_alloc _ rfl (zero_of _ _ rfl) H (fun b w' H1 => hK _ _ ?_)) | (refine op_store _ _ _ rfl rfl rfl H (by repeat (first | exact Split.here _ _ | apply Split.there)) (by kernel_rfl) (by kernel_rfl) (by kernel_rfl) (fun w' H1 => hK _ _ ?_)) | (refine op_buildSlice_all _ _ _ rfl (by first | exact elem23 | exact elem34 | exact elem51 | exact elem148) (by kernel_rfl) (by kernel_rfl) (by kernel_rfl) H (fun b w' H1 => hK _ _ ?_))); clear hK K; replace H := H1; clear H1)); (try clear hc); (try simp only [nrm, splice, Value.cells, Nat.reduceAdd, Act.eval, Act.put] at H); have hc := H.cells; simp only [CellsOf, KnCells, knc, Nat.reduceAdd] at hc))
    obtain ⟨bb, rfl⟩ : ∃ q, q = b1 := ⟨_, rfl⟩
    obtain ⟨pl, rfl⟩ : ∃ q : Nat, place = q := ⟨place.toNat, by omega⟩
    clear hP' hP
    obtain ⟨R, hR⟩ : ∃ q, Hid (q = pl % s.size) := ⟨_, rfl⟩
    have hmod : R < s.size := by rw [hR.out]; exact Nat.mod_lt _ (by omega)
    have hrem1 : Int.tmod (pl : Int) (s.size : Int) = (R : Int) := by rw [hR.out]; exact (Int.ofNat_tmod pl s.size).symm
    have hrem2 : ((pl % s.size : Nat) : Int) = (R : Int) := by rw [hR.out]
    have hrem3 : (pl : Int) % (s.size : Int) = (R : Int) := by rw [hR.out]; omega
    obtain ⟨K', hK'⟩ : ∃ q, Hid (q = k + R) := ⟨_, rfl⟩
    have hadd : (k : Int) + (R : Int) = (K' : Int) := by have := hK'.out; omega
    have hKlo : dataAt s i t vs ≤ K' := by have := hK'.out; omega
    have hKhi : K' < (saveB s i t vs).size := by have := hK'.out; omega
    have hKcs : K' < cs.size := by omega
    have hold := hcs2 K' hKhi
    obtain ⟨old, hOld⟩ : ∃ q, Hid (q = (saveB s i t vs).data.toList.getD K' 0) := ⟨_, rfl⟩
    rw [← hOld.out] at hold
    have hby2 := hby.out
    obtain ⟨x, hx1, hx2⟩ := xor_ne (a := old) (b := by'.toNat) (by omega)
    have hxor : bits .xor .u8 (old.toNat : Int) by' = (x.toNat : Int) := by
      have h8 := u8_xor_nat old.toNat by'.toNat (by have := old.toNat_lt; omega) (by omega)
      have e : ((by'.toNat : Nat) : Int) = by' := by omega
      rw [e, ← hx1] at h8
      exact h8
    clear hx1 hby2
    have hcell : w'.cell? ⟨bb, K', none⟩ = some (.int .u8 old.toNat) := by
      rw [cell_of_row w' bb K' _ _ _ (H.obj (Split.here _ _))]
      exact hold
    have hs0 : ¬ (s.size : Int) = 0 := by omega
    have hgetK : cs[K'] = .int .u8 old.toNat := by
      rw [Array.getElem?_eq_getElem hKcs] at hold
      injection hold
    have hc := H.cells; simp only [CellsOf, KnCells, knc, Nat.reduceAdd] at hc
    go_upto_region 12 with (first
    | ((first
        | (refine loud_ rfl ?_; refine wpList_plain rfl (fun K hK => ?_); (first | (refine op_storeByte _ _ _ rfl rfl rfl H (by repeat (first | exact Split.here _ _ | apply Split.there)) (by kernel_rfl) hKcs (by omega) (fun w' H1 => hK _ _ ?_)) | (refine op_box _ _ rfl H (fun b w' H1 => hK _ _ ?_)) | (refine op_alloc _ rfl (zero_of _ _ rfl) H (fun b w' H1 => hK _ _ ?_)) | (refine op_store _ _ _ rfl rfl rfl H (by repeat (first | exact Split.here _ _ | apply Split.there)) (by kernel_rfl) (by kernel_rfl) (by kernel_rfl) (fun w' H1 => hK _ _ ?_)) | (refine op_buildSlice_all _ _ _ rfl (by first | exact elem23 | exact elem34 | exact elem51 | exact elem148) (by kernel_rfl) (by kernel_rfl) (by kernel_rfl) H (fun b w' H1 => hK _ _ ?_))); clear hK K; replace H := H1; clear H1)); (try clear hc); (try simp only [nrm, splice, Value.cells, Nat.reduceAdd, Act.eval, Act.put] at H); have hc := H.cells; simp only [CellsOf, KnCells, knc, Nat.reduceAdd] at hc))
    have hx3 : (saveB s i t vs).data.toList[K']? ≠ some x := by
      have e : (saveB s i t vs).data.toList[K']? = some old := by
        rw [hOld.out, List.getD_eq_getElem?_getD, List.getElem?_eq_getElem (by rw [size_list]; exact hKhi)]
        rfl
      rw [e]
      intro h
      injection h with h
      exact hx2 h.symm
    obtain ⟨p, hp1, hp2, hp3⟩ := flip_bad s i t vs K' hKlo hKhi x hx3
    have hlies := lies_set (saveB s i t vs) K' x (H.obj (Split.here _ _)) hcs1 hcs2
    have hlen : Hid ((saveB s i t vs).size = ((saveB s i t vs).data.toList.set K' x).length) := by rw [List.length_set, size_list]; exact rfl
    rw [hp1] at hlies hlen
    have hlies' := Lib.hid hlies
    have hsB : Hid ((ByteArray.mk (fileB (crc (snapB s.data.toList vs i t)) p).toArray).data.toList = fileB (crc (snapB s.data.toList vs i t)) p) := by show _ = _; simp
    have hszB : (ByteArray.mk (fileB (crc (snapB s.data.toList vs i t)) p).toArray).size ≤ 1000000000 := by
      rw [← size_list, hsB.out, ← hlen.out]
      exact hsz
    have hp0 : 0 < p.length := by rw [hp2, snapB, List.length_append]; have := bf_len 1 s.data.toList; omega
    have hpn : p.length ≤ 30000000 := by rw [hp2]; have := hsn.out; omega
    have hbad := Lib.hid hp3
    clear hlies hp1 hp3 hx3 hx2 hxor hgetK hold hcs2 hcell
    (try clear hc)
    have hc := H.cells; simp only [CellsOf, KnCells, knc, Nat.reduceAdd] at hc
    repeat' (first | (go_big_may; (first
    | go_skip
    | (refine wpList_plain rfl (fun K hK => ?_); refine op_convString_lies 34 9 5 _ rfl Try.underlying34 Try.underlying5 Try.underlying9 (ad := ⟨bb, 0, none⟩) (bs := fileB (crc (snapB s.data.toList vs i t)) p) rfl hlen.out hlies'.out (hK _ _ ?_); clear hK K)
    | ((first
        | (go_at_call 5; refine Calls.mono (srBad_calls _ (crc (snapB s.data.toList vs i t)) p hsB (crc_lt _) hcr0.out hp0 hpn hbad.out hszB _) ?_; rintro e w' ⟨rfl, H'⟩; replace H := H.of_ext H'; clear H')
        | (go_at_call 7; refine Calls.mono (snLive_calls _) ?_; rintro e w' ⟨rfl, H'⟩; replace H := H.of_ext H'; clear H')
        | (refine loud_ rfl ?_; refine wpList_plain rfl (fun K hK => ?_); (first | (refine op_box _ _ rfl H (fun b w' H1 => hK _ _ ?_)) | (refine op_alloc _ rfl (zero_of _ _ rfl) H (fun b w' H1 => hK _ _ ?_)) | (refine op_store _ _ _ rfl rfl rfl H (by repeat (first | exact Split.here _ _ | apply Split.there)) (by kernel_rfl) (by kernel_rfl) (by kernel_rfl) (fun w' H1 => hK _ _ ?_)) | (refine op_buildSlice_all _ _ _ rfl (by first | exact elem23 | exact elem34 | exact elem51 | exact elem148) (by kernel_rfl) (by kernel_rfl) (by kernel_rfl) H (fun b w' H1 => hK _ _ ?_))); clear hK K; replace H := H1; clear H1)); (try clear hc); (try simp only [nrm, splice, Value.cells, Nat.reduceAdd, Act.eval, Act.put] at H); have hc := H.cells; simp only [CellsOf, KnCells, knc, Nat.reduceAdd] at hc))) | go_values | go_skip | go_guarded | go_step | go_upon | go_back | dsimp only)
    go_ret
    exact ⟨rfl, H.top0⟩
end Go.Proofs.Ytfnapcgbjdkpaaa
