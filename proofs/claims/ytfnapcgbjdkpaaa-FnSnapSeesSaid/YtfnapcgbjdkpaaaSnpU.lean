import Derived.Test.YtfnapcgbjdkpaaaSnpT
-- MORE
-- SUB2
namespace Go.Proofs.Ytfnapcgbjdkpaaa
set_option linter.unusedVariables false
set_option linter.unusedSimpArgs false
set_option linter.unnecessarySimpa false
open Go Go.RowKit Go.V Go.Lib

def begins (s t : ByteArray) : Bool := decide (t.size ≤ s.size) && ((s.extract 0 t.size).toList == t.toList)
set_option maxHeartbeats 400000 in
set_option maxRecDepth 8000 in
theorem begins_calls (s t : ByteArray) (w : World) :
    Calls Try.prog 14 #[.string s, .string t] w fun e w' => e = .returned (.bool (begins s t)) ∧ Ext [] w w' := by
  have H := St.init [] w
  go_enter Try.func14, Try.ntmps14
  by_cases h : t.size ≤ s.size
  · have hd : decide ((t.size : Int) ≤ (s.size : Int)) = true := by simp; omega
    repeat' (first | (go_big_may; (first
    | ((first
        | (refine loud_ rfl ?_; refine wpList_plain rfl (fun K hK => ?_); (first | (refine op_box _ _ rfl H (fun b w' H1 => hK _ _ ?_)) | (refine op_alloc _ rfl (zero_of _ _ rfl) H (fun b w' H1 => hK _ _ ?_)) | (refine op_store _ _ _ rfl rfl rfl H (by repeat (first | exact Split.here _ _ | apply Split.there)) (by kernel_rfl) (by kernel_rfl) (by kernel_rfl) (fun w' H1 => hK _ _ ?_)) | (refine op_buildSlice_all _ _ _ rfl (by first | exact elem23 | exact elem34 | exact elem51 | exact elem148) (by kernel_rfl) (by kernel_rfl) (by kernel_rfl) H (fun b w' H1 => hK _ _ ?_))); clear hK K; replace H := H1; clear H1)); (try clear hc); (try simp only [nrm, splice, Value.cells, Nat.reduceAdd, Act.eval, Act.put] at H); have hc := H.cells; simp only [CellsOf, KnCells, knc, Nat.reduceAdd] at hc))) | go_values | go_skip | go_guarded | go_step | go_upon | go_back | dsimp only)
    go_ret
    refine ⟨?_, Ext.refl _ _⟩
    simp [begins, h]
  · have hd : decide ((t.size : Int) ≤ (s.size : Int)) = false := by simp; omega
    repeat' (first | (go_big_may; (first
    | ((first
        | (refine loud_ rfl ?_; refine wpList_plain rfl (fun K hK => ?_); (first | (refine op_box _ _ rfl H (fun b w' H1 => hK _ _ ?_)) | (refine op_alloc _ rfl (zero_of _ _ rfl) H (fun b w' H1 => hK _ _ ?_)) | (refine op_store _ _ _ rfl rfl rfl H (by repeat (first | exact Split.here _ _ | apply Split.there)) (by kernel_rfl) (by kernel_rfl) (by kernel_rfl) (fun w' H1 => hK _ _ ?_)) | (refine op_buildSlice_all _ _ _ rfl (by first | exact elem23 | exact elem34 | exact elem51 | exact elem148) (by kernel_rfl) (by kernel_rfl) (by kernel_rfl) H (fun b w' H1 => hK _ _ ?_))); clear hK K; replace H := H1; clear H1)); (try clear hc); (try simp only [nrm, splice, Value.cells, Nat.reduceAdd, Act.eval, Act.put] at H); have hc := H.cells; simp only [CellsOf, KnCells, knc, Nat.reduceAdd] at hc))) | go_values | go_skip | go_guarded | go_step | go_upon | go_back | dsimp only)
    go_ret
    refine ⟨?_, Ext.refl _ _⟩
    simp [begins, h]
theorem uv_head (n : Nat) : ∃ b r, uvarint n = b :: r ∧ (b = 0 ↔ n = 0) := by
  by_cases h : n < 128
  · refine ⟨_, _, uvarint_small h, ?_⟩
    have := u8_toNat (m := n) (by omega)
    rw [← UInt8.toNat_inj]
    show n.toUInt8.toNat = 0 ↔ _
    omega
  · refine ⟨_, _, uvarint_big (by omega), ?_⟩
    have := u8_toNat (m := n % 128 + 128) (by omega)
    rw [← UInt8.toNat_inj]
    show (n % 128 + 128).toUInt8.toNat = 0 ↔ _
    omega
theorem begins_file (r : Nat) (p : List UInt8) : begins ⟨(fileB r p).toArray⟩ { data := #[8, 0] } = decide (r = 0) := by
  obtain ⟨b, q, hb, hz⟩ := uv_head r
  have e : fileB r p = 8 :: b :: (q ++ bfield 2 p) := by rw [fileB, vfield, hb]; rfl
  have hs : (ByteArray.mk (fileB r p).toArray).size = (fileB r p).length := by show (fileB r p).toArray.size = _; simp
  have h2 : ({ data := #[8, 0] } : ByteArray).size = 2 := rfl
  have hx : ((ByteArray.mk (fileB r p).toArray).extract 0 2).toList = [8, b] := by
    rw [ByteArray.toList_eq, ByteArray.data_extract, e]
    simp
  unfold begins
  rw [hs, h2, hx, e]
  have hl : decide (2 ≤ (8 :: b :: (q ++ bfield 2 p)).length) = true := by simp
  rw [hl, Bool.true_and]
  have ht : ({ data := #[8, 0] } : ByteArray).toList = [8, 0] := by rw [ByteArray.toList_eq]
  rw [ht]
  by_cases h0 : r = 0
  · have := hz.2 h0
    simp [h0, this]
  · have : ¬ b = 0 := fun h => h0 (hz.1 h)
    simp [h0, this]
theorem file_1 (x y : ByteArray) (w : World) : (Instr.field 31 (.agg #[.string x, .string y]) 1).run Try.prog w = .ok (.string y) w := by kernel_rfl
def GoodIs (s : ByteArray) (i t : Nat) (vs : List Nat) : Prop := 0 < i ∧ s.size ≤ 5000 ∧ vs.length ≤ 20 ∧ 0 < crc (snapB s.data.toList vs i t)
set_option maxHeartbeats 1000000 in
set_option maxRecDepth 8000 in
theorem snGood_calls (s : ByteArray) (i t : Nat) (hit : Hid (i < 18446744073709551616 ∧ t < 18446744073709551616)) (sv : Option Addr) (vs : List Nat) (n c : Nat) (hn : Hid (vs.length = n)) (hv : Hid (∀ v ∈ vs, v < 18446744073709551616)) (w : World) (H : St [] w w [(false, soft sv (u64s vs))]) :
    Calls Try.prog 6 #[.agg #[.string s, .int .u64 i, .int .u64 t, .slice sv n c]] w fun e w' => ∃ b, e = .returned (.bool b) ∧ Ext [] w w' ∧ (b = true → Hid (GoodIs s i t vs)) := by
  go_enter Try.func6, Try.ntmps6
  by_cases h1 : 0 < i
  case neg =>
    have d1 : decide (0 < (i : Int)) = false := by simp; omega
    repeat' (first | (go_big_may; (first
    | ((first
        | (refine loud_ rfl ?_; refine wpList_plain rfl (fun K hK => ?_); (first | (refine op_box _ _ rfl H (fun b w' H1 => hK _ _ ?_)) | (refine op_alloc _ rfl (zero_of _ _ rfl) H (fun b w' H1 => hK _ _ ?_)) | (refine op_store _ _ _ rfl rfl rfl H (by repeat (first | exact Split.here _ _ | apply Split.there)) (by kernel_rfl) (by kernel_rfl) (by kernel_rfl) (fun w' H1 => hK _ _ ?_)) | (refine op_buildSlice_all _ _ _ rfl (by first | exact elem23 | exact elem34 | exact elem51 | exact elem148) (by kernel_rfl) (by kernel_rfl) (by kernel_rfl) H (fun b w' H1 => hK _ _ ?_))); clear hK K; replace H := H1; clear H1)); (try clear hc); (try simp only [nrm, splice, Value.cells, Nat.reduceAdd, Act.eval, Act.put] at H); have hc := H.cells; simp only [CellsOf, KnCells, knc, Nat.reduceAdd] at hc))) | go_values | go_skip | go_guarded | go_step | go_upon | go_back | dsimp only)
    go_ret
    exact ⟨false, rfl, H.ext, by simp⟩
  have d1 : decide (0 < (i : Int)) = true := by simp; omega
  by_cases h2 : s.size ≤ 5000
  case neg =>
    have d2 : decide ((s.size : Int) ≤ 5000) = false := by simp; omega
    repeat' (first | (go_big_may; (first
    | ((first
        | (refine loud_ rfl ?_; refine wpList_plain rfl (fun K hK => ?_); (first | (refine op_box _ _ rfl H (fun b w' H1 => hK _ _ ?_)) | (refine op_alloc _ rfl (zero_of _ _ rfl) H (fun b w' H1 => hK _ _ ?_)) | (refine op_store _ _ _ rfl rfl rfl H (by repeat (first | exact Split.here _ _ | apply Split.there)) (by kernel_rfl) (by kernel_rfl) (by kernel_rfl) (fun w' H1 => hK _ _ ?_)) | (refine op_buildSlice_all _ _ _ rfl (by first | exact elem23 | exact elem34 | exact elem51 | exact elem148) (by kernel_rfl) (by kernel_rfl) (by kernel_rfl) H (fun b w' H1 => hK _ _ ?_))); clear hK K; replace H := H1; clear H1)); (try clear hc); (try simp only [nrm, splice, Value.cells, Nat.reduceAdd, Act.eval, Act.put] at H); have hc := H.cells; simp only [CellsOf, KnCells, knc, Nat.reduceAdd] at hc))) | go_values | go_skip | go_guarded | go_step | go_upon | go_back | dsimp only)
    go_ret
    exact ⟨false, rfl, H.ext, by simp⟩
  have d2 : decide ((s.size : Int) ≤ 5000) = true := by simp; omega
  by_cases h3 : n ≤ 20
  case neg =>
    have d3 : decide ((n : Int) ≤ 20) = false := by simp; omega
    repeat' (first | (go_big_may; (first
    | ((first
        | (refine loud_ rfl ?_; refine wpList_plain rfl (fun K hK => ?_); (first | (refine op_box _ _ rfl H (fun b w' H1 => hK _ _ ?_)) | (refine op_alloc _ rfl (zero_of _ _ rfl) H (fun b w' H1 => hK _ _ ?_)) | (refine op_store _ _ _ rfl rfl rfl H (by repeat (first | exact Split.here _ _ | apply Split.there)) (by kernel_rfl) (by kernel_rfl) (by kernel_rfl) (fun w' H1 => hK _ _ ?_)) | (refine op_buildSlice_all _ _ _ rfl (by first | exact elem23 | exact elem34 | exact elem51 | exact elem148) (by kernel_rfl) (by kernel_rfl) (by kernel_rfl) H (fun b w' H1 => hK _ _ ?_))); clear hK K; replace H := H1; clear H1)); (try clear hc); (try simp only [nrm, splice, Value.cells, Nat.reduceAdd, Act.eval, Act.put] at H); have hc := H.cells; simp only [CellsOf, KnCells, knc, Nat.reduceAdd] at hc))) | go_values | go_skip | go_guarded | go_step | go_upon | go_back | dsimp only)
    go_ret
    exact ⟨false, rfl, H.ext, by simp⟩
  have d3 : decide ((n : Int) ≤ 20) = true := by simp; omega
  have hf := file_1 (snapName t i) (saveB s i t vs)
  have hbg : Hid (begins (saveB s i t vs) { data := #[8, 0] } = decide (crc (snapB s.data.toList vs i t) = 0)) := begins_file _ _
  repeat' (first | (go_big_may; (first
    | go_skip
    | ((first
        | (go_at_call 8; refine Calls.mono (snapSave_calls s (by omega) i t h1 hit sv vs n c hn hv (by omega) _ (H.pick (by repeat (first | exact Picks.nil _ | (apply Picks.wr; focus (repeat (first | exact Split.here _ _ | apply Split.there))) | (apply Picks.rd; focus (repeat (first | exact Split.here _ _ | apply Split.there))))))) ?_; rintro e w' ⟨rfl, H'⟩; replace H := H.of_ext H'; clear H')
        | (go_at_call 14; refine Calls.mono (begins_calls _ _ _) ?_; rintro e w' ⟨rfl, H'⟩; replace H := H.of_ext H'; clear H')
        | (refine loud_ rfl ?_; refine wpList_plain rfl (fun K hK => ?_); (first | (refine op_box _ _ rfl H (fun b w' H1 => hK _ _ ?_)) | (refine op_alloc _ rfl (zero_of _ _ rfl) H (fun b w' H1 => hK _ _ ?_)) | (refine op_store _ _ _ rfl rfl rfl H (by repeat (first | exact Split.here _ _ | apply Split.there)) (by kernel_rfl) (by kernel_rfl) (by kernel_rfl) (fun w' H1 => hK _ _ ?_)) | (refine op_buildSlice_all _ _ _ rfl (by first | exact elem23 | exact elem34 | exact elem51 | exact elem148) (by kernel_rfl) (by kernel_rfl) (by kernel_rfl) H (fun b w' H1 => hK _ _ ?_))); clear hK K; replace H := H1; clear H1)); (try clear hc); (try simp only [nrm, splice, Value.cells, Nat.reduceAdd, Act.eval, Act.put] at H); have hc := H.cells; simp only [CellsOf, KnCells, knc, Nat.reduceAdd] at hc))) | go_values | go_skip | go_guarded | go_step | go_upon | go_back | dsimp only)
  go_ret
  refine ⟨_, rfl, H.ext, ?_⟩
  intro hb
  have e := hbg.out
  have hb' : begins (saveB s i t vs) { data := #[8, 0] } = false := by simpa using hb
  rw [hb'] at e
  have e2 : ¬ crc (snapB s.data.toList vs i t) = 0 := by simpa using e.symm
  exact ⟨h1, h2, by rw [hn.out]; exact h3, by omega⟩
end Go.Proofs.Ytfnapcgbjdkpaaa
