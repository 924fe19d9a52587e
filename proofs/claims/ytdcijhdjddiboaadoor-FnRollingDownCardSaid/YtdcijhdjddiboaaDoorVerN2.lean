import Derived.Test.YtdcijhdjddiboaaDoorVerN
-- MORE
namespace Go.Proofs.YtdcijhdjddiboaaDoor
set_option linter.unusedVariables false
set_option linter.unusedSimpArgs false
set_option linter.unnecessarySimpa false
open Go.RowKit Go.V

/-- How far the reading of a version is. -/
def AtNV (n1 n2 n3 na nb nc pb : Nat) (w : World) (at' bg i : Value) (wr : World) : Prop := ∃ k : Nat, i = .int .i64 k ∧ (
  (k ≤ n1 ∧ at' = .int .i64 0 ∧ bg = .int .i64 0 ∧ St [] w wr [(true, .is pb (.cells #[.int .i64 0, .int .i64 0, .int .i64 0] 54 (0, 0)))]) ∨
  (n1 + 1 ≤ k ∧ k ≤ n1 + 1 + n2 ∧ at' = .int .i64 1 ∧ (∃ g : Nat, Hid (g = n1 + 1) ∧ bg = .int .i64 g) ∧ St [] w wr [(true, .is pb (.cells #[.int .i64 na, .int .i64 0, .int .i64 0] 54 (0, 0)))]) ∨
  (n1 + n2 + 2 ≤ k ∧ k ≤ n1 + n2 + n3 + 2 ∧ at' = .int .i64 2 ∧ (∃ g : Nat, Hid (g = n1 + n2 + 2) ∧ bg = .int .i64 g) ∧ St [] w wr [(true, .is pb (.cells #[.int .i64 na, .int .i64 nb, .int .i64 0] 54 (0, 0)))]) ∨
  (k = n1 + n2 + n3 + 3 ∧ at' = .int .i64 3 ∧ St [] w wr [(true, .is pb (.cells #[.int .i64 na, .int .i64 nb, .int .i64 nc] 54 (0, 0)))]))
set_option maxHeartbeats 4000000 in
set_option maxRecDepth 4000 in
theorem newVersion_at (s : ByteArray) (n1 n2 n3 na nb nc : Nat) (hna : na < 10000) (hnb : nb < 10000) (hnc : nc < 10000) (A B C : List UInt8) (hA : Hid (A = dec na)) (hB : Hid (B = dec nb)) (hC : Hid (C = dec nc)) (l1 : Hid (A.length = n1)) (l2 : Hid (B.length = n2)) (l3 : Hid (C.length = n3)) (sp : Hid (Spans s A B C)) (w : World) :
    Calls Tryd.prog 50 #[.string s] w fun e w' => ∃ q, e = .returned (.tuple #[.pointer (some ⟨q, 0, none⟩), .nilIface]) ∧ St [] w w' [(true, .is q ((⟨na, nb, nc⟩ : Vr).obj 62))] := by
  have hz0 := sp.out.size
  rw [l1.out, l2.out, l3.out] at hz0
  have h14 : n1 ≤ 4 ∧ n2 ≤ 4 ∧ n3 ≤ 4 := by
    have h1 := sp.out.a.2.1
    have h2 := sp.out.b.2.1
    have h3 := sp.out.c.2.1
    rw [l1.out] at h1
    rw [l2.out] at h2
    rw [l3.out] at h3
    exact ⟨h1, h2, h3⟩
  obtain ⟨h41, h42, h43⟩ := h14
  have hz := Lib.hid hz0
  clear hz0
  have H := St.init [] w
  go_enter Tryd.func50, Tryd.ntmps50
  go_wp2_with (first
    | ((first
        | (refine loud_ rfl ?_; refine wpList_plain rfl (fun K hK => ?_); (first | (refine op_box _ _ rfl H (fun b w' H1 => hK _ _ ?_)) | (refine op_alloc _ rfl (zero_of _ _ rfl) H (fun b w' H1 => hK _ _ ?_)) | (refine op_store _ _ _ rfl rfl rfl H (by repeat (first | exact Split.here _ _ | apply Split.there)) (by kernel_rfl) (by kernel_rfl) (by kernel_rfl) (fun w' H1 => hK _ _ ?_)) | (refine op_buildSlice_all _ _ _ rfl (by first | exact elem22 | exact elem39 | exact elem76 | exact elem154) (by kernel_rfl) (by kernel_rfl) (by kernel_rfl) H (fun b w' H1 => hK _ _ ?_))); clear hK K; replace H := H1; clear H1)); (try clear hc); (try simp only [nrm, splice, Value.cells, Nat.reduceAdd, Act.eval, Act.put] at H); have hc := H.cells; simp only [CellsOf, KnCells, knc, Nat.reduceAdd] at hc))
  obtain ⟨pb, rfl⟩ : ∃ q : Nat, q = b := ⟨_, rfl⟩
  have hA0 : AtNV n1 n2 n3 na nb nc pb w (.int .i64 0) (.int .i64 0) (.int .i64 (0 : Nat)) w' := ⟨0, rfl, .inl ⟨Nat.zero_le _, rfl, rfl, H⟩⟩
  clear H hc
  go_loopw [5, 6, 7] (AtNV n1 n2 n3 na nb nc pb w) (fun _ _ i _ => n1 + n2 + n3 + 4 - (intOf i).toNat)
  case atStart => exact hA0
  case round =>
    clear hA0
    obtain ⟨k, rfl, hcase⟩ := hrel
    rcases hcase with ⟨hk, rfl, rfl, H⟩ | ⟨hk0, hk, rfl, ⟨g, hg, rfl⟩, H⟩ | ⟨hk0, hk, rfl, ⟨g, hg, rfl⟩, H⟩ | ⟨rfl, rfl, H⟩
    · by_cases hlt : k < n1
      · have hks : k < s.size := by have := hz.out; omega
        have hdg := sp.out.dig1 k (by rw [l1.out]; exact hlt) hks
        obtain ⟨hd1, hd2⟩ := hdg
        have hks' : k ≤ s.size := Nat.le_of_lt hks
        have hne : (((s[k].toNat : Nat) : Int) == 46) = false := by simp; omega
        have hne' : (((s[k].toNat : Nat) : Int) != 46) = true := by simp; omega
        have hc := H.cells; simp only [CellsOf, KnCells, knc, Nat.reduceAdd] at hc
        repeat' (first | (go_big_may; (first
    | ((first
        | (refine loud_ rfl ?_; refine wpList_plain rfl (fun K hK => ?_); (first | (refine op_box _ _ rfl H (fun b w' H1 => hK _ _ ?_)) | (refine op_alloc _ rfl (zero_of _ _ rfl) H (fun b w' H1 => hK _ _ ?_)) | (refine op_store _ _ _ rfl rfl rfl H (by repeat (first | exact Split.here _ _ | apply Split.there)) (by kernel_rfl) (by kernel_rfl) (by kernel_rfl) (fun w' H1 => hK _ _ ?_)) | (refine op_buildSlice_all _ _ _ rfl (by first | exact elem22 | exact elem39 | exact elem76 | exact elem154) (by kernel_rfl) (by kernel_rfl) (by kernel_rfl) H (fun b w' H1 => hK _ _ ?_))); clear hK K; replace H := H1; clear H1)); (try clear hc); (try simp only [nrm, splice, Value.cells, Nat.reduceAdd, Act.eval, Act.put] at H); have hc := H.cells; simp only [CellsOf, KnCells, knc, Nat.reduceAdd] at hc))) | go_values | go_skip | go_guarded | go_step | go_upon | go_back | dsimp only)
        exact ⟨⟨k + 1, by go_num, .inl ⟨by omega, rfl, rfl, H⟩⟩, by simp [intOf]; omega⟩
      · have hkm : Hid (k = n1) := (by omega : k = n1)
        have hks : k < s.size := by have := hz.out; omega
        have hdg := sp.out.dot1 k (by rw [l1.out]; exact hkm.out) hks
        have hks' : k ≤ s.size := Nat.le_of_lt hks
        have hks2 : 0 ≤ k := by omega
        have hcut : Hid ((s.extract 0 k).data.toList = dec na) := by show _ = _; have e := sp.out.cut1; rw [l1.out] at e; rw [hkm.out, e]; exact hA.out
        have hkb : k ≤ 20 := by omega
        clear hk hlt
        have hc := H.cells; simp only [CellsOf, KnCells, knc, Nat.reduceAdd] at hc
        repeat' (first | (go_big_may; (first
    | go_skip
    | ((first
        | (go_at_call 61; refine Calls.mono (parse_calls _ na (by omega) hcut _) ?_; rintro e w' ⟨rfl, H'⟩; replace H := H.of_ext H'; clear H')
        | (refine loud_ rfl ?_; refine wpList_plain rfl (fun K hK => ?_); (first | (refine op_box _ _ rfl H (fun b w' H1 => hK _ _ ?_)) | (refine op_alloc _ rfl (zero_of _ _ rfl) H (fun b w' H1 => hK _ _ ?_)) | (refine op_store _ _ _ rfl rfl rfl H (by repeat (first | exact Split.here _ _ | apply Split.there)) (by kernel_rfl) (by kernel_rfl) (by kernel_rfl) (fun w' H1 => hK _ _ ?_)) | (refine op_buildSlice_all _ _ _ rfl (by first | exact elem22 | exact elem39 | exact elem76 | exact elem154) (by kernel_rfl) (by kernel_rfl) (by kernel_rfl) H (fun b w' H1 => hK _ _ ?_))); clear hK K; replace H := H1; clear H1)); (try clear hc); (try simp only [nrm, splice, Value.cells, Nat.reduceAdd, Act.eval, Act.put] at H); have hc := H.cells; simp only [CellsOf, KnCells, knc, Nat.reduceAdd] at hc))) | go_values | go_skip | go_guarded | go_step | go_upon | go_back | dsimp only)
        refine ⟨⟨k + 1, by go_num, .inr (.inl ⟨by have := hkm.out; omega, by have := hkm.out; omega, rfl, ⟨k + 1, (by have := hkm.out; show k + 1 = _; omega), by go_num⟩, H⟩)⟩, by simp [intOf]; have := hkm.out; omega⟩
    · by_cases hlt : k < n1 + 1 + n2
      · have hks : k < s.size := by have := hz.out; omega
        have hdg := sp.out.dig2 k (by rw [l1.out]; exact hk0) (by rw [l1.out, l2.out]; exact hlt) hks
        obtain ⟨hd1, hd2⟩ := hdg
        have hks' : k ≤ s.size := Nat.le_of_lt hks
        have hne : (((s[k].toNat : Nat) : Int) == 46) = false := by simp; omega
        have hne' : (((s[k].toNat : Nat) : Int) != 46) = true := by simp; omega
        have hc := H.cells; simp only [CellsOf, KnCells, knc, Nat.reduceAdd] at hc
        repeat' (first | (go_big_may; (first
    | ((first
        | (refine loud_ rfl ?_; refine wpList_plain rfl (fun K hK => ?_); (first | (refine op_box _ _ rfl H (fun b w' H1 => hK _ _ ?_)) | (refine op_alloc _ rfl (zero_of _ _ rfl) H (fun b w' H1 => hK _ _ ?_)) | (refine op_store _ _ _ rfl rfl rfl H (by repeat (first | exact Split.here _ _ | apply Split.there)) (by kernel_rfl) (by kernel_rfl) (by kernel_rfl) (fun w' H1 => hK _ _ ?_)) | (refine op_buildSlice_all _ _ _ rfl (by first | exact elem22 | exact elem39 | exact elem76 | exact elem154) (by kernel_rfl) (by kernel_rfl) (by kernel_rfl) H (fun b w' H1 => hK _ _ ?_))); clear hK K; replace H := H1; clear H1)); (try clear hc); (try simp only [nrm, splice, Value.cells, Nat.reduceAdd, Act.eval, Act.put] at H); have hc := H.cells; simp only [CellsOf, KnCells, knc, Nat.reduceAdd] at hc))) | go_values | go_skip | go_guarded | go_step | go_upon | go_back | dsimp only)
        exact ⟨⟨k + 1, by go_num, .inr (.inl ⟨by omega, by omega, rfl, ⟨g, hg, rfl⟩, H⟩)⟩, by simp [intOf]; omega⟩
      · have hkm : Hid (k = n1 + 1 + n2) := (by omega : k = n1 + 1 + n2)
        have hks : k < s.size := by have := hz.out; omega
        have hdg := sp.out.dot2 k (by rw [l1.out, l2.out]; exact hkm.out) hks
        have hks' : k ≤ s.size := Nat.le_of_lt hks
        have hks2 : g ≤ k := by have := hg.out; omega
        have hcut : Hid ((s.extract g k).data.toList = dec nb) := by show _ = _; have e := sp.out.cut2; rw [l1.out, l2.out] at e; rw [hkm.out, hg.out, e]; exact hB.out
        have hkb : k ≤ 20 := by omega
        clear hk hlt
        have hc := H.cells; simp only [CellsOf, KnCells, knc, Nat.reduceAdd] at hc
        repeat' (first | (go_big_may; (first
    | go_skip
    | ((first
        | (go_at_call 61; refine Calls.mono (parse_calls _ nb (by omega) hcut _) ?_; rintro e w' ⟨rfl, H'⟩; replace H := H.of_ext H'; clear H')
        | (refine loud_ rfl ?_; refine wpList_plain rfl (fun K hK => ?_); (first | (refine op_box _ _ rfl H (fun b w' H1 => hK _ _ ?_)) | (refine op_alloc _ rfl (zero_of _ _ rfl) H (fun b w' H1 => hK _ _ ?_)) | (refine op_store _ _ _ rfl rfl rfl H (by repeat (first | exact Split.here _ _ | apply Split.there)) (by kernel_rfl) (by kernel_rfl) (by kernel_rfl) (fun w' H1 => hK _ _ ?_)) | (refine op_buildSlice_all _ _ _ rfl (by first | exact elem22 | exact elem39 | exact elem76 | exact elem154) (by kernel_rfl) (by kernel_rfl) (by kernel_rfl) H (fun b w' H1 => hK _ _ ?_))); clear hK K; replace H := H1; clear H1)); (try clear hc); (try simp only [nrm, splice, Value.cells, Nat.reduceAdd, Act.eval, Act.put] at H); have hc := H.cells; simp only [CellsOf, KnCells, knc, Nat.reduceAdd] at hc))) | go_values | go_skip | go_guarded | go_step | go_upon | go_back | dsimp only)
        refine ⟨⟨k + 1, by go_num, .inr (.inr (.inl ⟨by have := hkm.out; omega, by have := hkm.out; omega, rfl, ⟨k + 1, (by have := hkm.out; show k + 1 = _; omega), by go_num⟩, H⟩))⟩, by simp [intOf]; have := hkm.out; omega⟩
    · by_cases hlt : k < n1 + n2 + n3 + 2
      · have hks : k < s.size := by have := hz.out; omega
        have hdg := sp.out.dig3 k (by rw [l1.out, l2.out]; exact hk0) hks
        obtain ⟨hd1, hd2⟩ := hdg
        have hks' : k ≤ s.size := Nat.le_of_lt hks
        have hne : (((s[k].toNat : Nat) : Int) == 46) = false := by simp; omega
        have hne' : (((s[k].toNat : Nat) : Int) != 46) = true := by simp; omega
        have hc := H.cells; simp only [CellsOf, KnCells, knc, Nat.reduceAdd] at hc
        repeat' (first | (go_big_may; (first
    | ((first
        | (refine loud_ rfl ?_; refine wpList_plain rfl (fun K hK => ?_); (first | (refine op_box _ _ rfl H (fun b w' H1 => hK _ _ ?_)) | (refine op_alloc _ rfl (zero_of _ _ rfl) H (fun b w' H1 => hK _ _ ?_)) | (refine op_store _ _ _ rfl rfl rfl H (by repeat (first | exact Split.here _ _ | apply Split.there)) (by kernel_rfl) (by kernel_rfl) (by kernel_rfl) (fun w' H1 => hK _ _ ?_)) | (refine op_buildSlice_all _ _ _ rfl (by first | exact elem22 | exact elem39 | exact elem76 | exact elem154) (by kernel_rfl) (by kernel_rfl) (by kernel_rfl) H (fun b w' H1 => hK _ _ ?_))); clear hK K; replace H := H1; clear H1)); (try clear hc); (try simp only [nrm, splice, Value.cells, Nat.reduceAdd, Act.eval, Act.put] at H); have hc := H.cells; simp only [CellsOf, KnCells, knc, Nat.reduceAdd] at hc))) | go_values | go_skip | go_guarded | go_step | go_upon | go_back | dsimp only)
        exact ⟨⟨k + 1, by go_num, .inr (.inr (.inl ⟨by omega, by omega, rfl, ⟨g, hg, rfl⟩, H⟩))⟩, by simp [intOf]; omega⟩
      · have hkm : Hid (k = n1 + n2 + n3 + 2) := (by omega : k = n1 + n2 + n3 + 2)
        have hks : ¬ k < s.size := by have := hz.out; omega
        have hks' : k ≤ s.size := by have := hz.out; omega
        have hks2 : g ≤ k := by have := hg.out; omega
        have hcut : Hid ((s.extract g k).data.toList = dec nc) := by show _ = _; have e := sp.out.cut3; rw [l1.out, l2.out, hz.out] at e; rw [hkm.out, hg.out, e]; exact hC.out
        have hle := Lib.hid hk0
        have hkb : k ≤ 20 := by omega
        clear hk0 hk hlt
        have hc := H.cells; simp only [CellsOf, KnCells, knc, Nat.reduceAdd] at hc
        repeat' (first | (go_big_may; (first
    | go_skip
    | ((first
        | (go_at_call 61; refine Calls.mono (parse_calls _ nc (by omega) hcut _) ?_; rintro e w' ⟨rfl, H'⟩; replace H := H.of_ext H'; clear H')
        | (refine loud_ rfl ?_; refine wpList_plain rfl (fun K hK => ?_); (first | (refine op_box _ _ rfl H (fun b w' H1 => hK _ _ ?_)) | (refine op_alloc _ rfl (zero_of _ _ rfl) H (fun b w' H1 => hK _ _ ?_)) | (refine op_store _ _ _ rfl rfl rfl H (by repeat (first | exact Split.here _ _ | apply Split.there)) (by kernel_rfl) (by kernel_rfl) (by kernel_rfl) (fun w' H1 => hK _ _ ?_)) | (refine op_buildSlice_all _ _ _ rfl (by first | exact elem22 | exact elem39 | exact elem76 | exact elem154) (by kernel_rfl) (by kernel_rfl) (by kernel_rfl) H (fun b w' H1 => hK _ _ ?_))); clear hK K; replace H := H1; clear H1)); (try clear hc); (try simp only [nrm, splice, Value.cells, Nat.reduceAdd, Act.eval, Act.put] at H); have hc := H.cells; simp only [CellsOf, KnCells, knc, Nat.reduceAdd] at hc))) | go_values | go_skip | go_guarded | go_step | go_upon | go_back | dsimp only)
        refine ⟨⟨k + 1, by go_num, .inr (.inr (.inr ⟨by have := hkm.out; omega, rfl, H⟩))⟩, by simp [intOf]; have := hkm.out; omega⟩
    · have hks : ¬ (n1 + n2 + n3 + 3) ≤ s.size := by have := hz.out; omega
      have hc := H.cells; simp only [CellsOf, KnCells, knc, Nat.reduceAdd] at hc
      repeat' (first | (go_big_may; (first
    | ((first
        | (refine loud_ rfl ?_; refine wpList_plain rfl (fun K hK => ?_); (first | (refine op_box _ _ rfl H (fun b w' H1 => hK _ _ ?_)) | (refine op_alloc _ rfl (zero_of _ _ rfl) H (fun b w' H1 => hK _ _ ?_)) | (refine op_store _ _ _ rfl rfl rfl H (by repeat (first | exact Split.here _ _ | apply Split.there)) (by kernel_rfl) (by kernel_rfl) (by kernel_rfl) (fun w' H1 => hK _ _ ?_)) | (refine op_buildSlice_all _ _ _ rfl (by first | exact elem22 | exact elem39 | exact elem76 | exact elem154) (by kernel_rfl) (by kernel_rfl) (by kernel_rfl) H (fun b w' H1 => hK _ _ ?_))); clear hK K; replace H := H1; clear H1)); (try clear hc); (try simp only [nrm, splice, Value.cells, Nat.reduceAdd, Act.eval, Act.put] at H); have hc := H.cells; simp only [CellsOf, KnCells, knc, Nat.reduceAdd] at hc))) | go_values | go_skip | go_guarded | go_step | go_upon | go_back | dsimp only)
      go_ret2
      exact ⟨_, rfl, H.sel (by repeat (first | exact Sel.nil _ | (apply Sel.cons; focus (repeat (first | exact Split.here _ _ | apply Split.there)))))⟩
theorem newVersion_ok (s : ByteArray) (x : Vr) (h : VText s x) (w : World) :
    Calls Tryd.prog 50 #[.string s] w fun e w' => ∃ q, e = .returned (.tuple #[.pointer (some ⟨q, 0, none⟩), .nilIface]) ∧ St [] w w' [(true, .is q (x.obj 62))] := by
  have sp := h.spans
  obtain ⟨⟨ha, hb, hc⟩, _⟩ := h
  obtain ⟨x1, x2, x3⟩ := x
  obtain ⟨na, rfl⟩ : ∃ n : Nat, x1 = n := ⟨x1.toNat, by simp only at ha; omega⟩
  obtain ⟨nb, rfl⟩ : ∃ n : Nat, x2 = n := ⟨x2.toNat, by simp only at hb; omega⟩
  obtain ⟨nc, rfl⟩ : ∃ n : Nat, x3 = n := ⟨x3.toNat, by simp only at hc; omega⟩
  simp only [Int.toNat_natCast] at ha hb hc sp
  exact newVersion_at s _ _ _ na nb nc (by omega) (by omega) (by omega) _ _ _ rfl rfl rfl rfl rfl rfl sp w
end Go.Proofs.YtdcijhdjddiboaaDoor
