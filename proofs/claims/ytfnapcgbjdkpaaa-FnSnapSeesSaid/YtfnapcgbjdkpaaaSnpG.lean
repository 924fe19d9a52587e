import Derived.Test.YtfnapcgbjdkpaaaSnpF
-- MORE
-- SUB2
namespace Go.Proofs.Ytfnapcgbjdkpaaa
set_option linter.unusedVariables false
set_option linter.unusedSimpArgs false
set_option linter.unnecessarySimpa false
open Go Go.RowKit Go.V Go.Lib

theorem and7 : ∀ k : Nat, k < 16 → ∀ r : Nat, r < 8 → bits .and .u64 ((k * 8 + r : Nat) : Int) 7 = (r : Int) := by decide +kernel
abbrev fldV (k v : Nat) : Value := .agg #[.int .i64 k, .bool false, .int .i64 (wrap64 v), .slice none 0 0]
theorem wrap64_small {n : Int} (h0 : 0 ≤ n) (h1 : n < 9223372036854775808) : wrap64 n = n := by unfold wrap64; omega
set_option maxHeartbeats 200000 in
set_option maxRecDepth 8000 in
theorem takeV_calls (k : Nat) (hk : 0 < k ∧ k < 16) (src : Option Addr) (n c : Nat) (v : Nat) (rest : List UInt8) (hl : Hid ((vfield (k * 8).toUInt8 v ++ rest).length = n)) (hn : n ≤ 1000000000) (hc' : n ≤ c) (hv : Hid (v < 18446744073709551616)) (w : World) (H : St [] w w [(false, soft src (by8 (vfield (k * 8).toUInt8 v ++ rest)))]) :
    Calls Try.prog 77 #[.slice src n c, .int .i64 0] w fun e w' => ∃ src' n' c', Hid (n' = rest.length ∧ Tail w' src (by8 (vfield (k * 8).toUInt8 v ++ rest)) src' (by8 rest)) ∧ n' < n ∧ n' ≤ c' ∧ e = .returned (.tuple #[fldV k v, .slice src' n' c', .bool true]) ∧ Ext [] w w' := by
  have hsp : vfield (k * 8).toUInt8 v ++ rest = uvarint (k * 8) ++ (uvarint v ++ rest) := by
    rw [uvarint_small (by omega), vfield]
    rfl
  rw [hsp] at H hl ⊢
  clear hsp
  have h7 := and7 k hk.2 0 (by decide)
  rw [Nat.add_zero] at h7
  have ht : Hid (k * 8 < 18446744073709551616) := by show _ < _; omega
  have h8 : ((k * 8 : Nat) : Int) / 8 = k := by omega
  have hk1 : ¬ (k : Int) = 0 := by omega
  have hk2 : (k : Int) ≤ 15 := by omega
  have hkb : ((k : Int) == 0) = false := by simp; omega
  have hkd : decide (536870911 < (k : Int)) = false := by simp; omega
  have hkw : wrap64 (k : Int) = k := wrap64_small (by omega) (by omega)
  have hk16 := Lib.hid hk
  clear hk hk1 hk2
  generalize k * 8 = t at *
  go_enter Try.func77, Try.ntmps77
  repeat' (first | (go_big_may; (first
    | ((first
        | (refine loud_ rfl ?_; refine wpList_plain rfl (fun K hK => ?_); (first | (refine op_box _ _ rfl H (fun b w' H1 => hK _ _ ?_)) | (refine op_alloc _ rfl (zero_of _ _ rfl) H (fun b w' H1 => hK _ _ ?_)) | (refine op_store _ _ _ rfl rfl rfl H (by repeat (first | exact Split.here _ _ | apply Split.there)) (by kernel_rfl) (by kernel_rfl) (by kernel_rfl) (fun w' H1 => hK _ _ ?_)) | (refine op_buildSlice_all _ _ _ rfl (by first | exact elem23 | exact elem34 | exact elem51 | exact elem148) (by kernel_rfl) (by kernel_rfl) (by kernel_rfl) H (fun b w' H1 => hK _ _ ?_))); clear hK K; replace H := H1; clear H1)); (try clear hc); (try simp only [nrm, splice, Value.cells, Nat.reduceAdd, Act.eval, Act.put] at H); have hc := H.cells; simp only [CellsOf, KnCells, knc, Nat.reduceAdd] at hc))) | go_values | go_skip | go_guarded | go_step | go_upon | go_back | dsimp only)
  go_at_call 78
  refine Calls.mono (takeVarint_calls _ _ _ t (uvarint v ++ rest) hl hn hc' ht _ (H.pick (by repeat (first | exact Picks.nil _ | (apply Picks.wr; focus (repeat (first | exact Split.here _ _ | apply Split.there))) | (apply Picks.rd; focus (repeat (first | exact Split.here _ _ | apply Split.there))))))) ?_
  rintro e w' ⟨s1, n1, c1, hT1, hn1, hc1, rfl, H'⟩
  replace H := (H.of_ext H').tail (by repeat (first | exact Split.here _ _ | apply Split.there)) hT1.out.2
  clear H'
  repeat' (first | (go_big_may; (first
    | ((first
        | (refine loud_ rfl ?_; refine wpList_plain rfl (fun K hK => ?_); (first | (refine op_box _ _ rfl H (fun b w' H1 => hK _ _ ?_)) | (refine op_alloc _ rfl (zero_of _ _ rfl) H (fun b w' H1 => hK _ _ ?_)) | (refine op_store _ _ _ rfl rfl rfl H (by repeat (first | exact Split.here _ _ | apply Split.there)) (by kernel_rfl) (by kernel_rfl) (by kernel_rfl) (fun w' H1 => hK _ _ ?_)) | (refine op_buildSlice_all _ _ _ rfl (by first | exact elem23 | exact elem34 | exact elem51 | exact elem148) (by kernel_rfl) (by kernel_rfl) (by kernel_rfl) H (fun b w' H1 => hK _ _ ?_))); clear hK K; replace H := H1; clear H1)); (try clear hc); (try simp only [nrm, splice, Value.cells, Nat.reduceAdd, Act.eval, Act.put] at H); have hc := H.cells; simp only [CellsOf, KnCells, knc, Nat.reduceAdd] at hc))) | go_values | go_skip | go_guarded | go_step | go_upon | go_back | dsimp only)
  go_at_call 78
  refine Calls.mono (takeVarint_calls _ _ _ v rest hT1.out.1.symm (by omega) hc1 hv _ (H.pick (by repeat (first | exact Picks.nil _ | (apply Picks.wr; focus (repeat (first | exact Split.here _ _ | apply Split.there))) | (apply Picks.rd; focus (repeat (first | exact Split.here _ _ | apply Split.there))))))) ?_
  rintro e w' ⟨s2, n2, c2, hT2, hn2, hc2, rfl, H'⟩
  replace H := (H.of_ext H').tail (by repeat (first | exact Split.here _ _ | apply Split.there)) hT2.out.2
  clear H'
  have hc := H.cells; simp only [CellsOf, KnCells, knc, Nat.reduceAdd] at hc
  repeat' (first | (go_big_may; (first
    | ((first
        | (refine loud_ rfl ?_; refine wpList_plain rfl (fun K hK => ?_); (first | (refine op_box _ _ rfl H (fun b w' H1 => hK _ _ ?_)) | (refine op_alloc _ rfl (zero_of _ _ rfl) H (fun b w' H1 => hK _ _ ?_)) | (refine op_store _ _ _ rfl rfl rfl H (by repeat (first | exact Split.here _ _ | apply Split.there)) (by kernel_rfl) (by kernel_rfl) (by kernel_rfl) (fun w' H1 => hK _ _ ?_)) | (refine op_buildSlice_all _ _ _ rfl (by first | exact elem23 | exact elem34 | exact elem51 | exact elem148) (by kernel_rfl) (by kernel_rfl) (by kernel_rfl) H (fun b w' H1 => hK _ _ ?_))); clear hK K; replace H := H1; clear H1)); (try clear hc); (try simp only [nrm, splice, Value.cells, Nat.reduceAdd, Act.eval, Act.put] at H); have hc := H.cells; simp only [CellsOf, KnCells, knc, Nat.reduceAdd] at hc))) | go_values | go_skip | go_guarded | go_step | go_upon | go_back | dsimp only)
  have hT5 : Hid (Tail w' src (by8 (uvarint t ++ (uvarint v ++ rest))) s2 (by8 rest)) := ⟨H.lies (Split.here _ _), fun x hx => hT1.out.2.2 x (hT2.out.2.2 x hx)⟩
  exact bodyPost_ret (v := .tuple #[fldV k v, .slice s2 n2 c2, .bool true]) (by simp [results, Try.results77, go_sem, hc, Act.put]; try rfl) rfl ⟨s2, n2, c2, ⟨hT2.out.1, hT5.out⟩, by omega, hc2, rfl, H.ext⟩
theorem tail_dropO {w : World} {src : Option Addr} {xs : List Value} {k c : Nat} (h : Lies w src xs) (hc : xs.length ≤ c) : Tail w src xs (if c = k then src else Option.map (fun x => x.add k) src) (xs.drop k) := by
  by_cases hck : c = k
  · have e : xs.drop k = [] := List.drop_eq_nil_iff.2 (by omega)
    rw [e]
    exact ⟨Lies.nil _ _, fun c hc => by simp [softFp] at hc⟩
  · cases hx : xs.drop k with
    | nil => exact ⟨Lies.nil _ _, fun c hc => by simp [softFp] at hc⟩
    | cons y r =>
      have hk : xs[k]? = some y := by
        have : (xs.drop k)[0]? = some y := by rw [hx]; rfl
        rwa [List.getElem?_drop, Nat.add_zero] at this
      obtain ⟨b, o, rfl, _⟩ := liesAny h hk
      have := tail_drop (k := k) h hc
      rw [if_neg hck] at this ⊢
      rw [← hx]
      rw [Option.map_some, addr_add]
      exact this
abbrev fldB (k : Nat) (key : Option Nat) (n cap : Nat) : Value := .agg #[.int .i64 k, .bool true, .int .i64 0, sl key n cap]
theorem lies_app {w : World} {src : Option Addr} {xs ys : List Value} (h : Lies w src (xs ++ ys)) : Lies w src xs :=
  ⟨fun e => (List.append_eq_nil_iff.1 (h.1 e)).1, fun ad had j u hu => h.2 ad had j u (by rw [List.getElem?_append_left (List.getElem?_eq_some_iff.1 hu).1]; exact hu)⟩
set_option maxHeartbeats 400000 in
set_option maxRecDepth 8000 in
theorem takeB_calls (k : Nat) (hk : 0 < k ∧ k < 16) (src : Option Addr) (n c : Nat) (l rest : List UInt8) (hl : Hid ((bfield k l ++ rest).length = n)) (hn : n ≤ 1000000000) (hc' : n ≤ c) (w : World) (H : St [] w w [(false, soft src (by8 (bfield k l ++ rest)))]) :
    Calls Try.prog 77 #[.slice src n c, .int .i64 0] w fun e w' => ∃ src' n' c' key m cap, Hid (n' = rest.length ∧ m = l.length ∧ Tail w' src (by8 (bfield k l ++ rest)) src' (by8 rest)) ∧ n' < n ∧ n' ≤ c' ∧ m < n ∧ e = .returned (.tuple #[fldB k key m cap, .slice src' n' c', .bool true]) ∧ St [] w w' [(true, .row key 5 1 m cap (by8 l))] := by
  have hsp : bfield k l ++ rest = uvarint (k * 8 + 2) ++ (uvarint l.length ++ (l ++ rest)) := by
    rw [uvarint_small (x := k * 8 + 2) (by omega), bfield]
    simp
  rw [hsp] at H hl ⊢
  clear hsp
  have h7 := and7 k hk.2 2 (by decide)
  have ht : Hid (k * 8 + 2 < 18446744073709551616) := by show _ < _; omega
  have h8 : ((k * 8 + 2 : Nat) : Int) / 8 = k := by omega
  have hkb : ((k : Int) == 0) = false := by simp; omega
  have hkd : decide (536870911 < (k : Int)) = false := by simp; omega
  have hkw : wrap64 (k : Int) = k := wrap64_small (by omega) (by omega)
  clear hk
  generalize k * 8 + 2 = t at *
  have hls : Hid (l.length < n) := by
    have h1 := hl.out
    have h2 := uvarint_pos t
    rw [List.length_append, List.length_append, List.length_append] at h1
    show _ < _
    omega
  obtain ⟨m, hm⟩ : ∃ m, Hid (l.length = m) := ⟨_, rfl⟩
  rw [hm.out] at hls H hl ⊢
  have hmn := hls.out
  have hm64 : Hid (m < 18446744073709551616) := by show _ < _; omega
  have hone := by8_one l
  go_enter Try.func77, Try.ntmps77
  repeat' (first | (go_big_may; (first
    | ((first
        | (refine loud_ rfl ?_; refine wpList_plain rfl (fun K hK => ?_); (first | (refine op_box _ _ rfl H (fun b w' H1 => hK _ _ ?_)) | (refine op_alloc _ rfl (zero_of _ _ rfl) H (fun b w' H1 => hK _ _ ?_)) | (refine op_store _ _ _ rfl rfl rfl H (by repeat (first | exact Split.here _ _ | apply Split.there)) (by kernel_rfl) (by kernel_rfl) (by kernel_rfl) (fun w' H1 => hK _ _ ?_)) | (refine op_buildSlice_all _ _ _ rfl (by first | exact elem23 | exact elem34 | exact elem51 | exact elem148) (by kernel_rfl) (by kernel_rfl) (by kernel_rfl) H (fun b w' H1 => hK _ _ ?_))); clear hK K; replace H := H1; clear H1)); (try clear hc); (try simp only [nrm, splice, Value.cells, Nat.reduceAdd, Act.eval, Act.put] at H); have hc := H.cells; simp only [CellsOf, KnCells, knc, Nat.reduceAdd] at hc))) | go_values | go_skip | go_guarded | go_step | go_upon | go_back | dsimp only)
  go_at_call 78
  refine Calls.mono (takeVarint_calls _ _ _ t (uvarint m ++ (l ++ rest)) hl hn hc' ht _ (H.pick (by repeat (first | exact Picks.nil _ | (apply Picks.wr; focus (repeat (first | exact Split.here _ _ | apply Split.there))) | (apply Picks.rd; focus (repeat (first | exact Split.here _ _ | apply Split.there))))))) ?_
  rintro e w' ⟨s1, n1, c1, hT1, hn1, hc1, rfl, H'⟩
  replace H := (H.of_ext H').tail (by repeat (first | exact Split.here _ _ | apply Split.there)) hT1.out.2
  clear H'
  repeat' (first | (go_big_may; (first
    | ((first
        | (refine loud_ rfl ?_; refine wpList_plain rfl (fun K hK => ?_); (first | (refine op_box _ _ rfl H (fun b w' H1 => hK _ _ ?_)) | (refine op_alloc _ rfl (zero_of _ _ rfl) H (fun b w' H1 => hK _ _ ?_)) | (refine op_store _ _ _ rfl rfl rfl H (by repeat (first | exact Split.here _ _ | apply Split.there)) (by kernel_rfl) (by kernel_rfl) (by kernel_rfl) (fun w' H1 => hK _ _ ?_)) | (refine op_buildSlice_all _ _ _ rfl (by first | exact elem23 | exact elem34 | exact elem51 | exact elem148) (by kernel_rfl) (by kernel_rfl) (by kernel_rfl) H (fun b w' H1 => hK _ _ ?_))); clear hK K; replace H := H1; clear H1)); (try clear hc); (try simp only [nrm, splice, Value.cells, Nat.reduceAdd, Act.eval, Act.put] at H); have hc := H.cells; simp only [CellsOf, KnCells, knc, Nat.reduceAdd] at hc))) | go_values | go_skip | go_guarded | go_step | go_upon | go_back | dsimp only)
  go_at_call 78
  refine Calls.mono (takeVarint_calls _ _ _ m (l ++ rest) hT1.out.1.symm (by omega) hc1 hm64 _ (H.pick (by repeat (first | exact Picks.nil _ | (apply Picks.wr; focus (repeat (first | exact Split.here _ _ | apply Split.there))) | (apply Picks.rd; focus (repeat (first | exact Split.here _ _ | apply Split.there))))))) ?_
  rintro e w' ⟨s2, n2, c2, hT2, hn2, hc2, rfl, H'⟩
  replace H := (H.of_ext H').tail (by repeat (first | exact Split.here _ _ | apply Split.there)) hT2.out.2
  clear H'
  have hmn3 : m ≤ n2 := by
    have := hT2.out.1
    have e := hm.out
    rw [List.length_append, e] at this
    omega
  have hmn2 : decide ((n2 : Int) < (m : Int)) = false := by simp; omega
  have hc := H.cells; simp only [CellsOf, KnCells, knc, Nat.reduceAdd] at hc
  go_upto_region 14 with (first
    | ((first
        | (refine loud_ rfl ?_; refine wpList_plain rfl (fun K hK => ?_); (first | (refine op_box _ _ rfl H (fun b w' H1 => hK _ _ ?_)) | (refine op_alloc _ rfl (zero_of _ _ rfl) H (fun b w' H1 => hK _ _ ?_)) | (refine op_store _ _ _ rfl rfl rfl H (by repeat (first | exact Split.here _ _ | apply Split.there)) (by kernel_rfl) (by kernel_rfl) (by kernel_rfl) (fun w' H1 => hK _ _ ?_)) | (refine op_buildSlice_all _ _ _ rfl (by first | exact elem23 | exact elem34 | exact elem51 | exact elem148) (by kernel_rfl) (by kernel_rfl) (by kernel_rfl) H (fun b w' H1 => hK _ _ ?_))); clear hK K; replace H := H1; clear H1)); (try clear hc); (try simp only [nrm, splice, Value.cells, Nat.reduceAdd, Act.eval, Act.put] at H); have hc := H.cells; simp only [CellsOf, KnCells, knc, Nat.reduceAdd] at hc))
  have hl8 : (by8 l).length = m * 1 := by rw [by8_len, Nat.mul_one]; exact hm.out
  have hsn : s2 = none → m = 0 := by
    intro hs
    subst hs
    have := lies_none (H.lies (Split.here _ _))
    have e := congrArg List.length this
    have e2 := hm.out
    simp only [List.length_append, List.length_nil] at e
    omega
  (try simp only [Act.put, slt])
  refine wp_region_plan (.p [0, 1, 2, 4, 5, 6, 9, 10, 11] (.e 3 (.e 7 (.p [8] (.e 12 (.p [13, 14] .done)))))) [3, 7, 12] (by kernel_rfl) (by kernel_rfl) (fun _ _ d _ _ h => by cases d <;> exact h) H ?_
  clear H
  (try clear hc)
  intro X nX fX wd hcf hS H
  simp only [CellsOf, KnCells, knc, Nat.reduceAdd] at hcf
  have hc := H.cells
  simp only [CellsOf, KnCells, knc, Nat.reduceAdd] at hc
  iterate 9 (refine plan_p (o := ⟨_, _, _, _, _, _⟩) rfl (fun N hN => ?_); go_big_quiet_step (fail); refine wpQuiet_nil (hN _ ?_); clear hN N)
  refine plan_p0 ?_
  refine plan_e (o := ⟨_, _, _, _, _, _⟩) rfl rfl (fun K hK => ?_)
  (first | (refine op_buildSlice_none _ _ _ rfl elem34 rfl rfl H (fun b9 w' H1 => ?_); replace H := H1; clear H1) | (refine op_append_lies _ _ _ rfl elem34 (key := some b9) (n := 0) rfl rfl H (by repeat (first | exact Split.here _ _ | apply Split.there)) (lies_app (ys := by8 rest) (by rw [← by8_app]; exact H.lies (by repeat (first | exact Split.here _ _ | apply Split.there)))) hl8 hsn hone (by omega) (by unfold maxLen; omega) (fun key4 cap4 w' H1 => ?_); replace H := H1; clear H1) | (refine op_box _ _ rfl H (fun b w' H1 => ?_); replace H := H1; clear H1) | (refine op_alloc _ rfl (zero_of _ _ rfl) H (fun b w' H1 => ?_); replace H := H1; clear H1) | (refine op_store _ _ _ rfl rfl rfl H (by repeat (first | exact Split.here _ _ | apply Split.there)) (by kernel_rfl) (by kernel_rfl) (by kernel_rfl) (fun w' H1 => ?_); replace H := H1; clear H1) | (refine op_buildSlice_all _ _ _ rfl (by first | exact elem23 | exact elem34 | exact elem51 | exact elem148) (by kernel_rfl) (by kernel_rfl) (by kernel_rfl) H (fun b w' H1 => ?_); replace H := H1; clear H1)); (try clear hc); (try simp only [nrm, splice, Value.cells, Nat.reduceAdd, Act.eval, Act.put] at H); have hc := H.cells; simp only [CellsOf, KnCells, knc, Nat.reduceAdd] at hc; refine hK _ _ (fun h => (h (by decide)).elim) ?_; clear hK K; (try simp only [Act.put, slt])
  refine plan_e (o := ⟨_, _, _, _, _, _⟩) rfl rfl (fun K hK => ?_)
  (first | (refine op_buildSlice_none _ _ _ rfl elem34 rfl rfl H (fun b9 w' H1 => ?_); replace H := H1; clear H1) | (refine op_append_lies _ _ _ rfl elem34 (key := some b9) (n := 0) rfl rfl H (by repeat (first | exact Split.here _ _ | apply Split.there)) (lies_app (ys := by8 rest) (by rw [← by8_app]; exact H.lies (by repeat (first | exact Split.here _ _ | apply Split.there)))) hl8 hsn hone (by omega) (by unfold maxLen; omega) (fun key4 cap4 w' H1 => ?_); replace H := H1; clear H1) | (refine op_box _ _ rfl H (fun b w' H1 => ?_); replace H := H1; clear H1) | (refine op_alloc _ rfl (zero_of _ _ rfl) H (fun b w' H1 => ?_); replace H := H1; clear H1) | (refine op_store _ _ _ rfl rfl rfl H (by repeat (first | exact Split.here _ _ | apply Split.there)) (by kernel_rfl) (by kernel_rfl) (by kernel_rfl) (fun w' H1 => ?_); replace H := H1; clear H1) | (refine op_buildSlice_all _ _ _ rfl (by first | exact elem23 | exact elem34 | exact elem51 | exact elem148) (by kernel_rfl) (by kernel_rfl) (by kernel_rfl) H (fun b w' H1 => ?_); replace H := H1; clear H1)); (try clear hc); (try simp only [nrm, splice, Value.cells, Nat.reduceAdd, Act.eval, Act.put] at H); have hc := H.cells; simp only [CellsOf, KnCells, knc, Nat.reduceAdd] at hc; refine hK _ _ (fun h => (h (by decide)).elim) ?_; clear hK K; (try simp only [Act.put, slt])
  iterate 1 (refine plan_p (o := ⟨_, _, _, _, _, _⟩) rfl (fun N hN => ?_); go_big_quiet_step (fail); refine wpQuiet_nil (hN _ ?_); clear hN N)
  refine plan_p0 ?_
  refine plan_e (o := ⟨_, _, _, _, _, _⟩) rfl rfl (fun K hK => ?_)
  (first | (refine op_buildSlice_none _ _ _ rfl elem34 rfl rfl H (fun b9 w' H1 => ?_); replace H := H1; clear H1) | (refine op_append_lies _ _ _ rfl elem34 (key := some b9) (n := 0) rfl rfl H (by repeat (first | exact Split.here _ _ | apply Split.there)) (lies_app (ys := by8 rest) (by rw [← by8_app]; exact H.lies (by repeat (first | exact Split.here _ _ | apply Split.there)))) hl8 hsn hone (by omega) (by unfold maxLen; omega) (fun key4 cap4 w' H1 => ?_); replace H := H1; clear H1) | (refine op_box _ _ rfl H (fun b w' H1 => ?_); replace H := H1; clear H1) | (refine op_alloc _ rfl (zero_of _ _ rfl) H (fun b w' H1 => ?_); replace H := H1; clear H1) | (refine op_store _ _ _ rfl rfl rfl H (by repeat (first | exact Split.here _ _ | apply Split.there)) (by kernel_rfl) (by kernel_rfl) (by kernel_rfl) (fun w' H1 => ?_); replace H := H1; clear H1) | (refine op_buildSlice_all _ _ _ rfl (by first | exact elem23 | exact elem34 | exact elem51 | exact elem148) (by kernel_rfl) (by kernel_rfl) (by kernel_rfl) H (fun b w' H1 => ?_); replace H := H1; clear H1)); (try clear hc); (try simp only [nrm, splice, Value.cells, Nat.reduceAdd, Act.eval, Act.put] at H); have hc := H.cells; simp only [CellsOf, KnCells, knc, Nat.reduceAdd] at hc; refine hK _ _ (fun h => (h (by decide)).elim) ?_; clear hK K; (try simp only [Act.put, slt])
  iterate 2 (refine plan_p (o := ⟨_, _, _, _, _, _⟩) rfl (fun N hN => ?_); go_big_quiet_step (fail); refine wpQuiet_nil (hN _ ?_); clear hN N)
  refine plan_p0 ?_
  refine plan_done ?_
  repeat' (first | (go_big_may; (first
    | ((first
        | (refine loud_ rfl ?_; refine wpList_plain rfl (fun K hK => ?_); (first | (refine op_box _ _ rfl H (fun b w' H1 => hK _ _ ?_)) | (refine op_alloc _ rfl (zero_of _ _ rfl) H (fun b w' H1 => hK _ _ ?_)) | (refine op_store _ _ _ rfl rfl rfl H (by repeat (first | exact Split.here _ _ | apply Split.there)) (by kernel_rfl) (by kernel_rfl) (by kernel_rfl) (fun w' H1 => hK _ _ ?_)) | (refine op_buildSlice_all _ _ _ rfl (by first | exact elem23 | exact elem34 | exact elem51 | exact elem148) (by kernel_rfl) (by kernel_rfl) (by kernel_rfl) H (fun b w' H1 => hK _ _ ?_))); clear hK K; replace H := H1; clear H1)); (try clear hc); (try simp only [nrm, splice, Value.cells, Nat.reduceAdd, Act.eval, Act.put] at H); have hc := H.cells; simp only [CellsOf, KnCells, knc, Nat.reduceAdd] at hc))) | go_values | go_skip | go_guarded | go_step | go_upon | go_back | dsimp only)
  have hdrop : (by8 (l ++ rest)).drop m = by8 rest := by rw [by8_app, List.drop_left' (by rw [by8_len]; exact hm.out)]
  have ht2 := tail_dropO (k := m) (c := c2) (H.lies (Split.there _ (Split.here _ _))) (by rw [by8_len]; have := hT2.out.1; omega)
  rw [hdrop] at ht2
  exact bodyPost_ret (v := .tuple #[fldB k key4 m cap4, .slice (if c2 = m then s2 else Option.map (fun x => x.add m) s2) (n2 - m) (c2 - m), .bool true]) (by simp [results, Try.results77, go_sem, hc, Act.put]; try rfl) rfl ⟨_, _, _, key4, m, cap4, ⟨by have := hT2.out.1; have e := hm.out; rw [List.length_append] at this; omega, rfl, ht2.1, fun x hx => hT1.out.2.2 x (hT2.out.2.2 x (ht2.2 x hx))⟩, by omega, by omega, hmn, rfl, H.top1⟩
set_option maxHeartbeats 400000 in
set_option maxRecDepth 8000 in
theorem TakeV_calls (k : Nat) (hk : 0 < k ∧ k < 16) (src : Option Addr) (n c : Nat) (v : Nat) (rest : List UInt8) (hl : Hid ((vfield (k * 8).toUInt8 v ++ rest).length = n)) (hn : n ≤ 1000000000) (hc' : n ≤ c) (hv : Hid (v < 18446744073709551616)) (w : World) (H : St [] w w [(false, soft src (by8 (vfield (k * 8).toUInt8 v ++ rest)))]) :
    Calls Try.prog 75 #[.slice src n c] w fun e w' => ∃ src' n' c', Hid (n' = rest.length ∧ Tail w' src (by8 (vfield (k * 8).toUInt8 v ++ rest)) src' (by8 rest)) ∧ n' < n ∧ n' ≤ c' ∧ e = .returned (.tuple #[fldV k v, .slice src' n' c', .bool true]) ∧ Ext [] w w' := by
  go_enter Try.func75, Try.ntmps75
  repeat' (first | (go_big_may; (first
    | ((first
        | (refine loud_ rfl ?_; refine wpList_plain rfl (fun K hK => ?_); (first | (refine op_box _ _ rfl H (fun b w' H1 => hK _ _ ?_)) | (refine op_alloc _ rfl (zero_of _ _ rfl) H (fun b w' H1 => hK _ _ ?_)) | (refine op_store _ _ _ rfl rfl rfl H (by repeat (first | exact Split.here _ _ | apply Split.there)) (by kernel_rfl) (by kernel_rfl) (by kernel_rfl) (fun w' H1 => hK _ _ ?_)) | (refine op_buildSlice_all _ _ _ rfl (by first | exact elem23 | exact elem34 | exact elem51 | exact elem148) (by kernel_rfl) (by kernel_rfl) (by kernel_rfl) H (fun b w' H1 => hK _ _ ?_))); clear hK K; replace H := H1; clear H1)); (try clear hc); (try simp only [nrm, splice, Value.cells, Nat.reduceAdd, Act.eval, Act.put] at H); have hc := H.cells; simp only [CellsOf, KnCells, knc, Nat.reduceAdd] at hc))) | go_values | go_skip | go_guarded | go_step | go_upon | go_back | dsimp only)
  go_at_call 77
  refine Calls.mono (takeV_calls k hk _ _ _ v rest hl hn hc' hv _ (H.pick (by repeat (first | exact Picks.nil _ | (apply Picks.wr; focus (repeat (first | exact Split.here _ _ | apply Split.there))) | (apply Picks.rd; focus (repeat (first | exact Split.here _ _ | apply Split.there))))))) ?_
  rintro e w' ⟨s1, n1, c1, hT1, hn1, hc1, rfl, H'⟩
  replace H := (H.of_ext H').tail (by repeat (first | exact Split.here _ _ | apply Split.there)) hT1.out.2
  clear H'
  have hc := H.cells; simp only [CellsOf, KnCells, knc, Nat.reduceAdd] at hc
  repeat' (first | (go_big_may; (first
    | ((first
        | (refine loud_ rfl ?_; refine wpList_plain rfl (fun K hK => ?_); (first | (refine op_box _ _ rfl H (fun b w' H1 => hK _ _ ?_)) | (refine op_alloc _ rfl (zero_of _ _ rfl) H (fun b w' H1 => hK _ _ ?_)) | (refine op_store _ _ _ rfl rfl rfl H (by repeat (first | exact Split.here _ _ | apply Split.there)) (by kernel_rfl) (by kernel_rfl) (by kernel_rfl) (fun w' H1 => hK _ _ ?_)) | (refine op_buildSlice_all _ _ _ rfl (by first | exact elem23 | exact elem34 | exact elem51 | exact elem148) (by kernel_rfl) (by kernel_rfl) (by kernel_rfl) H (fun b w' H1 => hK _ _ ?_))); clear hK K; replace H := H1; clear H1)); (try clear hc); (try simp only [nrm, splice, Value.cells, Nat.reduceAdd, Act.eval, Act.put] at H); have hc := H.cells; simp only [CellsOf, KnCells, knc, Nat.reduceAdd] at hc))) | go_values | go_skip | go_guarded | go_step | go_upon | go_back | dsimp only)
  exact bodyPost_ret (v := .tuple #[fldV k v, .slice s1 n1 c1, .bool true]) (by simp [results, Try.results75, go_sem, hc, Act.put]; try rfl) rfl ⟨_, _, _, ⟨hT1.out.1, H.lies (Split.here _ _), hT1.out.2.2⟩, hn1, hc1, rfl, H.ext⟩
set_option maxHeartbeats 400000 in
set_option maxRecDepth 8000 in
theorem TakeB_calls (k : Nat) (hk : 0 < k ∧ k < 16) (src : Option Addr) (n c : Nat) (l rest : List UInt8) (hl : Hid ((bfield k l ++ rest).length = n)) (hn : n ≤ 1000000000) (hc' : n ≤ c) (w : World) (H : St [] w w [(false, soft src (by8 (bfield k l ++ rest)))]) :
    Calls Try.prog 75 #[.slice src n c] w fun e w' => ∃ src' n' c' key m cap, Hid (n' = rest.length ∧ m = l.length ∧ Tail w' src (by8 (bfield k l ++ rest)) src' (by8 rest)) ∧ n' < n ∧ n' ≤ c' ∧ m < n ∧ e = .returned (.tuple #[fldB k key m cap, .slice src' n' c', .bool true]) ∧ St [] w w' [(true, .row key 5 1 m cap (by8 l))] := by
  go_enter Try.func75, Try.ntmps75
  repeat' (first | (go_big_may; (first
    | ((first
        | (refine loud_ rfl ?_; refine wpList_plain rfl (fun K hK => ?_); (first | (refine op_box _ _ rfl H (fun b w' H1 => hK _ _ ?_)) | (refine op_alloc _ rfl (zero_of _ _ rfl) H (fun b w' H1 => hK _ _ ?_)) | (refine op_store _ _ _ rfl rfl rfl H (by repeat (first | exact Split.here _ _ | apply Split.there)) (by kernel_rfl) (by kernel_rfl) (by kernel_rfl) (fun w' H1 => hK _ _ ?_)) | (refine op_buildSlice_all _ _ _ rfl (by first | exact elem23 | exact elem34 | exact elem51 | exact elem148) (by kernel_rfl) (by kernel_rfl) (by kernel_rfl) H (fun b w' H1 => hK _ _ ?_))); clear hK K; replace H := H1; clear H1)); (try clear hc); (try simp only [nrm, splice, Value.cells, Nat.reduceAdd, Act.eval, Act.put] at H); have hc := H.cells; simp only [CellsOf, KnCells, knc, Nat.reduceAdd] at hc))) | go_values | go_skip | go_guarded | go_step | go_upon | go_back | dsimp only)
  go_at_call 77
  refine Calls.mono (takeB_calls k hk _ _ _ l rest hl hn hc' _ (H.pick (by repeat (first | exact Picks.nil _ | (apply Picks.wr; focus (repeat (first | exact Split.here _ _ | apply Split.there))) | (apply Picks.rd; focus (repeat (first | exact Split.here _ _ | apply Split.there))))))) ?_
  rintro e w' ⟨s1, n1, c1, key, m, cap, hT1, hn1, hc1, hm, rfl, H'⟩
  replace H := (H.merge (by first | exact Strikes.nil _ | (repeat (first | exact Strikes.nil _ | (apply Strikes.cons; focus (repeat (first | exact Split.here _ _ | apply Split.there)))))) H' rfl).tail (by repeat (first | exact Split.here _ _ | apply Split.there)) hT1.out.2.2
  clear H'
  have hc := H.cells; simp only [CellsOf, KnCells, knc, Nat.reduceAdd] at hc
  repeat' (first | (go_big_may; (first
    | ((first
        | (refine loud_ rfl ?_; refine wpList_plain rfl (fun K hK => ?_); (first | (refine op_box _ _ rfl H (fun b w' H1 => hK _ _ ?_)) | (refine op_alloc _ rfl (zero_of _ _ rfl) H (fun b w' H1 => hK _ _ ?_)) | (refine op_store _ _ _ rfl rfl rfl H (by repeat (first | exact Split.here _ _ | apply Split.there)) (by kernel_rfl) (by kernel_rfl) (by kernel_rfl) (fun w' H1 => hK _ _ ?_)) | (refine op_buildSlice_all _ _ _ rfl (by first | exact elem23 | exact elem34 | exact elem51 | exact elem148) (by kernel_rfl) (by kernel_rfl) (by kernel_rfl) H (fun b w' H1 => hK _ _ ?_))); clear hK K; replace H := H1; clear H1)); (try clear hc); (try simp only [nrm, splice, Value.cells, Nat.reduceAdd, Act.eval, Act.put] at H); have hc := H.cells; simp only [CellsOf, KnCells, knc, Nat.reduceAdd] at hc))) | go_values | go_skip | go_guarded | go_step | go_upon | go_back | dsimp only)
  exact bodyPost_ret (v := .tuple #[fldB k key m cap, .slice s1 n1 c1, .bool true]) (by simp [results, Try.results75, go_sem, hc, Act.put]; try rfl) rfl ⟨_, _, _, key, m, cap, ⟨hT1.out.1, hT1.out.2.1, H.lies (Split.here _ _), hT1.out.2.2.2⟩, hn1, hc1, hm, rfl, H.sel (by repeat (first | exact Sel.nil _ | (apply Sel.cons; focus (repeat (first | exact Split.here _ _ | apply Split.there)))))⟩
theorem TakeV1 (src : Option Addr) (n c : Nat) (v : Nat) (rest : List UInt8) (hl : Hid ((vfield 8 v ++ rest).length = n)) (hn : n ≤ 1000000000) (hc' : n ≤ c) (hv : Hid (v < 18446744073709551616)) (w : World) (H : St [] w w [(false, soft src (by8 (vfield 8 v ++ rest)))]) :
    Calls Try.prog 75 #[.slice src n c] w fun e w' => ∃ src' n' c', Hid (n' = rest.length ∧ Tail w' src (by8 (vfield 8 v ++ rest)) src' (by8 rest)) ∧ n' < n ∧ n' ≤ c' ∧ e = .returned (.tuple #[.agg #[.int .i64 1, .bool false, .int .i64 (wrap64 v), .slice none 0 0], .slice src' n' c', .bool true]) ∧ Ext [] w w' := TakeV_calls 1 (by decide) src n c v rest hl hn hc' hv w H
theorem TakeV2 (src : Option Addr) (n c : Nat) (v : Nat) (rest : List UInt8) (hl : Hid ((vfield 16 v ++ rest).length = n)) (hn : n ≤ 1000000000) (hc' : n ≤ c) (hv : Hid (v < 18446744073709551616)) (w : World) (H : St [] w w [(false, soft src (by8 (vfield 16 v ++ rest)))]) :
    Calls Try.prog 75 #[.slice src n c] w fun e w' => ∃ src' n' c', Hid (n' = rest.length ∧ Tail w' src (by8 (vfield 16 v ++ rest)) src' (by8 rest)) ∧ n' < n ∧ n' ≤ c' ∧ e = .returned (.tuple #[.agg #[.int .i64 2, .bool false, .int .i64 (wrap64 v), .slice none 0 0], .slice src' n' c', .bool true]) ∧ Ext [] w w' := TakeV_calls 2 (by decide) src n c v rest hl hn hc' hv w H
theorem TakeV3 (src : Option Addr) (n c : Nat) (v : Nat) (rest : List UInt8) (hl : Hid ((vfield 24 v ++ rest).length = n)) (hn : n ≤ 1000000000) (hc' : n ≤ c) (hv : Hid (v < 18446744073709551616)) (w : World) (H : St [] w w [(false, soft src (by8 (vfield 24 v ++ rest)))]) :
    Calls Try.prog 75 #[.slice src n c] w fun e w' => ∃ src' n' c', Hid (n' = rest.length ∧ Tail w' src (by8 (vfield 24 v ++ rest)) src' (by8 rest)) ∧ n' < n ∧ n' ≤ c' ∧ e = .returned (.tuple #[.agg #[.int .i64 3, .bool false, .int .i64 (wrap64 v), .slice none 0 0], .slice src' n' c', .bool true]) ∧ Ext [] w w' := TakeV_calls 3 (by decide) src n c v rest hl hn hc' hv w H
theorem TakeB1 (src : Option Addr) (n c : Nat) (l rest : List UInt8) (hl : Hid ((bfield 1 l ++ rest).length = n)) (hn : n ≤ 1000000000) (hc' : n ≤ c) (w : World) (H : St [] w w [(false, soft src (by8 (bfield 1 l ++ rest)))]) :
    Calls Try.prog 75 #[.slice src n c] w fun e w' => ∃ src' n' c' key m cap, Hid (n' = rest.length ∧ m = l.length ∧ Tail w' src (by8 (bfield 1 l ++ rest)) src' (by8 rest)) ∧ n' < n ∧ n' ≤ c' ∧ m < n ∧ e = .returned (.tuple #[.agg #[.int .i64 1, .bool true, .int .i64 0, sl key m cap], .slice src' n' c', .bool true]) ∧ St [] w w' [(true, .row key 5 1 m cap (by8 l))] := TakeB_calls 1 (by decide) src n c l rest hl hn hc' w H
theorem TakeB2 (src : Option Addr) (n c : Nat) (l rest : List UInt8) (hl : Hid ((bfield 2 l ++ rest).length = n)) (hn : n ≤ 1000000000) (hc' : n ≤ c) (w : World) (H : St [] w w [(false, soft src (by8 (bfield 2 l ++ rest)))]) :
    Calls Try.prog 75 #[.slice src n c] w fun e w' => ∃ src' n' c' key m cap, Hid (n' = rest.length ∧ m = l.length ∧ Tail w' src (by8 (bfield 2 l ++ rest)) src' (by8 rest)) ∧ n' < n ∧ n' ≤ c' ∧ m < n ∧ e = .returned (.tuple #[.agg #[.int .i64 2, .bool true, .int .i64 0, sl key m cap], .slice src' n' c', .bool true]) ∧ St [] w w' [(true, .row key 5 1 m cap (by8 l))] := TakeB_calls 2 (by decide) src n c l rest hl hn hc' w H
end Go.Proofs.Ytfnapcgbjdkpaaa
