import Derived.Test.YtfnapcgbjdkpaaaSnpH
-- MORE
-- SUB2
namespace Go.Proofs.Ytfnapcgbjdkpaaa
set_option linter.unusedVariables false
set_option linter.unusedSimpArgs false
set_option linter.unnecessarySimpa false
open Go Go.RowKit Go.V Go.Lib

theorem wrapBack {v : Nat} (h : v < 18446744073709551616) : IntKind.u64.wrap (wrap64 (v : Int)) = v := by rw [IntKind.wrap_u64, wrap64]; omega
theorem confB_cons (v : Nat) (vs : List Nat) : confB (v :: vs) = vfield 8 v ++ confB vs := rfl
def AtCT (S : List Nat) (w : World) (bc : Nat) (vs : List Nat) (b : Value) (wr : World) : Prop := ∃ (src : Option Addr) (n c q : Nat) (key : Option Nat) (cap : Nat), b = .slice src n c ∧ n ≤ c ∧ n ≤ 1000000000 ∧ q ≤ vs.length ∧ Hid ((confB (vs.drop q)).length = n) ∧
  St S w wr [(true, .is bc (.cells #[sl key q cap] 74 (0, 0))), (true, .row key 22 1 q cap (u64s (vs.take q))), (false, soft src (by8 (confB (vs.drop q))))]
set_option maxHeartbeats 400000 in
set_option maxRecDepth 8000 in
theorem confTake_calls (S : List Nat) (bc : Nat) (src : Option Addr) (n c : Nat) (vs : List Nat) (hv : Hid (∀ v ∈ vs, v < 18446744073709551616)) (hvn : vs.length ≤ 1000000) (hl : Hid ((confB vs).length = n)) (hn : n ≤ 1000000000) (hc' : n ≤ c) (w : World) (H : St S w w [(true, .is bc (.cells #[.slice none 0 0] 74 (0, 0))), (false, soft src (by8 (confB vs)))]) :
    Calls Try.prog 76 #[.pointer (some ⟨bc, 0, none⟩), .slice src n c] w fun e w' => ∃ key m cap, Hid (m = vs.length) ∧ e = .returned (.bool true) ∧
      St S w w' [(true, .is bc (confObj (key.map fun b => ⟨b, 0, none⟩) m cap)), (true, .row key 22 1 m cap (u64s vs))] := by
  go_enter Try.func76, Try.ntmps76
  repeat' (first | (go_big_may; (first
    | ((first
        | (refine loud_ rfl ?_; refine wpList_plain rfl (fun K hK => ?_); (first | (refine op_box _ _ rfl H (fun b w' H1 => hK _ _ ?_)) | (refine op_alloc _ rfl (zero_of _ _ rfl) H (fun b w' H1 => hK _ _ ?_)) | (refine op_store _ _ _ rfl rfl rfl H (by repeat (first | exact Split.here _ _ | apply Split.there)) (by kernel_rfl) (by kernel_rfl) (by kernel_rfl) (fun w' H1 => hK _ _ ?_)) | (refine op_buildSlice_all _ _ _ rfl (by first | exact elem23 | exact elem34 | exact elem51 | exact elem148) (by kernel_rfl) (by kernel_rfl) (by kernel_rfl) H (fun b w' H1 => hK _ _ ?_))); clear hK K; replace H := H1; clear H1)); (try clear hc); (try simp only [nrm, splice, Value.cells, Nat.reduceAdd, Act.eval, Act.put] at H); have hc := H.cells; simp only [CellsOf, KnCells, knc, Nat.reduceAdd] at hc))) | go_values | go_skip | go_guarded | go_step | go_upon | go_back | dsimp only)
  go_loopw [1] (AtCT S w bc vs) (fun b _ => lenV b)
  case atStart => exact ⟨src, n, c, 0, none, 0, rfl, hc', hn, Nat.zero_le _, hl, (H.nilRow _ _).sel (by repeat (first | exact Sel.nil _ | (apply Sel.cons; focus (repeat (first | exact Split.here _ _ | apply Split.there)))))⟩
  case round =>
    clear H hl
    obtain ⟨src, n, c, q, key, cap, rfl, hc', hn, hq, hl, H⟩ := hrel
    by_cases hlt : q < vs.length
    · have hd : vs.drop q = vs[q] :: vs.drop (q + 1) := List.drop_eq_getElem_cons hlt
      have ht : Hid (u64s (vs.take (q + 1)) = u64s (vs.take q) ++ [.int .u64 vs[q]]) := by
        show _ = _
        rw [u64s, ← List.take_append_getElem hlt, List.map_append]
        rfl
      have hv64 := Lib.hid (hv.out _ (List.getElem_mem hlt))
      rw [hd, confB_cons] at hl H
      clear hd
      have hwb := wrapBack hv64.out
      generalize vs[q] = v at *
      have hpos : 0 < n := by have := hl.out; have := vf_len 8 v; rw [List.length_append] at *; omega
      repeat' (first | (go_big_may; (first
    | ((first
        | (refine loud_ rfl ?_; refine wpList_plain rfl (fun K hK => ?_); (first | (refine op_box _ _ rfl H (fun b w' H1 => hK _ _ ?_)) | (refine op_alloc _ rfl (zero_of _ _ rfl) H (fun b w' H1 => hK _ _ ?_)) | (refine op_store _ _ _ rfl rfl rfl H (by repeat (first | exact Split.here _ _ | apply Split.there)) (by kernel_rfl) (by kernel_rfl) (by kernel_rfl) (fun w' H1 => hK _ _ ?_)) | (refine op_buildSlice_all _ _ _ rfl (by first | exact elem23 | exact elem34 | exact elem51 | exact elem148) (by kernel_rfl) (by kernel_rfl) (by kernel_rfl) H (fun b w' H1 => hK _ _ ?_))); clear hK K; replace H := H1; clear H1)); (try clear hc); (try simp only [nrm, splice, Value.cells, Nat.reduceAdd, Act.eval, Act.put] at H); have hc := H.cells; simp only [CellsOf, KnCells, knc, Nat.reduceAdd] at hc))) | go_values | go_skip | go_guarded | go_step | go_upon | go_back | dsimp only)
      go_at_call 75
      refine Calls.mono (TakeV1 _ _ _ v (confB (vs.drop (q + 1))) hl hn hc' hv64 _ (H.pick (by repeat (first | exact Picks.nil _ | (apply Picks.wr; focus (repeat (first | exact Split.here _ _ | apply Split.there))) | (apply Picks.rd; focus (repeat (first | exact Split.here _ _ | apply Split.there))))))) ?_
      rintro e w' ⟨s1, n1, c1, hT1, hn1, hc1, rfl, H'⟩
      replace H := (H.of_ext H').tail (by repeat (first | exact Split.here _ _ | apply Split.there)) hT1.out.2
      clear H'
      have hc := H.cells; simp only [CellsOf, KnCells, knc, Nat.reduceAdd] at hc
      go_upto_region 7 with (first
    | ((first
        | (refine loud_ rfl ?_; refine wpList_plain rfl (fun K hK => ?_); (first | (refine op_box _ _ rfl H (fun b w' H1 => hK _ _ ?_)) | (refine op_alloc _ rfl (zero_of _ _ rfl) H (fun b w' H1 => hK _ _ ?_)) | (refine op_store _ _ _ rfl rfl rfl H (by repeat (first | exact Split.here _ _ | apply Split.there)) (by kernel_rfl) (by kernel_rfl) (by kernel_rfl) (fun w' H1 => hK _ _ ?_)) | (refine op_buildSlice_all _ _ _ rfl (by first | exact elem23 | exact elem34 | exact elem51 | exact elem148) (by kernel_rfl) (by kernel_rfl) (by kernel_rfl) H (fun b w' H1 => hK _ _ ?_))); clear hK K; replace H := H1; clear H1)); (try clear hc); (try simp only [nrm, splice, Value.cells, Nat.reduceAdd, Act.eval, Act.put] at H); have hc := H.cells; simp only [CellsOf, KnCells, knc, Nat.reduceAdd] at hc))
      (try simp only [Act.put, slt])
      refine wp_region_plan (.p [0, 1, 2, 3] (.q [4] (.p [5] (.q [6] (.p [7] (.e 8 (.e 9 (.p [10, 11] (.e 12 .done))))))))) [9, 12] (by kernel_rfl) (by kernel_rfl) (fun _ _ d _ _ h => by cases d <;> exact h) H ?_
      clear H
      (try clear hc)
      intro X nX fX wd hcf hS H
      simp only [CellsOf, KnCells, knc, Nat.reduceAdd] at hcf
      have hc := H.cells
      simp only [CellsOf, KnCells, knc, Nat.reduceAdd] at hc
      iterate 4 (refine plan_p (o := ⟨_, _, _, _, _, _⟩) rfl (fun N hN => ?_); go_big_quiet_step (fail); refine wpQuiet_nil (hN _ ?_); clear hN N)
      refine plan_p0 ?_
      iterate 1 (refine plan_q (o := ⟨_, _, _, _, _, _⟩) rfl (fun N hN => ?_); go_big_quiet_step (fail); refine wpQuiet_nil (hN _ ?_); clear hN N)
      refine plan_q0 ?_
      iterate 1 (refine plan_p (o := ⟨_, _, _, _, _, _⟩) rfl (fun N hN => ?_); go_big_quiet_step (fail); refine wpQuiet_nil (hN _ ?_); clear hN N)
      refine plan_p0 ?_
      iterate 1 (refine plan_q (o := ⟨_, _, _, _, _, _⟩) rfl (fun N hN => ?_); go_big_quiet_step (fail); refine wpQuiet_nil (hN _ ?_); clear hN N)
      refine plan_q0 ?_
      iterate 1 (refine plan_p (o := ⟨_, _, _, _, _, _⟩) rfl (fun N hN => ?_); go_big_quiet_step (fail); refine wpQuiet_nil (hN _ ?_); clear hN N)
      refine plan_p0 ?_
      refine plan_e (o := ⟨_, _, _, _, _, _⟩) rfl rfl (fun K hK => ?_)
      (first | (refine op_append_lit _ _ _ rfl elem23 rfl rfl H (by repeat (first | exact Split.here _ _ | apply Split.there)) (by repeat (first | exact Split.here _ _ | apply Split.there)) (by kernel_rfl) (by kernel_rfl) (by omega) (by unfold maxLen; omega) (fun key1 cap1 w' H1 => ?_); replace H := H1; clear H1) | (refine op_box _ _ rfl H (fun b w' H1 => ?_); replace H := H1; clear H1) | (refine op_alloc _ rfl (zero_of _ _ rfl) H (fun b w' H1 => ?_); replace H := H1; clear H1) | (refine op_store _ _ _ rfl rfl rfl H (by repeat (first | exact Split.here _ _ | apply Split.there)) (by kernel_rfl) (by kernel_rfl) (by kernel_rfl) (fun w' H1 => ?_); replace H := H1; clear H1) | (refine op_buildSlice_all _ _ _ rfl (by first | exact elem23 | exact elem34 | exact elem51 | exact elem148) (by kernel_rfl) (by kernel_rfl) (by kernel_rfl) H (fun b w' H1 => ?_); replace H := H1; clear H1)); (try clear hc); (try simp only [nrm, splice, Value.cells, Nat.reduceAdd, Act.eval, Act.put] at H); have hc := H.cells; simp only [CellsOf, KnCells, knc, Nat.reduceAdd] at hc; refine hK _ _ (fun _ _ => hS _ (H.sublist (by repeat (first | exact List.Sublist.refl _ | exact List.nil_sublist _ | apply List.Sublist.cons_cons | apply List.Sublist.cons))).all) ?_; clear hK K; (try simp only [Act.put, slt])
      refine plan_e (o := ⟨_, _, _, _, _, _⟩) rfl rfl (fun K hK => ?_)
      (first | (refine op_append_lit _ _ _ rfl elem23 rfl rfl H (by repeat (first | exact Split.here _ _ | apply Split.there)) (by repeat (first | exact Split.here _ _ | apply Split.there)) (by kernel_rfl) (by kernel_rfl) (by omega) (by unfold maxLen; omega) (fun key1 cap1 w' H1 => ?_); replace H := H1; clear H1) | (refine op_box _ _ rfl H (fun b w' H1 => ?_); replace H := H1; clear H1) | (refine op_alloc _ rfl (zero_of _ _ rfl) H (fun b w' H1 => ?_); replace H := H1; clear H1) | (refine op_store _ _ _ rfl rfl rfl H (by repeat (first | exact Split.here _ _ | apply Split.there)) (by kernel_rfl) (by kernel_rfl) (by kernel_rfl) (fun w' H1 => ?_); replace H := H1; clear H1) | (refine op_buildSlice_all _ _ _ rfl (by first | exact elem23 | exact elem34 | exact elem51 | exact elem148) (by kernel_rfl) (by kernel_rfl) (by kernel_rfl) H (fun b w' H1 => ?_); replace H := H1; clear H1)); (try clear hc); (try simp only [nrm, splice, Value.cells, Nat.reduceAdd, Act.eval, Act.put] at H); have hc := H.cells; simp only [CellsOf, KnCells, knc, Nat.reduceAdd] at hc; refine hK _ _ (fun h => (h (by decide)).elim) ?_; clear hK K; (try simp only [Act.put, slt])
      iterate 2 (refine plan_p (o := ⟨_, _, _, _, _, _⟩) rfl (fun N hN => ?_); go_big_quiet_step (fail); refine wpQuiet_nil (hN _ ?_); clear hN N)
      refine plan_p0 ?_
      refine plan_e (o := ⟨_, _, _, _, _, _⟩) rfl rfl (fun K hK => ?_)
      (first | (refine op_append_lit _ _ _ rfl elem23 rfl rfl H (by repeat (first | exact Split.here _ _ | apply Split.there)) (by repeat (first | exact Split.here _ _ | apply Split.there)) (by kernel_rfl) (by kernel_rfl) (by omega) (by unfold maxLen; omega) (fun key1 cap1 w' H1 => ?_); replace H := H1; clear H1) | (refine op_box _ _ rfl H (fun b w' H1 => ?_); replace H := H1; clear H1) | (refine op_alloc _ rfl (zero_of _ _ rfl) H (fun b w' H1 => ?_); replace H := H1; clear H1) | (refine op_store _ _ _ rfl rfl rfl H (by repeat (first | exact Split.here _ _ | apply Split.there)) (by kernel_rfl) (by kernel_rfl) (by kernel_rfl) (fun w' H1 => ?_); replace H := H1; clear H1) | (refine op_buildSlice_all _ _ _ rfl (by first | exact elem23 | exact elem34 | exact elem51 | exact elem148) (by kernel_rfl) (by kernel_rfl) (by kernel_rfl) H (fun b w' H1 => ?_); replace H := H1; clear H1)); (try clear hc); (try simp only [nrm, splice, Value.cells, Nat.reduceAdd, Act.eval, Act.put] at H); have hc := H.cells; simp only [CellsOf, KnCells, knc, Nat.reduceAdd] at hc; refine hK _ _ (fun h => (h (by decide)).elim) ?_; clear hK K; (try simp only [Act.put, slt])
      refine plan_done ?_
      (try simp only [Act.put])
      repeat' (first | (go_big_may; (first
    | ((first
        | (refine loud_ rfl ?_; refine wpList_plain rfl (fun K hK => ?_); (first | (refine op_box _ _ rfl H (fun b w' H1 => hK _ _ ?_)) | (refine op_alloc _ rfl (zero_of _ _ rfl) H (fun b w' H1 => hK _ _ ?_)) | (refine op_store _ _ _ rfl rfl rfl H (by repeat (first | exact Split.here _ _ | apply Split.there)) (by kernel_rfl) (by kernel_rfl) (by kernel_rfl) (fun w' H1 => hK _ _ ?_)) | (refine op_buildSlice_all _ _ _ rfl (by first | exact elem23 | exact elem34 | exact elem51 | exact elem148) (by kernel_rfl) (by kernel_rfl) (by kernel_rfl) H (fun b w' H1 => hK _ _ ?_))); clear hK K; replace H := H1; clear H1)); (try clear hc); (try simp only [nrm, splice, Value.cells, Nat.reduceAdd, Act.eval, Act.put] at H); have hc := H.cells; simp only [CellsOf, KnCells, knc, Nat.reduceAdd] at hc))) | go_values | go_skip | go_guarded | go_step | go_upon | go_back | dsimp only)
      exact ⟨⟨s1, n1, c1, q + 1, key1, cap1, rfl, hc1, by omega, hlt, hT1.out.1.symm, by rw [ht.out]; exact H.sel (by repeat (first | exact Sel.nil _ | (apply Sel.cons; focus (repeat (first | exact Split.here _ _ | apply Split.there)))))⟩, hn1⟩
    · obtain rfl : q = vs.length := by omega
      rw [List.drop_length] at hl H
      rw [List.take_length] at H
      obtain rfl : n = 0 := hl.out.symm
      have hc := H.cells; simp only [CellsOf, KnCells, knc, Nat.reduceAdd] at hc
      repeat' (first | (go_big_may; (first
    | ((first
        | (refine loud_ rfl ?_; refine wpList_plain rfl (fun K hK => ?_); (first | (refine op_box _ _ rfl H (fun b w' H1 => hK _ _ ?_)) | (refine op_alloc _ rfl (zero_of _ _ rfl) H (fun b w' H1 => hK _ _ ?_)) | (refine op_store _ _ _ rfl rfl rfl H (by repeat (first | exact Split.here _ _ | apply Split.there)) (by kernel_rfl) (by kernel_rfl) (by kernel_rfl) (fun w' H1 => hK _ _ ?_)) | (refine op_buildSlice_all _ _ _ rfl (by first | exact elem23 | exact elem34 | exact elem51 | exact elem148) (by kernel_rfl) (by kernel_rfl) (by kernel_rfl) H (fun b w' H1 => hK _ _ ?_))); clear hK K; replace H := H1; clear H1)); (try clear hc); (try simp only [nrm, splice, Value.cells, Nat.reduceAdd, Act.eval, Act.put] at H); have hc := H.cells; simp only [CellsOf, KnCells, knc, Nat.reduceAdd] at hc))) | go_values | go_skip | go_guarded | go_step | go_upon | go_back | dsimp only)
      go_ret
      exact ⟨key, _, cap, rfl, rfl, H.sel (by repeat (first | exact Sel.nil _ | (apply Sel.cons; focus (repeat (first | exact Split.here _ _ | apply Split.there)))))⟩

theorem TakeB2e (src : Option Addr) (n c : Nat) (l : List UInt8) (hl : Hid ((bfield 2 l).length = n)) (hn : n ≤ 1000000000) (hc' : n ≤ c) (w : World) (H : St [] w w [(false, soft src (by8 (bfield 2 l)))]) :
    Calls Try.prog 75 #[.slice src n c] w fun e w' => ∃ src' n' c' key m cap, Hid (n' = 0 ∧ m = l.length) ∧ n' < n ∧ n' ≤ c' ∧ m < n ∧ e = .returned (.tuple #[.agg #[.int .i64 2, .bool true, .int .i64 0, sl key m cap], .slice src' n' c', .bool true]) ∧ St [] w w' [(true, .row key 5 1 m cap (by8 l))] := by
  refine (TakeB2 src n c l [] (by rw [List.append_nil]; exact hl) hn hc' w (by rw [List.append_nil]; exact H)).mono ?_
  rintro e w' ⟨s1, n1, c1, key, m, cap, h1, h2, h3, h4, rfl, h5⟩
  exact ⟨s1, n1, c1, key, m, cap, ⟨h1.out.1, h1.out.2.1⟩, h2, h3, h4, rfl, h5⟩
theorem TakeV3e (src : Option Addr) (n c : Nat) (v : Nat) (hl : Hid ((vfield 24 v).length = n)) (hn : n ≤ 1000000000) (hc' : n ≤ c) (hv : Hid (v < 18446744073709551616)) (w : World) (H : St [] w w [(false, soft src (by8 (vfield 24 v)))]) :
    Calls Try.prog 75 #[.slice src n c] w fun e w' => ∃ src' n' c', Hid (n' = 0) ∧ n' < n ∧ n' ≤ c' ∧ e = .returned (.tuple #[.agg #[.int .i64 3, .bool false, .int .i64 (wrap64 v), .slice none 0 0], .slice src' n' c', .bool true]) ∧ Ext [] w w' := by
  refine (TakeV3 src n c v [] (by rw [List.append_nil]; exact hl) hn hc' hv w (by rw [List.append_nil]; exact H)).mono ?_
  rintro e w' ⟨s1, n1, c1, h1, h2, h3, rfl, h5⟩
  exact ⟨s1, n1, c1, h1.out.1, h2, h3, rfl, h5⟩
theorem metaB_eq (vs : List Nat) (i t : Nat) : metaB vs i t = bfield 1 (confB vs) ++ (vfield 16 i ++ vfield 24 t) := rfl
theorem snapB_eq (d : List UInt8) (vs : List Nat) (i t : Nat) : snapB d vs i t = bfield 1 d ++ bfield 2 (metaB vs i t) := rfl
/-- What is read of a snapshot: its data, and what it is of. -/
def AtMeta (S : List Nat) (w : World) (bs : Nat) (sd : Value) (bm bc : Nat) (vs : List Nat) (i t : Nat) (Ls : List Ent) (b : Value) (wr : World) : Prop := ∃ (src : Option Addr) (n c : Nat) (rest : List UInt8) (q : Nat), b = .slice src n c ∧ n ≤ c ∧ n ≤ 1000000000 ∧ q ≤ 3 ∧ Hid (rest.length = n) ∧
  ((q = 0 ∧ rest = bfield 1 (confB vs) ++ (vfield 16 i ++ vfield 24 t) ∧ St S w wr ((true, .is bs (.cells #[sd, .pointer (some ⟨bm, 0, none⟩)] 69 (0, 0))) :: (true, .is bm (metaObj bc 0 0)) :: (true, .is bc (.cells #[.slice none 0 0] 74 (0, 0))) :: (false, soft src (by8 rest)) :: Ls)) ∨
   (∃ key m cap, Hid (m = vs.length) ∧
    ((q = 1 ∧ rest = vfield 16 i ++ vfield 24 t ∧ St S w wr ((true, .is bs (.cells #[sd, .pointer (some ⟨bm, 0, none⟩)] 69 (0, 0))) :: (true, .is bm (metaObj bc 0 0)) :: (true, .is bc (confObj (key.map fun b => ⟨b, 0, none⟩) m cap)) :: (true, .row key 22 1 m cap (u64s vs)) :: (false, soft src (by8 rest)) :: Ls)) ∨
     (q = 2 ∧ rest = vfield 24 t ∧ St S w wr ((true, .is bs (.cells #[sd, .pointer (some ⟨bm, 0, none⟩)] 69 (0, 0))) :: (true, .is bm (metaObj bc i 0)) :: (true, .is bc (confObj (key.map fun b => ⟨b, 0, none⟩) m cap)) :: (true, .row key 22 1 m cap (u64s vs)) :: (false, soft src (by8 rest)) :: Ls)) ∨
     (q = 3 ∧ rest = [] ∧ St S w wr ((true, .is bs (.cells #[sd, .pointer (some ⟨bm, 0, none⟩)] 69 (0, 0))) :: (true, .is bm (metaObj bc i t)) :: (true, .is bc (confObj (key.map fun b => ⟨b, 0, none⟩) m cap)) :: (true, .row key 22 1 m cap (u64s vs)) :: Ls)))))
end Go.Proofs.Ytfnapcgbjdkpaaa
