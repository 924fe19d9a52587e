import Derived.Test.YtelddhcggmfloaaCkE
-- MORE
-- SUB2
namespace Go.Proofs.Ytelddhcggmfloaa
set_option linter.unusedVariables false
set_option linter.unusedSimpArgs false
set_option linter.unnecessarySimpa false
open Go Go.RowKit Go.V

/-! The periodic check, where both own hashes are one. -/
abbrev alO (al : Option Int) : Obj := .cells #[.bool al.isSome] 4 (0, 0)
def alN (al : Option Int) : Nat := al.toList.length
def alXs (al : Option Int) : List Value := al.toList.map (fun k => .int .u64 k)
abbrev ckV (cb : Nat) : Obj := .cells #[pt cb] 80 (0, 0)
set_option maxRecDepth 8000 in
set_option maxHeartbeats 1000000 in
theorem mism_calls (al : Option Int) (id : Int) (b9 b1 cb hb : Nat) (last : Int) (f s : KH) (rev2 asked own : Int) (pv hv rv : Value) (key : Option Nat) (cap : Nat) (S : List Nat) (w : World)
    (H : St S w w [(true, .is b9 (alO al)), (false, .is b1 (ckV cb)), (false, .is cb (chkO hb last)), (true, .is hb (hasO f s rev2 asked own pv hv (sl key (alN al) cap) rv)), (true, .row key 27 1 (alN al) cap (alXs al))]) :
    Calls Try.prog 41 #[.int .u64 id, pt b9, pt b1] w fun e w' => ∃ key' cap', e = .returned (.tuple #[]) ∧
      St S w w' [(true, .is b9 (alO (some (al.getD id)))), (true, .is hb (hasO f s rev2 asked own pv hv (sl key' (alN (some (al.getD id))) cap') rv)), (true, .row key' 27 1 (alN (some (al.getD id))) cap' (alXs (some (al.getD id))))] := by
  have h1 := me_trig hb
  have h2 := na_trig hb
  cases al with
  | none =>
    replace H : St S w w [(true, .is b9 (.cells #[.bool false] 4 (0, 0))), (false, .is b1 (ckV cb)), (false, .is cb (chkO hb last)), (true, .is hb (hasO f s rev2 asked own pv hv (sl key 0 cap) rv)), (true, .row key 27 1 0 cap [])] := H
    have hc := H.cells; simp only [CellsOf, KnCells, knc, Nat.reduceAdd] at hc
    go_enter Try.func41, Try.ntmps41
    repeat' (first | (go_big_may; (first
    | go_skip
    | ((first
        | (go_at_call 96; refine Calls.mono (trig_calls hb f s rev2 asked own _ _ _ _ key 0 cap (by omega) [] _ _ (H.pick (by repeat (first | exact Picks.nil _ | (apply Picks.wr; focus (repeat (first | exact Split.here _ _ | apply Split.there))) | (apply Picks.rd; focus (repeat (first | exact Split.here _ _ | apply Split.there))))))) ?_; rintro e w' ⟨key2, cap2, rfl, H'⟩; replace H := H.merge (by first | exact Strikes.nil _ | (repeat (first | exact Strikes.nil _ | (apply Strikes.cons; focus (repeat (first | exact Split.here _ _ | apply Split.there)))))) H' rfl; clear H')
        | (refine loud_ rfl ?_; refine wpList_plain rfl (fun K hK => ?_); (first | (refine op_box _ _ rfl H (fun b w' H1 => hK _ _ ?_)) | (refine op_alloc _ rfl (zero_of _ _ rfl) H (fun b w' H1 => hK _ _ ?_)) | (refine op_store _ _ _ rfl rfl rfl H (by repeat (first | exact Split.here _ _ | apply Split.there)) (by kernel_rfl) (by kernel_rfl) (by kernel_rfl) (fun w' H1 => hK _ _ ?_)) | (refine op_buildSlice_all _ _ _ rfl (by first | exact elem25 | exact elem32 | exact elem35 | exact elem36 | exact elem37 | exact elem38 | exact elem41 | exact elem42 | exact elem45 | exact elem57 | exact elem62 | exact elem74 | exact elem98 | exact elem100 | exact elem137 | exact elem178 | exact elem179) (by kernel_rfl) (by kernel_rfl) (by kernel_rfl) H (fun b w' H1 => hK _ _ ?_))); clear hK K; replace H := H1; clear H1)); (try clear hc); (try simp only [nrm, splice, Value.cells, Nat.reduceAdd, Act.eval, Act.put] at H); have hc := H.cells; simp only [CellsOf, KnCells, knc, Nat.reduceAdd] at hc))) | go_values | go_skip | go_guarded | go_step | go_upon | go_back | dsimp only)
    go_end0
    exact ⟨key2, cap2, rfl, H.sel (by repeat (first | exact Sel.nil _ | (apply Sel.cons; focus (repeat (first | exact Split.here _ _ | apply Split.there)))))⟩
  | some k =>
    replace H : St S w w [(true, .is b9 (.cells #[.bool true] 4 (0, 0))), (false, .is b1 (ckV cb)), (false, .is cb (chkO hb last)), (true, .is hb (hasO f s rev2 asked own pv hv (sl key 1 cap) rv)), (true, .row key 27 1 1 cap [.int .u64 k])] := H
    have hc := H.cells; simp only [CellsOf, KnCells, knc, Nat.reduceAdd] at hc
    go_enter Try.func41, Try.ntmps41
    repeat' (first | (go_big_may; (first
    | ((first
        | (refine loud_ rfl ?_; refine wpList_plain rfl (fun K hK => ?_); (first | (refine op_box _ _ rfl H (fun b w' H1 => hK _ _ ?_)) | (refine op_alloc _ rfl (zero_of _ _ rfl) H (fun b w' H1 => hK _ _ ?_)) | (refine op_store _ _ _ rfl rfl rfl H (by repeat (first | exact Split.here _ _ | apply Split.there)) (by kernel_rfl) (by kernel_rfl) (by kernel_rfl) (fun w' H1 => hK _ _ ?_)) | (refine op_buildSlice_all _ _ _ rfl (by first | exact elem25 | exact elem32 | exact elem35 | exact elem36 | exact elem37 | exact elem38 | exact elem41 | exact elem42 | exact elem45 | exact elem57 | exact elem62 | exact elem74 | exact elem98 | exact elem100 | exact elem137 | exact elem178 | exact elem179) (by kernel_rfl) (by kernel_rfl) (by kernel_rfl) H (fun b w' H1 => hK _ _ ?_))); clear hK K; replace H := H1; clear H1)); (try clear hc); (try simp only [nrm, splice, Value.cells, Nat.reduceAdd, Act.eval, Act.put] at H); have hc := H.cells; simp only [CellsOf, KnCells, knc, Nat.reduceAdd] at hc))) | go_values | go_skip | go_guarded | go_step | go_upon | go_back | dsimp only)
    (try simp only [Exit.inBlock, Exit.then])
    refine bodyPost_ret_by (results_none rfl _ _ _) rfl ?_
    exact ⟨key, cap, rfl, H.sel (by repeat (first | exact Sel.nil _ | (apply Sel.cons; focus (repeat (first | exact Split.here _ _ | apply Split.there)))))⟩
def perBad (h : KH) (rev2 : Int) (p : Pr) : Bool := p.has && (decide (rev2 < p.rev) || decide (h.compact < p.compact) || (decide (p.compact = h.compact) && decide (p.hash ≠ h.hash)))
def perStep (h : KH) (rev2 : Int) (al : Option Int) (p : Pr) : Option Int := if perBad h rev2 p then some (al.getD p.id) else al
def perAl (h : KH) (rev2 : Int) (ps : List Pr) : Option Int := ps.foldl (perStep h rev2) none
def AtPer (n : Nat) (hb cb b3 b7 b9 b1 : Nat) (last : Int) (h : KH) (rev2 own : Int) (pv hv rv : Value) (ps : List Pr) (bs fp : List Nat) (src : Option Addr) (S : List Nat) (w : World) (cv i : Value) (wr : World) : Prop := ∃ (j m : Nat) (al : Option Int) (key : Option Nat) (cap : Nat), j ≤ n ∧ i = .int .i64 j ∧ cv = .int .i64 m ∧ m ≤ j ∧ Hid (al = perAl h rev2 (ps.take j)) ∧
  St S w wr [(true, .is hb (hasO h h rev2 2 own pv hv (sl key (alN al) cap) rv)), (true, .row key 27 1 (alN al) cap (alXs al)), (true, .is b9 (alO al)), (false, .is b1 (ckV cb)), (false, .is cb (chkO hb last)),
    (false, .is b3 (.cells #[.int .u32 h.hash, .int .i64 h.compact, .int .i64 h.rev] 55 (0, 0))), (false, .is b7 (.cells #[.int .u32 h.hash, .int .i64 h.compact, .int .i64 h.rev] 55 (0, 0))), (false, .rep fp (PrsAt bs ps fp)), (false, soft src (bs.map pt))]
abbrev fv41 (b9 b1 : Nat) : Value := .func (.func 41) #[] #[pt b9, pt b1]
theorem make41 (b9 b1 : Nat) (w : World) : (Instr.makeFunc (.func 41) #[] #[pt b9, pt b1]).run Try.prog w = .ok (fv41 b9 b1) w := rfl
set_option maxRecDepth 8000 in
set_option maxHeartbeats 16000000 in
theorem periodic_calls (cb hb : Nat) (last : Int) (h : KH) (rev2 own : Int) (hv : Value) (bx : Nat) (ps : List Pr) (src : Option Addr) (n c : Nat) (hn : Hid (ps.length = n)) (hl : n ≤ 2147483647) (S : List Nat) (w : World)
    (H : St S w w [(true, .is cb (chkO hb last)), (true, .is hb (hasO h h rev2 0 own (fv33 bx) hv (.slice none 0 0) (.slice none 0 0))), (false, .is bx (capO src n c)), (false, soft src (ps.flatMap Pr.pc))]) :
    Calls Try.prog 34 #[pt cb] w fun e w' => ∃ key cap rv, e = .returned .nilIface ∧
      St S w w' [(true, .is hb (hasO h h rev2 2 own (fv33 bx) hv (sl key (alN (perAl h rev2 ps)) cap) rv)), (true, .row key 27 1 (alN (perAl h rev2 ps)) cap (alXs (perAl h rev2 ps)))] := by
  obtain ⟨fh, fc, fr⟩ := h
  replace H := H.nilRow 2 1
  have h1 := me_hash hb
  have h2 := na_hash hb
  have h3 := me_peer hb
  have h4 := na_peer hb
  have h5 := me_lin hb
  have h6 := na_lin hb
  have h7 := fun b9 b1 w => make41 b9 b1 w
  have hc := H.cells; simp only [CellsOf, KnCells, knc, Nat.reduceAdd] at hc
  go_enter Try.func34, Try.ntmps34
  repeat' (first | (go_big_may; (first
    | go_skip
    | ((first
        | (go_at_call 91; refine Calls.mono (hash0_calls hb ⟨fh, fc, fr⟩ ⟨fh, fc, fr⟩ rev2 own _ _ _ _ _ _ _ (H.pick (by repeat (first | exact Picks.nil _ | (apply Picks.wr; focus (repeat (first | exact Split.here _ _ | apply Split.there))) | (apply Picks.rd; focus (repeat (first | exact Split.here _ _ | apply Split.there))))))) ?_; rintro e w' ⟨rfl, H'⟩; replace H := H.merge (by first | exact Strikes.nil _ | (repeat (first | exact Strikes.nil _ | (apply Strikes.cons; focus (repeat (first | exact Split.here _ _ | apply Split.there)))))) H' rfl; clear H')
        | (refine loud_ rfl ?_; refine wpList_plain rfl (fun K hK => ?_); (first | (refine op_box _ _ rfl H (fun b w' H1 => hK _ _ ?_)) | (refine op_alloc _ rfl (zero_of _ _ rfl) H (fun b w' H1 => hK _ _ ?_)) | (refine op_store _ _ _ rfl rfl rfl H (by repeat (first | exact Split.here _ _ | apply Split.there)) (by kernel_rfl) (by kernel_rfl) (by kernel_rfl) (fun w' H1 => hK _ _ ?_)) | (refine op_buildSlice_all _ _ _ rfl (by first | exact elem25 | exact elem32 | exact elem35 | exact elem36 | exact elem37 | exact elem38 | exact elem41 | exact elem42 | exact elem45 | exact elem57 | exact elem62 | exact elem74 | exact elem98 | exact elem100 | exact elem137 | exact elem178 | exact elem179) (by kernel_rfl) (by kernel_rfl) (by kernel_rfl) H (fun b w' H1 => hK _ _ ?_))); clear hK K; replace H := H1; clear H1)); (try clear hc); (try simp only [nrm, splice, Value.cells, Nat.reduceAdd, Act.eval, Act.put] at H); have hc := H.cells; simp only [CellsOf, KnCells, knc, Nat.reduceAdd] at hc))) | go_values | go_skip | go_guarded | go_step | go_upon | go_back | dsimp only)
  (try simp only [Act.put, slt])
  refine wp_region_plan (.q [0] (.p [1, 2] (.q [3] (.p [4] (.q [5] (.e 6 (.p [7] .done))))))) [6] (by kernel_rfl) (by kernel_rfl) (fun _ _ d _ _ h => by cases d <;> exact h) H ?_
  clear H
  (try clear hc)
  intro X nX fX wd hcf hS H
  simp only [CellsOf, KnCells, knc, Nat.reduceAdd] at hcf
  have hc := H.cells
  simp only [CellsOf, KnCells, knc, Nat.reduceAdd] at hc
  iterate 1 (refine plan_q (o := ⟨_, _, _, _, _, _⟩) rfl (fun N hN => ?_); go_big_quiet_step (fail); refine wpQuiet_nil (hN _ ?_); clear hN N)
  refine plan_q0 ?_
  iterate 2 (refine plan_p (o := ⟨_, _, _, _, _, _⟩) rfl (fun N hN => ?_); go_big_quiet_step (fail); refine wpQuiet_nil (hN _ ?_); clear hN N)
  refine plan_p0 ?_
  iterate 1 (refine plan_q (o := ⟨_, _, _, _, _, _⟩) rfl (fun N hN => ?_); go_big_quiet_step (fail); refine wpQuiet_nil (hN _ ?_); clear hN N)
  refine plan_q0 ?_
  iterate 1 (refine plan_p (o := ⟨_, _, _, _, _, _⟩) rfl (fun N hN => ?_); go_big_quiet_step (fail); refine wpQuiet_nil (hN _ ?_); clear hN N)
  refine plan_p0 ?_
  iterate 1 (refine plan_q (o := ⟨_, _, _, _, _, _⟩) rfl (fun N hN => ?_); go_big_quiet_step (fail); refine wpQuiet_nil (hN _ ?_); clear hN N)
  refine plan_q0 ?_
  refine plan_e (o := ⟨_, _, _, _, _, _⟩) rfl rfl (fun K hK => ?_)
  (first | (go_step; refine Calls.mono (peer33_calls hb ⟨fh, fc, fr⟩ ⟨fh, fc, fr⟩ rev2 1 own _ _ none 0 0 (by omega) [] _ bx ps _ n c hn hl _ _ (H.pick (by repeat (first | exact Picks.nil _ | (apply Picks.wr; focus (repeat (first | exact Split.here _ _ | apply Split.there))) | (apply Picks.rd; focus (repeat (first | exact Split.here _ _ | apply Split.there))))))) ?_; rintro e w' ⟨key, cap, bs, fp, rkey, rcap, rfl, H'⟩; replace H := H.merge (by first | exact Strikes.nil _ | (repeat (first | exact Strikes.nil _ | (apply Strikes.cons; focus (repeat (first | exact Split.here _ _ | apply Split.there)))))) H' rfl; clear H') | (refine op_box _ _ rfl H (fun b w' H1 => ?_); replace H := H1; clear H1) | (refine op_alloc _ rfl (zero_of _ _ rfl) H (fun b w' H1 => ?_); replace H := H1; clear H1) | (refine op_store _ _ _ rfl rfl rfl H (by repeat (first | exact Split.here _ _ | apply Split.there)) (by kernel_rfl) (by kernel_rfl) (by kernel_rfl) (fun w' H1 => ?_); replace H := H1; clear H1) | (refine op_buildSlice_all _ _ _ rfl (by first | exact elem25 | exact elem32 | exact elem35 | exact elem36 | exact elem37 | exact elem38 | exact elem41 | exact elem42 | exact elem45 | exact elem57 | exact elem62 | exact elem74 | exact elem98 | exact elem100 | exact elem137 | exact elem178 | exact elem179) (by kernel_rfl) (by kernel_rfl) (by kernel_rfl) H (fun b w' H1 => ?_); replace H := H1; clear H1)); (try clear hc); (try simp only [nrm, splice, Value.cells, Nat.reduceAdd, Act.eval, Act.put] at H); have hc := H.cells; simp only [CellsOf, KnCells, knc, Nat.reduceAdd] at hc; refine hK _ _ (fun h => (h (by decide)).elim) ?_; clear hK K; (try simp only [Act.put, slt])
  iterate 1 (refine plan_p (o := ⟨_, _, _, _, _, _⟩) rfl (fun N hN => ?_); go_big_quiet_step (fail); refine wpQuiet_nil (hN _ ?_); clear hN N)
  refine plan_p0 ?_
  refine plan_done ?_
  repeat' (first | (go_big_may; (first
    | ((first
        | (refine loud_ rfl ?_; refine wpList_plain rfl (fun K hK => ?_); (first | (refine op_box _ _ rfl H (fun b w' H1 => hK _ _ ?_)) | (refine op_alloc _ rfl (zero_of _ _ rfl) H (fun b w' H1 => hK _ _ ?_)) | (refine op_store _ _ _ rfl rfl rfl H (by repeat (first | exact Split.here _ _ | apply Split.there)) (by kernel_rfl) (by kernel_rfl) (by kernel_rfl) (fun w' H1 => hK _ _ ?_)) | (refine op_buildSlice_all _ _ _ rfl (by first | exact elem25 | exact elem32 | exact elem35 | exact elem36 | exact elem37 | exact elem38 | exact elem41 | exact elem42 | exact elem45 | exact elem57 | exact elem62 | exact elem74 | exact elem98 | exact elem100 | exact elem137 | exact elem178 | exact elem179) (by kernel_rfl) (by kernel_rfl) (by kernel_rfl) H (fun b w' H1 => hK _ _ ?_))); clear hK K; replace H := H1; clear H1)); (try clear hc); (try simp only [nrm, splice, Value.cells, Nat.reduceAdd, Act.eval, Act.put] at H); have hc := H.cells; simp only [CellsOf, KnCells, knc, Nat.reduceAdd] at hc))) | go_values | go_skip | go_guarded | go_step | go_upon | go_back | dsimp only)
  (try simp only [Act.put, slt])
  refine wp_region_plan (.q [0] (.p [1, 2] (.q [3] (.p [5, 6] (.e 4 (.e 7 (.p [8] .done))))))) [7] (by kernel_rfl) (by kernel_rfl) (fun _ _ d _ _ h => by cases d <;> exact h) H ?_
  clear H
  (try clear hc)
  intro X nX fX wd hcf hS H
  simp only [CellsOf, KnCells, knc, Nat.reduceAdd] at hcf
  have hc := H.cells
  simp only [CellsOf, KnCells, knc, Nat.reduceAdd] at hc
  iterate 1 (refine plan_q (o := ⟨_, _, _, _, _, _⟩) rfl (fun N hN => ?_); go_big_quiet_step (fail); refine wpQuiet_nil (hN _ ?_); clear hN N)
  refine plan_q0 ?_
  iterate 2 (refine plan_p (o := ⟨_, _, _, _, _, _⟩) rfl (fun N hN => ?_); go_big_quiet_step (fail); refine wpQuiet_nil (hN _ ?_); clear hN N)
  refine plan_p0 ?_
  iterate 1 (refine plan_q (o := ⟨_, _, _, _, _, _⟩) rfl (fun N hN => ?_); go_big_quiet_step (fail); refine wpQuiet_nil (hN _ ?_); clear hN N)
  refine plan_q0 ?_
  iterate 2 (refine plan_p (o := ⟨_, _, _, _, _, _⟩) rfl (fun N hN => ?_); go_big_quiet_step (fail); refine wpQuiet_nil (hN _ ?_); clear hN N)
  refine plan_p0 ?_
  refine plan_e (o := ⟨_, _, _, _, _, _⟩) rfl rfl (fun K hK => ?_)
  (first | (go_step; go_at_call 40; refine Calls.mono (bg_calls _) ?_; rintro e w' ⟨rfl, H'⟩; replace H := H.of_ext H'; clear H') | (go_step; go_at_call 93; refine Calls.mono (lin_calls hb _ _) ?_; rintro e w' ⟨rfl, H'⟩; replace H := H.of_ext H'; clear H') | (refine op_box _ _ rfl H (fun b w' H1 => ?_); replace H := H1; clear H1) | (refine op_alloc _ rfl (zero_of _ _ rfl) H (fun b w' H1 => ?_); replace H := H1; clear H1) | (refine op_store _ _ _ rfl rfl rfl H (by repeat (first | exact Split.here _ _ | apply Split.there)) (by kernel_rfl) (by kernel_rfl) (by kernel_rfl) (fun w' H1 => ?_); replace H := H1; clear H1) | (refine op_buildSlice_all _ _ _ rfl (by first | exact elem25 | exact elem32 | exact elem35 | exact elem36 | exact elem37 | exact elem38 | exact elem41 | exact elem42 | exact elem45 | exact elem57 | exact elem62 | exact elem74 | exact elem98 | exact elem100 | exact elem137 | exact elem178 | exact elem179) (by kernel_rfl) (by kernel_rfl) (by kernel_rfl) H (fun b w' H1 => ?_); replace H := H1; clear H1)); (try clear hc); (try simp only [nrm, splice, Value.cells, Nat.reduceAdd, Act.eval, Act.put] at H); have hc := H.cells; simp only [CellsOf, KnCells, knc, Nat.reduceAdd] at hc; refine hK _ _ (fun _ _ => hS _ (H.sublist (by repeat (first | exact List.Sublist.refl _ | exact List.nil_sublist _ | apply List.Sublist.cons_cons | apply List.Sublist.cons))).all) ?_; clear hK K; (try simp only [Act.put, slt])
  refine plan_e (o := ⟨_, _, _, _, _, _⟩) rfl rfl (fun K hK => ?_)
  (first | (go_step; go_at_call 40; refine Calls.mono (bg_calls _) ?_; rintro e w' ⟨rfl, H'⟩; replace H := H.of_ext H'; clear H') | (go_step; go_at_call 93; refine Calls.mono (lin_calls hb _ _) ?_; rintro e w' ⟨rfl, H'⟩; replace H := H.of_ext H'; clear H') | (refine op_box _ _ rfl H (fun b w' H1 => ?_); replace H := H1; clear H1) | (refine op_alloc _ rfl (zero_of _ _ rfl) H (fun b w' H1 => ?_); replace H := H1; clear H1) | (refine op_store _ _ _ rfl rfl rfl H (by repeat (first | exact Split.here _ _ | apply Split.there)) (by kernel_rfl) (by kernel_rfl) (by kernel_rfl) (fun w' H1 => ?_); replace H := H1; clear H1) | (refine op_buildSlice_all _ _ _ rfl (by first | exact elem25 | exact elem32 | exact elem35 | exact elem36 | exact elem37 | exact elem38 | exact elem41 | exact elem42 | exact elem45 | exact elem57 | exact elem62 | exact elem74 | exact elem98 | exact elem100 | exact elem137 | exact elem178 | exact elem179) (by kernel_rfl) (by kernel_rfl) (by kernel_rfl) H (fun b w' H1 => ?_); replace H := H1; clear H1)); (try clear hc); (try simp only [nrm, splice, Value.cells, Nat.reduceAdd, Act.eval, Act.put] at H); have hc := H.cells; simp only [CellsOf, KnCells, knc, Nat.reduceAdd] at hc; refine hK _ _ (fun h => (h (by decide)).elim) ?_; clear hK K; (try simp only [Act.put, slt])
  iterate 1 (refine plan_p (o := ⟨_, _, _, _, _, _⟩) rfl (fun N hN => ?_); go_big_quiet_step (fail); refine wpQuiet_nil (hN _ ?_); clear hN N)
  refine plan_p0 ?_
  refine plan_done ?_
  clear h3 h4 h5 h6
  repeat' (first | (go_big_may; (first
    | go_skip
    | ((first
        | (go_at_call 91; refine Calls.mono (hash1_calls hb ⟨fh, fc, fr⟩ ⟨fh, fc, fr⟩ rev2 own _ _ _ _ _ _ _ (H.pick (by repeat (first | exact Picks.nil _ | (apply Picks.wr; focus (repeat (first | exact Split.here _ _ | apply Split.there))) | (apply Picks.rd; focus (repeat (first | exact Split.here _ _ | apply Split.there))))))) ?_; rintro e w' ⟨rfl, H'⟩; replace H := H.merge (by first | exact Strikes.nil _ | (repeat (first | exact Strikes.nil _ | (apply Strikes.cons; focus (repeat (first | exact Split.here _ _ | apply Split.there)))))) H' rfl; clear H')
        | (refine loud_ rfl ?_; refine wpList_plain rfl (fun K hK => ?_); (first | (refine op_box _ _ rfl H (fun b w' H1 => hK _ _ ?_)) | (refine op_alloc _ rfl (zero_of _ _ rfl) H (fun b w' H1 => hK _ _ ?_)) | (refine op_store _ _ _ rfl rfl rfl H (by repeat (first | exact Split.here _ _ | apply Split.there)) (by kernel_rfl) (by kernel_rfl) (by kernel_rfl) (fun w' H1 => hK _ _ ?_)) | (refine op_buildSlice_all _ _ _ rfl (by first | exact elem25 | exact elem32 | exact elem35 | exact elem36 | exact elem37 | exact elem38 | exact elem41 | exact elem42 | exact elem45 | exact elem57 | exact elem62 | exact elem74 | exact elem98 | exact elem100 | exact elem137 | exact elem178 | exact elem179) (by kernel_rfl) (by kernel_rfl) (by kernel_rfl) H (fun b w' H1 => hK _ _ ?_))); clear hK K; replace H := H1; clear H1)); (try clear hc); (try simp only [nrm, splice, Value.cells, Nat.reduceAdd, Act.eval, Act.put] at H); have hc := H.cells; simp only [CellsOf, KnCells, knc, Nat.reduceAdd] at hc))) | go_values | go_skip | go_guarded | go_step | go_upon | go_back | dsimp only)
  rename_i b1 _ _ b3 _ _ _ _ _ _ _ _ _ _ _ _ b7 _ _ _ _ _
  obtain ⟨b9, rfl⟩ : ∃ q, q = b := ⟨_, rfl⟩
  have hbl := (H.rep (R := PrsAt bs ps fp) (fp := fp) (by repeat (first | exact Split.here _ _ | apply Split.there))).len
  replace H := H.rowSoft (key := key) (by repeat (first | exact Split.here _ _ | apply Split.there))
  (try simp only [List.append] at H)
  (try simp only [sl])
  generalize (key.map fun b => (⟨b, 0, none⟩ : Addr)) = sr at *
  replace H := H.ro (k := .is b3 _) (by repeat (first | exact Split.here _ _ | apply Split.there))
  (try simp only [List.append] at H)
  replace H := H.ro (k := .is b7 _) (by repeat (first | exact Split.here _ _ | apply Split.there))
  (try simp only [List.append] at H)
  replace H := H.ro (k := .is b1 _) (by repeat (first | exact Split.here _ _ | apply Split.there))
  (try simp only [List.append] at H)
  replace H := H.ro (k := .is cb _) (by repeat (first | exact Split.here _ _ | apply Split.there))
  (try simp only [List.append] at H)
  replace H := H.ro (k := .rep fp (PrsAt bs ps fp)) (by repeat (first | exact Split.here _ _ | apply Split.there))
  (try simp only [List.append] at H)
  replace H := H.nilRow 27 1
  obtain ⟨rv, hrv⟩ : ∃ r, r = (sl rkey 1 rcap) := ⟨_, rfl⟩
  rw [← hrv] at H
  clear hrv
  replace H := H.sel (L' := [(true, .is hb (hasO ⟨fh, fc, fr⟩ ⟨fh, fc, fr⟩ rev2 2 own (fv33 bx) hv (sl none (alN none) 0) rv)), (true, .row none 27 1 (alN none) 0 (alXs none)), (true, .is b9 (alO none)), (false, .is b1 (ckV cb)), (false, .is cb (chkO hb last)),
    (false, .is b3 (.cells #[.int .u32 fh, .int .i64 fc, .int .i64 fr] 55 (0, 0))), (false, .is b7 (.cells #[.int .u32 fh, .int .i64 fc, .int .i64 fr] 55 (0, 0))), (false, .rep fp (PrsAt bs ps fp)), (false, soft sr (bs.map pt))]) (by repeat (first | exact Sel.nil _ | (apply Sel.cons; focus (repeat (first | exact Split.here _ _ | apply Split.there)))))
  clear hc
  go_loopw [11, 85] (AtPer n hb cb b3 b7 b9 b1 last ⟨fh, fc, fr⟩ rev2 own (fv33 bx) hv rv ps bs fp sr S w) (fun _ i _ => n - (intOf i).toNat)
  case atStart => exact ⟨0, 0, none, none, 0, Nat.zero_le _, rfl, rfl, Nat.le_refl _, by simp [Hid, perAl], H⟩
  case round =>
    clear H
    obtain ⟨j, m, al, key, cap, hj, rfl, rfl, hmj, hal, H⟩ := hrel
    by_cases hlt : j < n
    · have hj' : j < ps.length := by rw [hn.out]; exact hlt
      have hcat : Hid (ps.take (j + 1) = ps.take j ++ [ps[j]]) := (List.take_append_getElem hj').symm
      obtain ⟨b, hb9, hop⟩ := pr_open H (Split.there _ (Split.there _ (Split.there _ (Split.there _ (Split.there _ (Split.there _ (Split.there _ (Split.here _ _)))))))) j hj'
      have hb8 := Lib.hid hb9
      clear hb9
      generalize ps[j] = p at *
      obtain ⟨id, has, hash, compact, rev, err⟩ := p
      simp only at hop
      have hstep : Hid (perAl ⟨fh, fc, fr⟩ rev2 (ps.take (j + 1)) = perStep ⟨fh, fc, fr⟩ rev2 al ⟨id, has, hash, compact, rev, err⟩) := by
        show _ = _
        rw [hcat.out, hal.out]
        simp [perAl]
      clear hcat hal
      rcases hop with ⟨rfl, rb, hb2, H1⟩ | ⟨rfl, H1⟩
      · obtain ⟨c1, o1, rfl, H2⟩ := H1.elemSoft (Split.there _ (Split.there _ (Split.there _ (Split.there _ (Split.there _ (Split.there _ (Split.there _ (Split.there _ (Split.there _ (Split.there _ (Split.there _ (Split.here _ _)))))))))))) j [pt b] (by show 0 < 1; omega) (by rw [List.length_map, hbl]; show _ + 1 ≤ _; omega) (pt_at hb8.out)
        clear H H1 hj' hbl
        have H := H2
        clear H2
        by_cases eC : compact = fc
        · have e9 := eC.symm
          subst e9
          have eB : ¬ fc < fc := by omega
          by_cases eD : hash = fh
          · have e9 := eD.symm
            subst e9
            by_cases eA : rev2 < rev
            all_goals first
              | (have hz : Hid (perStep ⟨fh, fc, fr⟩ rev2 al ⟨id, true, fh, fc, rev, err⟩ = al) := by simp [Hid, perStep, perBad, eA, eB, eA]
                 skip)
              | (have hz : Hid (perStep ⟨fh, fc, fr⟩ rev2 al ⟨id, true, fh, fc, rev, err⟩ = some (al.getD id)) := by simp [Hid, perStep, perBad, eA, eB, eA]
                 skip)
            all_goals
              have hc := H.cells; simp only [CellsOf, KnCells, knc, Nat.reduceAdd] at hc
              repeat' (first | (go_big_may; (first
    | go_skip
    | ((first
        | (go_at_call 41; refine Calls.mono (mism_calls _ id b9 b1 cb hb last ⟨fh, fc, fr⟩ ⟨fh, fc, fr⟩ rev2 2 own _ _ _ _ _ _ _ (H.pick (by repeat (first | exact Picks.nil _ | (apply Picks.wr; focus (repeat (first | exact Split.here _ _ | apply Split.there))) | (apply Picks.rd; focus (repeat (first | exact Split.here _ _ | apply Split.there))))))) ?_; rintro e w' ⟨key9, cap9, rfl, H'⟩; replace H := H.merge (by first | exact Strikes.nil _ | (repeat (first | exact Strikes.nil _ | (apply Strikes.cons; focus (repeat (first | exact Split.here _ _ | apply Split.there)))))) H' rfl; clear H')
        | (refine loud_ rfl ?_; refine wpList_plain rfl (fun K hK => ?_); (first | (refine op_box _ _ rfl H (fun b w' H1 => hK _ _ ?_)) | (refine op_alloc _ rfl (zero_of _ _ rfl) H (fun b w' H1 => hK _ _ ?_)) | (refine op_store _ _ _ rfl rfl rfl H (by repeat (first | exact Split.here _ _ | apply Split.there)) (by kernel_rfl) (by kernel_rfl) (by kernel_rfl) (fun w' H1 => hK _ _ ?_)) | (refine op_buildSlice_all _ _ _ rfl (by first | exact elem25 | exact elem32 | exact elem35 | exact elem36 | exact elem37 | exact elem38 | exact elem41 | exact elem42 | exact elem45 | exact elem57 | exact elem62 | exact elem74 | exact elem98 | exact elem100 | exact elem137 | exact elem178 | exact elem179) (by kernel_rfl) (by kernel_rfl) (by kernel_rfl) H (fun b w' H1 => hK _ _ ?_))); clear hK K; replace H := H1; clear H1)); (try clear hc); (try simp only [nrm, splice, Value.cells, Nat.reduceAdd, Act.eval, Act.put] at H); have hc := H.cells; simp only [CellsOf, KnCells, knc, Nat.reduceAdd] at hc))) | go_values | go_skip | go_guarded | go_step | go_upon | go_back | dsimp only)
              (try simp only [List.append] at H)
              (try simp only [Act.put, slt])
              refine wp_region_plan (.p [0, 1, 2] (.q [3] (.p [4, 5] (.q [6] (.p [7] (.q [8] (.p [9] .done))))))) [] (by kernel_rfl) (by kernel_rfl) (fun _ _ d _ _ h => by cases d <;> exact h) H ?_
              clear H
              (try clear hc)
              intro X nX fX wd hcf hS H
              simp only [CellsOf, KnCells, knc, Nat.reduceAdd] at hcf
              have hc := H.cells
              simp only [CellsOf, KnCells, knc, Nat.reduceAdd] at hc
              iterate 3 (refine plan_p (o := ⟨_, _, _, _, _, _⟩) rfl (fun N hN => ?_); go_big_quiet_step (fail); refine wpQuiet_nil (hN _ ?_); clear hN N)
              refine plan_p0 ?_
              iterate 1 (refine plan_q (o := ⟨_, _, _, _, _, _⟩) rfl (fun N hN => ?_); go_big_quiet_step (fail); refine wpQuiet_nil (hN _ ?_); clear hN N)
              refine plan_q0 ?_
              iterate 2 (refine plan_p (o := ⟨_, _, _, _, _, _⟩) rfl (fun N hN => ?_); go_big_quiet_step (fail); refine wpQuiet_nil (hN _ ?_); clear hN N)
              refine plan_p0 ?_
              iterate 1 (refine plan_q (o := ⟨_, _, _, _, _, _⟩) rfl (fun N hN => ?_); go_big_quiet_step (fail); refine wpQuiet_nil (hN _ ?_); clear hN N)
              refine plan_q0 ?_
              iterate 1 (refine plan_p (o := ⟨_, _, _, _, _, _⟩) rfl (fun N hN => ?_); go_big_quiet_step (fail); refine wpQuiet_nil (hN _ ?_); clear hN N)
              refine plan_p0 ?_
              iterate 1 (refine plan_q (o := ⟨_, _, _, _, _, _⟩) rfl (fun N hN => ?_); go_big_quiet_step (fail); refine wpQuiet_nil (hN _ ?_); clear hN N)
              refine plan_q0 ?_
              iterate 1 (refine plan_p (o := ⟨_, _, _, _, _, _⟩) rfl (fun N hN => ?_); go_big_quiet_step (fail); refine wpQuiet_nil (hN _ ?_); clear hN N)
              refine plan_p0 ?_
              refine plan_done ?_
              repeat' (first | (go_big_may; (first
    | go_skip
    | ((first
        | (go_at_call 41; refine Calls.mono (mism_calls _ id b9 b1 cb hb last ⟨fh, fc, fr⟩ ⟨fh, fc, fr⟩ rev2 2 own _ _ _ _ _ _ _ (H.pick (by repeat (first | exact Picks.nil _ | (apply Picks.wr; focus (repeat (first | exact Split.here _ _ | apply Split.there))) | (apply Picks.rd; focus (repeat (first | exact Split.here _ _ | apply Split.there))))))) ?_; rintro e w' ⟨key9, cap9, rfl, H'⟩; replace H := H.merge (by first | exact Strikes.nil _ | (repeat (first | exact Strikes.nil _ | (apply Strikes.cons; focus (repeat (first | exact Split.here _ _ | apply Split.there)))))) H' rfl; clear H')
        | (refine loud_ rfl ?_; refine wpList_plain rfl (fun K hK => ?_); (first | (refine op_box _ _ rfl H (fun b w' H1 => hK _ _ ?_)) | (refine op_alloc _ rfl (zero_of _ _ rfl) H (fun b w' H1 => hK _ _ ?_)) | (refine op_store _ _ _ rfl rfl rfl H (by repeat (first | exact Split.here _ _ | apply Split.there)) (by kernel_rfl) (by kernel_rfl) (by kernel_rfl) (fun w' H1 => hK _ _ ?_)) | (refine op_buildSlice_all _ _ _ rfl (by first | exact elem25 | exact elem32 | exact elem35 | exact elem36 | exact elem37 | exact elem38 | exact elem41 | exact elem42 | exact elem45 | exact elem57 | exact elem62 | exact elem74 | exact elem98 | exact elem100 | exact elem137 | exact elem178 | exact elem179) (by kernel_rfl) (by kernel_rfl) (by kernel_rfl) H (fun b w' H1 => hK _ _ ?_))); clear hK K; replace H := H1; clear H1)); (try clear hc); (try simp only [nrm, splice, Value.cells, Nat.reduceAdd, Act.eval, Act.put] at H); have hc := H.cells; simp only [CellsOf, KnCells, knc, Nat.reduceAdd] at hc))) | go_values | go_skip | go_guarded | go_step | go_upon | go_back | dsimp only)
              (try simp only [List.append] at H)
              (try simp only [Act.put, slt])
              refine wp_region_plan (.p [0, 1, 2] (.q [3] (.p [4, 5] (.q [6] (.p [7] (.q [8] (.p [9, 10, 11, 12, 13] (.q [14] (.p [15, 16] (.q [17] (.p [18] (.q [19] (.p [20, 21] .done))))))))))))) [] (by kernel_rfl) (by kernel_rfl) (fun _ _ d _ _ h => by cases d <;> exact h) H ?_
              clear H
              (try clear hc)
              intro X nX fX wd hcf hS H
              simp only [CellsOf, KnCells, knc, Nat.reduceAdd] at hcf
              have hc := H.cells
              simp only [CellsOf, KnCells, knc, Nat.reduceAdd] at hc
              iterate 3 (refine plan_p (o := ⟨_, _, _, _, _, _⟩) rfl (fun N hN => ?_); go_big_quiet_step (fail); refine wpQuiet_nil (hN _ ?_); clear hN N)
              refine plan_p0 ?_
              iterate 1 (refine plan_q (o := ⟨_, _, _, _, _, _⟩) rfl (fun N hN => ?_); go_big_quiet_step (fail); refine wpQuiet_nil (hN _ ?_); clear hN N)
              refine plan_q0 ?_
              iterate 2 (refine plan_p (o := ⟨_, _, _, _, _, _⟩) rfl (fun N hN => ?_); go_big_quiet_step (fail); refine wpQuiet_nil (hN _ ?_); clear hN N)
              refine plan_p0 ?_
              iterate 1 (refine plan_q (o := ⟨_, _, _, _, _, _⟩) rfl (fun N hN => ?_); go_big_quiet_step (fail); refine wpQuiet_nil (hN _ ?_); clear hN N)
              refine plan_q0 ?_
              iterate 1 (refine plan_p (o := ⟨_, _, _, _, _, _⟩) rfl (fun N hN => ?_); go_big_quiet_step (fail); refine wpQuiet_nil (hN _ ?_); clear hN N)
              refine plan_p0 ?_
              iterate 1 (refine plan_q (o := ⟨_, _, _, _, _, _⟩) rfl (fun N hN => ?_); go_big_quiet_step (fail); refine wpQuiet_nil (hN _ ?_); clear hN N)
              refine plan_q0 ?_
              iterate 2 (refine plan_p (o := ⟨_, _, _, _, _, _⟩) rfl (fun N hN => ?_); go_big_quiet_step (fail); refine wpQuiet_nil (hN _ ?_); clear hN N)
              iterate 1 (refine plan_p (o := ⟨_, _, _, _, _, _⟩) rfl (fun N hN => ?_); go_big_quiet_step (fail); refine wpQuiet_nil (hN _ ?_); clear hN N)
              iterate 1 (refine plan_p (o := ⟨_, _, _, _, _, _⟩) rfl (fun N hN => ?_); go_big_quiet_step (fail); refine wpQuiet_nil (hN _ ?_); clear hN N)
              iterate 1 (refine plan_p (o := ⟨_, _, _, _, _, _⟩) rfl (fun N hN => ?_); go_big_quiet_step (fail); refine wpQuiet_nil (hN _ ?_); clear hN N)
              refine plan_p0 ?_
              iterate 1 (refine plan_q (o := ⟨_, _, _, _, _, _⟩) rfl (fun N hN => ?_); go_big_quiet_step (fail); refine wpQuiet_nil (hN _ ?_); clear hN N)
              refine plan_q0 ?_
              iterate 1 (refine plan_p (o := ⟨_, _, _, _, _, _⟩) rfl (fun N hN => ?_); go_big_quiet_step (fail); refine wpQuiet_nil (hN _ ?_); clear hN N)
              iterate 1 (refine plan_p (o := ⟨_, _, _, _, _, _⟩) rfl (fun N hN => ?_); go_big_quiet_step (fail); refine wpQuiet_nil (hN _ ?_); clear hN N)
              refine plan_p0 ?_
              iterate 1 (refine plan_q (o := ⟨_, _, _, _, _, _⟩) rfl (fun N hN => ?_); go_big_quiet_step (fail); refine wpQuiet_nil (hN _ ?_); clear hN N)
              refine plan_q0 ?_
              iterate 1 (refine plan_p (o := ⟨_, _, _, _, _, _⟩) rfl (fun N hN => ?_); go_big_quiet_step (fail); refine wpQuiet_nil (hN _ ?_); clear hN N)
              refine plan_p0 ?_
              iterate 1 (refine plan_q (o := ⟨_, _, _, _, _, _⟩) rfl (fun N hN => ?_); go_big_quiet_step (fail); refine wpQuiet_nil (hN _ ?_); clear hN N)
              refine plan_q0 ?_
              iterate 1 (refine plan_p (o := ⟨_, _, _, _, _, _⟩) rfl (fun N hN => ?_); go_big_quiet_step (fail); refine wpQuiet_nil (hN _ ?_); clear hN N)
              iterate 1 (refine plan_p (o := ⟨_, _, _, _, _, _⟩) rfl (fun N hN => ?_); go_big_quiet_step (fail); refine wpQuiet_nil (hN _ ?_); clear hN N)
              refine plan_p0 ?_
              refine plan_done ?_
              repeat' (first | (go_big_may; (first
    | go_skip
    | ((first
        | (go_at_call 41; refine Calls.mono (mism_calls _ id b9 b1 cb hb last ⟨fh, fc, fr⟩ ⟨fh, fc, fr⟩ rev2 2 own _ _ _ _ _ _ _ (H.pick (by repeat (first | exact Picks.nil _ | (apply Picks.wr; focus (repeat (first | exact Split.here _ _ | apply Split.there))) | (apply Picks.rd; focus (repeat (first | exact Split.here _ _ | apply Split.there))))))) ?_; rintro e w' ⟨key9, cap9, rfl, H'⟩; replace H := H.merge (by first | exact Strikes.nil _ | (repeat (first | exact Strikes.nil _ | (apply Strikes.cons; focus (repeat (first | exact Split.here _ _ | apply Split.there)))))) H' rfl; clear H')
        | (refine loud_ rfl ?_; refine wpList_plain rfl (fun K hK => ?_); (first | (refine op_box _ _ rfl H (fun b w' H1 => hK _ _ ?_)) | (refine op_alloc _ rfl (zero_of _ _ rfl) H (fun b w' H1 => hK _ _ ?_)) | (refine op_store _ _ _ rfl rfl rfl H (by repeat (first | exact Split.here _ _ | apply Split.there)) (by kernel_rfl) (by kernel_rfl) (by kernel_rfl) (fun w' H1 => hK _ _ ?_)) | (refine op_buildSlice_all _ _ _ rfl (by first | exact elem25 | exact elem32 | exact elem35 | exact elem36 | exact elem37 | exact elem38 | exact elem41 | exact elem42 | exact elem45 | exact elem57 | exact elem62 | exact elem74 | exact elem98 | exact elem100 | exact elem137 | exact elem178 | exact elem179) (by kernel_rfl) (by kernel_rfl) (by kernel_rfl) H (fun b w' H1 => hK _ _ ?_))); clear hK K; replace H := H1; clear H1)); (try clear hc); (try simp only [nrm, splice, Value.cells, Nat.reduceAdd, Act.eval, Act.put] at H); have hc := H.cells; simp only [CellsOf, KnCells, knc, Nat.reduceAdd] at hc))) | go_values | go_skip | go_guarded | go_step | go_upon | go_back | dsimp only)
              (try simp only [Option.getD_some] at H)
              first
                | exact ⟨⟨j + 1, m + 1, al, _, _, by omega, by go_num, by go_num, by omega, by show _ = _; rw [hstep.out, hz.out], H.sel (by repeat (first | exact Sel.nil _ | (apply Sel.cons; focus (repeat (first | exact Split.here _ _ | apply Split.there)))))⟩, by simp [intOf]; omega⟩
                | exact ⟨⟨j + 1, m + 1, some (al.getD id), _, _, by omega, by go_num, by go_num, by omega, by show _ = _; rw [hstep.out, hz.out], H.sel (by repeat (first | exact Sel.nil _ | (apply Sel.cons; focus (repeat (first | exact Split.here _ _ | apply Split.there)))))⟩, by simp [intOf]; omega⟩
          · by_cases eA : rev2 < rev
            all_goals first
              | (have hz : Hid (perStep ⟨fh, fc, fr⟩ rev2 al ⟨id, true, hash, fc, rev, err⟩ = al) := by simp [Hid, perStep, perBad, eA, eB, eD]
                 skip)
              | (have hz : Hid (perStep ⟨fh, fc, fr⟩ rev2 al ⟨id, true, hash, fc, rev, err⟩ = some (al.getD id)) := by simp [Hid, perStep, perBad, eA, eB, eD]
                 skip)
            all_goals
              have hc := H.cells; simp only [CellsOf, KnCells, knc, Nat.reduceAdd] at hc
              repeat' (first | (go_big_may; (first
    | go_skip
    | ((first
        | (go_at_call 41; refine Calls.mono (mism_calls _ id b9 b1 cb hb last ⟨fh, fc, fr⟩ ⟨fh, fc, fr⟩ rev2 2 own _ _ _ _ _ _ _ (H.pick (by repeat (first | exact Picks.nil _ | (apply Picks.wr; focus (repeat (first | exact Split.here _ _ | apply Split.there))) | (apply Picks.rd; focus (repeat (first | exact Split.here _ _ | apply Split.there))))))) ?_; rintro e w' ⟨key9, cap9, rfl, H'⟩; replace H := H.merge (by first | exact Strikes.nil _ | (repeat (first | exact Strikes.nil _ | (apply Strikes.cons; focus (repeat (first | exact Split.here _ _ | apply Split.there)))))) H' rfl; clear H')
        | (refine loud_ rfl ?_; refine wpList_plain rfl (fun K hK => ?_); (first | (refine op_box _ _ rfl H (fun b w' H1 => hK _ _ ?_)) | (refine op_alloc _ rfl (zero_of _ _ rfl) H (fun b w' H1 => hK _ _ ?_)) | (refine op_store _ _ _ rfl rfl rfl H (by repeat (first | exact Split.here _ _ | apply Split.there)) (by kernel_rfl) (by kernel_rfl) (by kernel_rfl) (fun w' H1 => hK _ _ ?_)) | (refine op_buildSlice_all _ _ _ rfl (by first | exact elem25 | exact elem32 | exact elem35 | exact elem36 | exact elem37 | exact elem38 | exact elem41 | exact elem42 | exact elem45 | exact elem57 | exact elem62 | exact elem74 | exact elem98 | exact elem100 | exact elem137 | exact elem178 | exact elem179) (by kernel_rfl) (by kernel_rfl) (by kernel_rfl) H (fun b w' H1 => hK _ _ ?_))); clear hK K; replace H := H1; clear H1)); (try clear hc); (try simp only [nrm, splice, Value.cells, Nat.reduceAdd, Act.eval, Act.put] at H); have hc := H.cells; simp only [CellsOf, KnCells, knc, Nat.reduceAdd] at hc))) | go_values | go_skip | go_guarded | go_step | go_upon | go_back | dsimp only)
              (try simp only [List.append] at H)
              (try simp only [Act.put, slt])
              refine wp_region_plan (.p [0, 1, 2] (.q [3] (.p [4, 5] (.q [6] (.p [7] (.q [8] (.p [9] .done))))))) [] (by kernel_rfl) (by kernel_rfl) (fun _ _ d _ _ h => by cases d <;> exact h) H ?_
              clear H
              (try clear hc)
              intro X nX fX wd hcf hS H
              simp only [CellsOf, KnCells, knc, Nat.reduceAdd] at hcf
              have hc := H.cells
              simp only [CellsOf, KnCells, knc, Nat.reduceAdd] at hc
              iterate 3 (refine plan_p (o := ⟨_, _, _, _, _, _⟩) rfl (fun N hN => ?_); go_big_quiet_step (fail); refine wpQuiet_nil (hN _ ?_); clear hN N)
              refine plan_p0 ?_
              iterate 1 (refine plan_q (o := ⟨_, _, _, _, _, _⟩) rfl (fun N hN => ?_); go_big_quiet_step (fail); refine wpQuiet_nil (hN _ ?_); clear hN N)
              refine plan_q0 ?_
              iterate 2 (refine plan_p (o := ⟨_, _, _, _, _, _⟩) rfl (fun N hN => ?_); go_big_quiet_step (fail); refine wpQuiet_nil (hN _ ?_); clear hN N)
              refine plan_p0 ?_
              iterate 1 (refine plan_q (o := ⟨_, _, _, _, _, _⟩) rfl (fun N hN => ?_); go_big_quiet_step (fail); refine wpQuiet_nil (hN _ ?_); clear hN N)
              refine plan_q0 ?_
              iterate 1 (refine plan_p (o := ⟨_, _, _, _, _, _⟩) rfl (fun N hN => ?_); go_big_quiet_step (fail); refine wpQuiet_nil (hN _ ?_); clear hN N)
              refine plan_p0 ?_
              iterate 1 (refine plan_q (o := ⟨_, _, _, _, _, _⟩) rfl (fun N hN => ?_); go_big_quiet_step (fail); refine wpQuiet_nil (hN _ ?_); clear hN N)
              refine plan_q0 ?_
              iterate 1 (refine plan_p (o := ⟨_, _, _, _, _, _⟩) rfl (fun N hN => ?_); go_big_quiet_step (fail); refine wpQuiet_nil (hN _ ?_); clear hN N)
              refine plan_p0 ?_
              refine plan_done ?_
              repeat' (first | (go_big_may; (first
    | go_skip
    | ((first
        | (go_at_call 41; refine Calls.mono (mism_calls _ id b9 b1 cb hb last ⟨fh, fc, fr⟩ ⟨fh, fc, fr⟩ rev2 2 own _ _ _ _ _ _ _ (H.pick (by repeat (first | exact Picks.nil _ | (apply Picks.wr; focus (repeat (first | exact Split.here _ _ | apply Split.there))) | (apply Picks.rd; focus (repeat (first | exact Split.here _ _ | apply Split.there))))))) ?_; rintro e w' ⟨key9, cap9, rfl, H'⟩; replace H := H.merge (by first | exact Strikes.nil _ | (repeat (first | exact Strikes.nil _ | (apply Strikes.cons; focus (repeat (first | exact Split.here _ _ | apply Split.there)))))) H' rfl; clear H')
        | (refine loud_ rfl ?_; refine wpList_plain rfl (fun K hK => ?_); (first | (refine op_box _ _ rfl H (fun b w' H1 => hK _ _ ?_)) | (refine op_alloc _ rfl (zero_of _ _ rfl) H (fun b w' H1 => hK _ _ ?_)) | (refine op_store _ _ _ rfl rfl rfl H (by repeat (first | exact Split.here _ _ | apply Split.there)) (by kernel_rfl) (by kernel_rfl) (by kernel_rfl) (fun w' H1 => hK _ _ ?_)) | (refine op_buildSlice_all _ _ _ rfl (by first | exact elem25 | exact elem32 | exact elem35 | exact elem36 | exact elem37 | exact elem38 | exact elem41 | exact elem42 | exact elem45 | exact elem57 | exact elem62 | exact elem74 | exact elem98 | exact elem100 | exact elem137 | exact elem178 | exact elem179) (by kernel_rfl) (by kernel_rfl) (by kernel_rfl) H (fun b w' H1 => hK _ _ ?_))); clear hK K; replace H := H1; clear H1)); (try clear hc); (try simp only [nrm, splice, Value.cells, Nat.reduceAdd, Act.eval, Act.put] at H); have hc := H.cells; simp only [CellsOf, KnCells, knc, Nat.reduceAdd] at hc))) | go_values | go_skip | go_guarded | go_step | go_upon | go_back | dsimp only)
              (try simp only [List.append] at H)
              (try simp only [Act.put, slt])
              refine wp_region_plan (.p [0, 1, 2] (.q [3] (.p [4, 5] (.q [6] (.p [7] (.q [8] (.p [9, 10, 11, 12, 13] (.q [14] (.p [15, 16] (.q [17] (.p [18] (.q [19] (.p [20, 21] .done))))))))))))) [] (by kernel_rfl) (by kernel_rfl) (fun _ _ d _ _ h => by cases d <;> exact h) H ?_
              clear H
              (try clear hc)
              intro X nX fX wd hcf hS H
              simp only [CellsOf, KnCells, knc, Nat.reduceAdd] at hcf
              have hc := H.cells
              simp only [CellsOf, KnCells, knc, Nat.reduceAdd] at hc
              iterate 3 (refine plan_p (o := ⟨_, _, _, _, _, _⟩) rfl (fun N hN => ?_); go_big_quiet_step (fail); refine wpQuiet_nil (hN _ ?_); clear hN N)
              refine plan_p0 ?_
              iterate 1 (refine plan_q (o := ⟨_, _, _, _, _, _⟩) rfl (fun N hN => ?_); go_big_quiet_step (fail); refine wpQuiet_nil (hN _ ?_); clear hN N)
              refine plan_q0 ?_
              iterate 2 (refine plan_p (o := ⟨_, _, _, _, _, _⟩) rfl (fun N hN => ?_); go_big_quiet_step (fail); refine wpQuiet_nil (hN _ ?_); clear hN N)
              refine plan_p0 ?_
              iterate 1 (refine plan_q (o := ⟨_, _, _, _, _, _⟩) rfl (fun N hN => ?_); go_big_quiet_step (fail); refine wpQuiet_nil (hN _ ?_); clear hN N)
              refine plan_q0 ?_
              iterate 1 (refine plan_p (o := ⟨_, _, _, _, _, _⟩) rfl (fun N hN => ?_); go_big_quiet_step (fail); refine wpQuiet_nil (hN _ ?_); clear hN N)
              refine plan_p0 ?_
              iterate 1 (refine plan_q (o := ⟨_, _, _, _, _, _⟩) rfl (fun N hN => ?_); go_big_quiet_step (fail); refine wpQuiet_nil (hN _ ?_); clear hN N)
              refine plan_q0 ?_
              iterate 2 (refine plan_p (o := ⟨_, _, _, _, _, _⟩) rfl (fun N hN => ?_); go_big_quiet_step (fail); refine wpQuiet_nil (hN _ ?_); clear hN N)
              iterate 1 (refine plan_p (o := ⟨_, _, _, _, _, _⟩) rfl (fun N hN => ?_); go_big_quiet_step (fail); refine wpQuiet_nil (hN _ ?_); clear hN N)
              iterate 1 (refine plan_p (o := ⟨_, _, _, _, _, _⟩) rfl (fun N hN => ?_); go_big_quiet_step (fail); refine wpQuiet_nil (hN _ ?_); clear hN N)
              iterate 1 (refine plan_p (o := ⟨_, _, _, _, _, _⟩) rfl (fun N hN => ?_); go_big_quiet_step (fail); refine wpQuiet_nil (hN _ ?_); clear hN N)
              refine plan_p0 ?_
              iterate 1 (refine plan_q (o := ⟨_, _, _, _, _, _⟩) rfl (fun N hN => ?_); go_big_quiet_step (fail); refine wpQuiet_nil (hN _ ?_); clear hN N)
              refine plan_q0 ?_
              iterate 1 (refine plan_p (o := ⟨_, _, _, _, _, _⟩) rfl (fun N hN => ?_); go_big_quiet_step (fail); refine wpQuiet_nil (hN _ ?_); clear hN N)
              iterate 1 (refine plan_p (o := ⟨_, _, _, _, _, _⟩) rfl (fun N hN => ?_); go_big_quiet_step (fail); refine wpQuiet_nil (hN _ ?_); clear hN N)
              refine plan_p0 ?_
              iterate 1 (refine plan_q (o := ⟨_, _, _, _, _, _⟩) rfl (fun N hN => ?_); go_big_quiet_step (fail); refine wpQuiet_nil (hN _ ?_); clear hN N)
              refine plan_q0 ?_
              iterate 1 (refine plan_p (o := ⟨_, _, _, _, _, _⟩) rfl (fun N hN => ?_); go_big_quiet_step (fail); refine wpQuiet_nil (hN _ ?_); clear hN N)
              refine plan_p0 ?_
              iterate 1 (refine plan_q (o := ⟨_, _, _, _, _, _⟩) rfl (fun N hN => ?_); go_big_quiet_step (fail); refine wpQuiet_nil (hN _ ?_); clear hN N)
              refine plan_q0 ?_
              iterate 1 (refine plan_p (o := ⟨_, _, _, _, _, _⟩) rfl (fun N hN => ?_); go_big_quiet_step (fail); refine wpQuiet_nil (hN _ ?_); clear hN N)
              iterate 1 (refine plan_p (o := ⟨_, _, _, _, _, _⟩) rfl (fun N hN => ?_); go_big_quiet_step (fail); refine wpQuiet_nil (hN _ ?_); clear hN N)
              refine plan_p0 ?_
              refine plan_done ?_
              repeat' (first | (go_big_may; (first
    | go_skip
    | ((first
        | (go_at_call 41; refine Calls.mono (mism_calls _ id b9 b1 cb hb last ⟨fh, fc, fr⟩ ⟨fh, fc, fr⟩ rev2 2 own _ _ _ _ _ _ _ (H.pick (by repeat (first | exact Picks.nil _ | (apply Picks.wr; focus (repeat (first | exact Split.here _ _ | apply Split.there))) | (apply Picks.rd; focus (repeat (first | exact Split.here _ _ | apply Split.there))))))) ?_; rintro e w' ⟨key9, cap9, rfl, H'⟩; replace H := H.merge (by first | exact Strikes.nil _ | (repeat (first | exact Strikes.nil _ | (apply Strikes.cons; focus (repeat (first | exact Split.here _ _ | apply Split.there)))))) H' rfl; clear H')
        | (refine loud_ rfl ?_; refine wpList_plain rfl (fun K hK => ?_); (first | (refine op_box _ _ rfl H (fun b w' H1 => hK _ _ ?_)) | (refine op_alloc _ rfl (zero_of _ _ rfl) H (fun b w' H1 => hK _ _ ?_)) | (refine op_store _ _ _ rfl rfl rfl H (by repeat (first | exact Split.here _ _ | apply Split.there)) (by kernel_rfl) (by kernel_rfl) (by kernel_rfl) (fun w' H1 => hK _ _ ?_)) | (refine op_buildSlice_all _ _ _ rfl (by first | exact elem25 | exact elem32 | exact elem35 | exact elem36 | exact elem37 | exact elem38 | exact elem41 | exact elem42 | exact elem45 | exact elem57 | exact elem62 | exact elem74 | exact elem98 | exact elem100 | exact elem137 | exact elem178 | exact elem179) (by kernel_rfl) (by kernel_rfl) (by kernel_rfl) H (fun b w' H1 => hK _ _ ?_))); clear hK K; replace H := H1; clear H1)); (try clear hc); (try simp only [nrm, splice, Value.cells, Nat.reduceAdd, Act.eval, Act.put] at H); have hc := H.cells; simp only [CellsOf, KnCells, knc, Nat.reduceAdd] at hc))) | go_values | go_skip | go_guarded | go_step | go_upon | go_back | dsimp only)
              (try simp only [Option.getD_some] at H)
              first
                | exact ⟨⟨j + 1, m + 1, al, _, _, by omega, by go_num, by go_num, by omega, by show _ = _; rw [hstep.out, hz.out], H.sel (by repeat (first | exact Sel.nil _ | (apply Sel.cons; focus (repeat (first | exact Split.here _ _ | apply Split.there)))))⟩, by simp [intOf]; omega⟩
                | exact ⟨⟨j + 1, m + 1, some (al.getD id), _, _, by omega, by go_num, by go_num, by omega, by show _ = _; rw [hstep.out, hz.out], H.sel (by repeat (first | exact Sel.nil _ | (apply Sel.cons; focus (repeat (first | exact Split.here _ _ | apply Split.there)))))⟩, by simp [intOf]; omega⟩
        · by_cases eB : fc < compact
          all_goals by_cases eA : rev2 < rev
          all_goals first
            | (have hz : Hid (perStep ⟨fh, fc, fr⟩ rev2 al ⟨id, true, hash, compact, rev, err⟩ = al) := by simp [Hid, perStep, perBad, eA, eB, eC]
               skip)
            | (have hz : Hid (perStep ⟨fh, fc, fr⟩ rev2 al ⟨id, true, hash, compact, rev, err⟩ = some (al.getD id)) := by simp [Hid, perStep, perBad, eA, eB, eC]
               skip)
          all_goals
            have hc := H.cells; simp only [CellsOf, KnCells, knc, Nat.reduceAdd] at hc
            repeat' (first | (go_big_may; (first
    | go_skip
    | ((first
        | (go_at_call 41; refine Calls.mono (mism_calls _ id b9 b1 cb hb last ⟨fh, fc, fr⟩ ⟨fh, fc, fr⟩ rev2 2 own _ _ _ _ _ _ _ (H.pick (by repeat (first | exact Picks.nil _ | (apply Picks.wr; focus (repeat (first | exact Split.here _ _ | apply Split.there))) | (apply Picks.rd; focus (repeat (first | exact Split.here _ _ | apply Split.there))))))) ?_; rintro e w' ⟨key9, cap9, rfl, H'⟩; replace H := H.merge (by first | exact Strikes.nil _ | (repeat (first | exact Strikes.nil _ | (apply Strikes.cons; focus (repeat (first | exact Split.here _ _ | apply Split.there)))))) H' rfl; clear H')
        | (refine loud_ rfl ?_; refine wpList_plain rfl (fun K hK => ?_); (first | (refine op_box _ _ rfl H (fun b w' H1 => hK _ _ ?_)) | (refine op_alloc _ rfl (zero_of _ _ rfl) H (fun b w' H1 => hK _ _ ?_)) | (refine op_store _ _ _ rfl rfl rfl H (by repeat (first | exact Split.here _ _ | apply Split.there)) (by kernel_rfl) (by kernel_rfl) (by kernel_rfl) (fun w' H1 => hK _ _ ?_)) | (refine op_buildSlice_all _ _ _ rfl (by first | exact elem25 | exact elem32 | exact elem35 | exact elem36 | exact elem37 | exact elem38 | exact elem41 | exact elem42 | exact elem45 | exact elem57 | exact elem62 | exact elem74 | exact elem98 | exact elem100 | exact elem137 | exact elem178 | exact elem179) (by kernel_rfl) (by kernel_rfl) (by kernel_rfl) H (fun b w' H1 => hK _ _ ?_))); clear hK K; replace H := H1; clear H1)); (try clear hc); (try simp only [nrm, splice, Value.cells, Nat.reduceAdd, Act.eval, Act.put] at H); have hc := H.cells; simp only [CellsOf, KnCells, knc, Nat.reduceAdd] at hc))) | go_values | go_skip | go_guarded | go_step | go_upon | go_back | dsimp only)
            (try simp only [List.append] at H)
            (try simp only [Act.put, slt])
            refine wp_region_plan (.p [0, 1, 2] (.q [3] (.p [4, 5] (.q [6] (.p [7] (.q [8] (.p [9] .done))))))) [] (by kernel_rfl) (by kernel_rfl) (fun _ _ d _ _ h => by cases d <;> exact h) H ?_
            clear H
            (try clear hc)
            intro X nX fX wd hcf hS H
            simp only [CellsOf, KnCells, knc, Nat.reduceAdd] at hcf
            have hc := H.cells
            simp only [CellsOf, KnCells, knc, Nat.reduceAdd] at hc
            iterate 3 (refine plan_p (o := ⟨_, _, _, _, _, _⟩) rfl (fun N hN => ?_); go_big_quiet_step (fail); refine wpQuiet_nil (hN _ ?_); clear hN N)
            refine plan_p0 ?_
            iterate 1 (refine plan_q (o := ⟨_, _, _, _, _, _⟩) rfl (fun N hN => ?_); go_big_quiet_step (fail); refine wpQuiet_nil (hN _ ?_); clear hN N)
            refine plan_q0 ?_
            iterate 2 (refine plan_p (o := ⟨_, _, _, _, _, _⟩) rfl (fun N hN => ?_); go_big_quiet_step (fail); refine wpQuiet_nil (hN _ ?_); clear hN N)
            refine plan_p0 ?_
            iterate 1 (refine plan_q (o := ⟨_, _, _, _, _, _⟩) rfl (fun N hN => ?_); go_big_quiet_step (fail); refine wpQuiet_nil (hN _ ?_); clear hN N)
            refine plan_q0 ?_
            iterate 1 (refine plan_p (o := ⟨_, _, _, _, _, _⟩) rfl (fun N hN => ?_); go_big_quiet_step (fail); refine wpQuiet_nil (hN _ ?_); clear hN N)
            refine plan_p0 ?_
            iterate 1 (refine plan_q (o := ⟨_, _, _, _, _, _⟩) rfl (fun N hN => ?_); go_big_quiet_step (fail); refine wpQuiet_nil (hN _ ?_); clear hN N)
            refine plan_q0 ?_
            iterate 1 (refine plan_p (o := ⟨_, _, _, _, _, _⟩) rfl (fun N hN => ?_); go_big_quiet_step (fail); refine wpQuiet_nil (hN _ ?_); clear hN N)
            refine plan_p0 ?_
            refine plan_done ?_
            repeat' (first | (go_big_may; (first
    | go_skip
    | ((first
        | (go_at_call 41; refine Calls.mono (mism_calls _ id b9 b1 cb hb last ⟨fh, fc, fr⟩ ⟨fh, fc, fr⟩ rev2 2 own _ _ _ _ _ _ _ (H.pick (by repeat (first | exact Picks.nil _ | (apply Picks.wr; focus (repeat (first | exact Split.here _ _ | apply Split.there))) | (apply Picks.rd; focus (repeat (first | exact Split.here _ _ | apply Split.there))))))) ?_; rintro e w' ⟨key9, cap9, rfl, H'⟩; replace H := H.merge (by first | exact Strikes.nil _ | (repeat (first | exact Strikes.nil _ | (apply Strikes.cons; focus (repeat (first | exact Split.here _ _ | apply Split.there)))))) H' rfl; clear H')
        | (refine loud_ rfl ?_; refine wpList_plain rfl (fun K hK => ?_); (first | (refine op_box _ _ rfl H (fun b w' H1 => hK _ _ ?_)) | (refine op_alloc _ rfl (zero_of _ _ rfl) H (fun b w' H1 => hK _ _ ?_)) | (refine op_store _ _ _ rfl rfl rfl H (by repeat (first | exact Split.here _ _ | apply Split.there)) (by kernel_rfl) (by kernel_rfl) (by kernel_rfl) (fun w' H1 => hK _ _ ?_)) | (refine op_buildSlice_all _ _ _ rfl (by first | exact elem25 | exact elem32 | exact elem35 | exact elem36 | exact elem37 | exact elem38 | exact elem41 | exact elem42 | exact elem45 | exact elem57 | exact elem62 | exact elem74 | exact elem98 | exact elem100 | exact elem137 | exact elem178 | exact elem179) (by kernel_rfl) (by kernel_rfl) (by kernel_rfl) H (fun b w' H1 => hK _ _ ?_))); clear hK K; replace H := H1; clear H1)); (try clear hc); (try simp only [nrm, splice, Value.cells, Nat.reduceAdd, Act.eval, Act.put] at H); have hc := H.cells; simp only [CellsOf, KnCells, knc, Nat.reduceAdd] at hc))) | go_values | go_skip | go_guarded | go_step | go_upon | go_back | dsimp only)
            (try simp only [List.append] at H)
            (try simp only [Act.put, slt])
            refine wp_region_plan (.p [0, 1, 2] (.q [3] (.p [4, 5] (.q [6] (.p [7] (.q [8] (.p [9, 10, 11, 12, 13] (.q [14] (.p [15, 16] (.q [17] (.p [18] (.q [19] (.p [20, 21] .done))))))))))))) [] (by kernel_rfl) (by kernel_rfl) (fun _ _ d _ _ h => by cases d <;> exact h) H ?_
            clear H
            (try clear hc)
            intro X nX fX wd hcf hS H
            simp only [CellsOf, KnCells, knc, Nat.reduceAdd] at hcf
            have hc := H.cells
            simp only [CellsOf, KnCells, knc, Nat.reduceAdd] at hc
            iterate 3 (refine plan_p (o := ⟨_, _, _, _, _, _⟩) rfl (fun N hN => ?_); go_big_quiet_step (fail); refine wpQuiet_nil (hN _ ?_); clear hN N)
            refine plan_p0 ?_
            iterate 1 (refine plan_q (o := ⟨_, _, _, _, _, _⟩) rfl (fun N hN => ?_); go_big_quiet_step (fail); refine wpQuiet_nil (hN _ ?_); clear hN N)
            refine plan_q0 ?_
            iterate 2 (refine plan_p (o := ⟨_, _, _, _, _, _⟩) rfl (fun N hN => ?_); go_big_quiet_step (fail); refine wpQuiet_nil (hN _ ?_); clear hN N)
            refine plan_p0 ?_
            iterate 1 (refine plan_q (o := ⟨_, _, _, _, _, _⟩) rfl (fun N hN => ?_); go_big_quiet_step (fail); refine wpQuiet_nil (hN _ ?_); clear hN N)
            refine plan_q0 ?_
            iterate 1 (refine plan_p (o := ⟨_, _, _, _, _, _⟩) rfl (fun N hN => ?_); go_big_quiet_step (fail); refine wpQuiet_nil (hN _ ?_); clear hN N)
            refine plan_p0 ?_
            iterate 1 (refine plan_q (o := ⟨_, _, _, _, _, _⟩) rfl (fun N hN => ?_); go_big_quiet_step (fail); refine wpQuiet_nil (hN _ ?_); clear hN N)
            refine plan_q0 ?_
            iterate 2 (refine plan_p (o := ⟨_, _, _, _, _, _⟩) rfl (fun N hN => ?_); go_big_quiet_step (fail); refine wpQuiet_nil (hN _ ?_); clear hN N)
            first | (refine plan_p_no (o := ⟨_, _, _, _, _, _⟩) rfl rfl rfl rfl (by first | rfl | simp [eC]) ?_; (try simp only [Act.put, slt])) | (iterate 1 (refine plan_p (o := ⟨_, _, _, _, _, _⟩) rfl (fun N hN => ?_); go_big_quiet_step (fail); refine wpQuiet_nil (hN _ ?_); clear hN N))
            first | (refine plan_p_no (o := ⟨_, _, _, _, _, _⟩) rfl rfl rfl rfl (by first | rfl | simp [eC]) ?_; (try simp only [Act.put, slt])) | (iterate 1 (refine plan_p (o := ⟨_, _, _, _, _, _⟩) rfl (fun N hN => ?_); go_big_quiet_step (fail); refine wpQuiet_nil (hN _ ?_); clear hN N))
            first | (refine plan_p_no (o := ⟨_, _, _, _, _, _⟩) rfl rfl rfl rfl (by first | rfl | simp [eC]) ?_; (try simp only [Act.put, slt])) | (iterate 1 (refine plan_p (o := ⟨_, _, _, _, _, _⟩) rfl (fun N hN => ?_); go_big_quiet_step (fail); refine wpQuiet_nil (hN _ ?_); clear hN N))
            refine plan_p0 ?_
            first | (refine plan_q_no (o := ⟨_, _, _, _, _, _⟩) rfl rfl rfl rfl (by first | rfl | simp [eC]) ?_; (try simp only [Act.put, slt])) | (iterate 1 (refine plan_q (o := ⟨_, _, _, _, _, _⟩) rfl (fun N hN => ?_); go_big_quiet_step (fail); refine wpQuiet_nil (hN _ ?_); clear hN N))
            refine plan_q0 ?_
            first | (refine plan_p_no (o := ⟨_, _, _, _, _, _⟩) rfl rfl rfl rfl (by first | rfl | simp [eC]) ?_; (try simp only [Act.put, slt])) | (iterate 1 (refine plan_p (o := ⟨_, _, _, _, _, _⟩) rfl (fun N hN => ?_); go_big_quiet_step (fail); refine wpQuiet_nil (hN _ ?_); clear hN N))
            first | (refine plan_p_no (o := ⟨_, _, _, _, _, _⟩) rfl rfl rfl rfl (by first | rfl | simp [eC]) ?_; (try simp only [Act.put, slt])) | (iterate 1 (refine plan_p (o := ⟨_, _, _, _, _, _⟩) rfl (fun N hN => ?_); go_big_quiet_step (fail); refine wpQuiet_nil (hN _ ?_); clear hN N))
            refine plan_p0 ?_
            first | (refine plan_q_no (o := ⟨_, _, _, _, _, _⟩) rfl rfl rfl rfl (by first | rfl | simp [eC]) ?_; (try simp only [Act.put, slt])) | (iterate 1 (refine plan_q (o := ⟨_, _, _, _, _, _⟩) rfl (fun N hN => ?_); go_big_quiet_step (fail); refine wpQuiet_nil (hN _ ?_); clear hN N))
            refine plan_q0 ?_
            first | (refine plan_p_no (o := ⟨_, _, _, _, _, _⟩) rfl rfl rfl rfl (by first | rfl | simp [eC]) ?_; (try simp only [Act.put, slt])) | (iterate 1 (refine plan_p (o := ⟨_, _, _, _, _, _⟩) rfl (fun N hN => ?_); go_big_quiet_step (fail); refine wpQuiet_nil (hN _ ?_); clear hN N))
            refine plan_p0 ?_
            first | (refine plan_q_no (o := ⟨_, _, _, _, _, _⟩) rfl rfl rfl rfl (by first | rfl | simp [eC]) ?_; (try simp only [Act.put, slt])) | (iterate 1 (refine plan_q (o := ⟨_, _, _, _, _, _⟩) rfl (fun N hN => ?_); go_big_quiet_step (fail); refine wpQuiet_nil (hN _ ?_); clear hN N))
            refine plan_q0 ?_
            first | (refine plan_p_no (o := ⟨_, _, _, _, _, _⟩) rfl rfl rfl rfl (by first | rfl | simp [eC]) ?_; (try simp only [Act.put, slt])) | (iterate 1 (refine plan_p (o := ⟨_, _, _, _, _, _⟩) rfl (fun N hN => ?_); go_big_quiet_step (fail); refine wpQuiet_nil (hN _ ?_); clear hN N))
            iterate 1 (refine plan_p (o := ⟨_, _, _, _, _, _⟩) rfl (fun N hN => ?_); go_big_quiet_step (fail); refine wpQuiet_nil (hN _ ?_); clear hN N)
            refine plan_p0 ?_
            refine plan_done ?_
            repeat' (first | (go_big_may; (first
    | go_skip
    | ((first
        | (go_at_call 41; refine Calls.mono (mism_calls _ id b9 b1 cb hb last ⟨fh, fc, fr⟩ ⟨fh, fc, fr⟩ rev2 2 own _ _ _ _ _ _ _ (H.pick (by repeat (first | exact Picks.nil _ | (apply Picks.wr; focus (repeat (first | exact Split.here _ _ | apply Split.there))) | (apply Picks.rd; focus (repeat (first | exact Split.here _ _ | apply Split.there))))))) ?_; rintro e w' ⟨key9, cap9, rfl, H'⟩; replace H := H.merge (by first | exact Strikes.nil _ | (repeat (first | exact Strikes.nil _ | (apply Strikes.cons; focus (repeat (first | exact Split.here _ _ | apply Split.there)))))) H' rfl; clear H')
        | (refine loud_ rfl ?_; refine wpList_plain rfl (fun K hK => ?_); (first | (refine op_box _ _ rfl H (fun b w' H1 => hK _ _ ?_)) | (refine op_alloc _ rfl (zero_of _ _ rfl) H (fun b w' H1 => hK _ _ ?_)) | (refine op_store _ _ _ rfl rfl rfl H (by repeat (first | exact Split.here _ _ | apply Split.there)) (by kernel_rfl) (by kernel_rfl) (by kernel_rfl) (fun w' H1 => hK _ _ ?_)) | (refine op_buildSlice_all _ _ _ rfl (by first | exact elem25 | exact elem32 | exact elem35 | exact elem36 | exact elem37 | exact elem38 | exact elem41 | exact elem42 | exact elem45 | exact elem57 | exact elem62 | exact elem74 | exact elem98 | exact elem100 | exact elem137 | exact elem178 | exact elem179) (by kernel_rfl) (by kernel_rfl) (by kernel_rfl) H (fun b w' H1 => hK _ _ ?_))); clear hK K; replace H := H1; clear H1)); (try clear hc); (try simp only [nrm, splice, Value.cells, Nat.reduceAdd, Act.eval, Act.put] at H); have hc := H.cells; simp only [CellsOf, KnCells, knc, Nat.reduceAdd] at hc))) | go_values | go_skip | go_guarded | go_step | go_upon | go_back | dsimp only)
            (try simp only [Option.getD_some] at H)
            first
              | exact ⟨⟨j + 1, m + 1, al, _, _, by omega, by go_num, by go_num, by omega, by show _ = _; rw [hstep.out, hz.out], H.sel (by repeat (first | exact Sel.nil _ | (apply Sel.cons; focus (repeat (first | exact Split.here _ _ | apply Split.there)))))⟩, by simp [intOf]; omega⟩
              | exact ⟨⟨j + 1, m + 1, some (al.getD id), _, _, by omega, by go_num, by go_num, by omega, by show _ = _; rw [hstep.out, hz.out], H.sel (by repeat (first | exact Sel.nil _ | (apply Sel.cons; focus (repeat (first | exact Split.here _ _ | apply Split.there)))))⟩, by simp [intOf]; omega⟩
      · obtain ⟨c1, o1, rfl, H2⟩ := H1.elemSoft (Split.there _ (Split.there _ (Split.there _ (Split.there _ (Split.there _ (Split.there _ (Split.there _ (Split.there _ (Split.there _ (Split.here _ _)))))))))) j [pt b] (by show 0 < 1; omega) (by rw [List.length_map, hbl]; show _ + 1 ≤ _; omega) (pt_at hb8.out)
        clear H H1 hj' hbl
        have H := H2
        clear H2
        have hc := H.cells; simp only [CellsOf, KnCells, knc, Nat.reduceAdd] at hc
        repeat' (first | (go_big_may; (first
    | ((first
        | (refine loud_ rfl ?_; refine wpList_plain rfl (fun K hK => ?_); (first | (refine op_box _ _ rfl H (fun b w' H1 => hK _ _ ?_)) | (refine op_alloc _ rfl (zero_of _ _ rfl) H (fun b w' H1 => hK _ _ ?_)) | (refine op_store _ _ _ rfl rfl rfl H (by repeat (first | exact Split.here _ _ | apply Split.there)) (by kernel_rfl) (by kernel_rfl) (by kernel_rfl) (fun w' H1 => hK _ _ ?_)) | (refine op_buildSlice_all _ _ _ rfl (by first | exact elem25 | exact elem32 | exact elem35 | exact elem36 | exact elem37 | exact elem38 | exact elem41 | exact elem42 | exact elem45 | exact elem57 | exact elem62 | exact elem74 | exact elem98 | exact elem100 | exact elem137 | exact elem178 | exact elem179) (by kernel_rfl) (by kernel_rfl) (by kernel_rfl) H (fun b w' H1 => hK _ _ ?_))); clear hK K; replace H := H1; clear H1)); (try clear hc); (try simp only [nrm, splice, Value.cells, Nat.reduceAdd, Act.eval, Act.put] at H); have hc := H.cells; simp only [CellsOf, KnCells, knc, Nat.reduceAdd] at hc))) | go_values | go_skip | go_guarded | go_step | go_upon | go_back | dsimp only)
        refine ⟨⟨j + 1, m, al, key, cap, by omega, by go_num, rfl, by omega, ?_, H.sel (by repeat (first | exact Sel.nil _ | (apply Sel.cons; focus (repeat (first | exact Split.here _ _ | apply Split.there)))))⟩, by simp [intOf]; omega⟩
        show _ = _
        rw [hstep.out]
        rfl
    · obtain rfl : j = n := by omega
      rw [List.take_of_length_le (by rw [hn.out]; omega)] at hal
      have hal9 := hal.out
      subst hal9
      have hc := H.cells; simp only [CellsOf, KnCells, knc, Nat.reduceAdd] at hc
      repeat' (first | (go_big_may; (first
    | ((first
        | (refine loud_ rfl ?_; refine wpList_plain rfl (fun K hK => ?_); (first | (refine op_box _ _ rfl H (fun b w' H1 => hK _ _ ?_)) | (refine op_alloc _ rfl (zero_of _ _ rfl) H (fun b w' H1 => hK _ _ ?_)) | (refine op_store _ _ _ rfl rfl rfl H (by repeat (first | exact Split.here _ _ | apply Split.there)) (by kernel_rfl) (by kernel_rfl) (by kernel_rfl) (fun w' H1 => hK _ _ ?_)) | (refine op_buildSlice_all _ _ _ rfl (by first | exact elem25 | exact elem32 | exact elem35 | exact elem36 | exact elem37 | exact elem38 | exact elem41 | exact elem42 | exact elem45 | exact elem57 | exact elem62 | exact elem74 | exact elem98 | exact elem100 | exact elem137 | exact elem178 | exact elem179) (by kernel_rfl) (by kernel_rfl) (by kernel_rfl) H (fun b w' H1 => hK _ _ ?_))); clear hK K; replace H := H1; clear H1)); (try clear hc); (try simp only [nrm, splice, Value.cells, Nat.reduceAdd, Act.eval, Act.put] at H); have hc := H.cells; simp only [CellsOf, KnCells, knc, Nat.reduceAdd] at hc))) | go_values | go_skip | go_guarded | go_step | go_upon | go_back | dsimp only)
      go_ret
      exact ⟨key, cap, rv, rfl, H.sel (by repeat (first | exact Sel.nil _ | (apply Sel.cons; focus (repeat (first | exact Split.here _ _ | apply Split.there)))))⟩
end Go.Proofs.Ytelddhcggmfloaa
