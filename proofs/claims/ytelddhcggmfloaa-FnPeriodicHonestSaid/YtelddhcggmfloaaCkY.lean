import Derived.Test.YtelddhcggmfloaaCkV
import Derived.Deep.DeepCutAuto
-- MORE
-- SUB2
namespace Go.Proofs.Ytelddhcggmfloaa
set_option linter.unusedVariables false
set_option linter.unusedSimpArgs false
set_option linter.unnecessarySimpa false
open Go Go.RowKit Go.V

/-- An honest answer. -/
def honP (h : KH) (rev : Int) (p : Pr) : Pr := ⟨p.id, p.has, if min p.compact h.compact = h.compact then h.hash else p.hash, min p.compact h.compact, min p.rev rev, p.err⟩
theorem hon_good (h : KH) (rev : Int) (p : Pr) : perBad h rev (honP h rev p) = false := by
  unfold perBad honP
  have h1 : ¬ rev < min p.rev rev := by omega
  have h2 : ¬ h.compact < min p.compact h.compact := by omega
  by_cases h3 : min p.compact h.compact = h.compact
  · simp [h1, h2, h3]
  · simp [h1, h2, h3]
theorem hon_none (h : KH) (rev : Int) (ps : List Pr) : perAl h rev (ps.map (honP h rev)) = none := by
  unfold perAl
  induction ps with
  | nil => rfl
  | cons p ps ih =>
    rw [List.map_cons, List.foldl_cons]
    have : perStep h rev none (honP h rev p) = none := by unfold perStep; rw [hon_good]; rfl
    rw [this]
    exact ih
theorem alN_le (al : Option Int) : alN al ≤ 1 := by cases al <;> simp [alN]
theorem per_first (h : KH) (rev2 own : Int) (ps : List Pr) (src : Option Addr) (n c : Nat) (hn : Hid (ps.length = n)) (hl : n ≤ 2147483647) (w : World) (H : St [] w w [(false, soft src (ps.flatMap Pr.cells))]) :
    Calls Try.prog 10 #[h.val, h.val, .int .i64 rev2, .int .u64 own, .slice src n c] w fun e w' => ∃ key q cap, Hid (q ≤ 1) ∧ e = .returned (sl key q cap) ∧ St [] w w' [] := by
  refine (impPeriodic_calls h rev2 own ps src n c hn hl w H).mono ?_
  rintro e w' ⟨key, cap, rfl, H'⟩
  exact ⟨key, _, cap, alN_le _, rfl, H'.top0⟩
theorem per_second (h : KH) (rev2 own : Int) (ps : List Pr) (key : Option Nat) (n c : Nat) (hn : Hid (ps.length = n)) (hl : n ≤ 2147483647) (w : World) (H : St [] w w [(false, .row key 29 6 n c ((ps.map (honP h rev2)).flatMap Pr.cells))]) :
    Calls Try.prog 10 #[h.val, h.val, .int .i64 rev2, .int .u64 own, sl key n c] w fun e w' => ∃ k2 cap, e = .returned (sl k2 0 cap) ∧ St [] w w' [] := by
  refine (impPeriodic_calls h rev2 own (ps.map (honP h rev2)) _ n c (by rw [List.length_map]; exact hn) hl w ((St.init [] w).soft (lies_of_row1 (H.get (Split.here _ _))))).mono ?_
  rintro e w' ⟨k2, cap, rfl, H'⟩
  rw [hon_none]
  exact ⟨k2, cap, rfl, H'.top0⟩
def AtPh (n : Nat) (o : KH) (rev : Int) (ps : List Pr) (src : Option Addr) (bo : Nat) (w : World) (ov i : Value) (wr : World) : Prop := ∃ (j : Nat) (key : Option Nat) (cap : Nat), j ≤ n ∧ i = .int .i64 j ∧ ov = sl key j cap ∧
  St [] w wr [(true, .row key 29 6 j cap (((ps.take j).map (honP o rev)).flatMap Pr.cells)), (false, .is bo (ckO o)), (false, soft src (ps.flatMap Pr.cells))]
set_option maxRecDepth 8000 in
set_option maxHeartbeats 4000000 in
theorem honest_calls (o : KH) (rev own : Int) (src : Option Addr) (c : Nat) (ps : List Pr) (n : Nat) (hn : Hid (ps.length = n)) (hcp : n ≤ c) (w : World) (H : St [] w w [(false, soft src (ps.flatMap Pr.cells))]) :
    Calls Try.prog 4 #[o.val, .int .i64 rev, .int .u64 own, .slice src n c] w fun e w' => e = .returned (.bool true) ∧ Ext [] w w' := by
  obtain ⟨fh, fc, fr⟩ := o
  by_cases hbig : 2147483647 < (n : Int)
  · go_enter Try.func4, Try.ntmps4
    repeat' (first | (go_big_may; (first
    | ((first
        | (refine loud_ rfl ?_; refine wpList_plain rfl (fun K hK => ?_); (first | (refine op_box _ _ rfl H (fun b w' H1 => hK _ _ ?_)) | (refine op_alloc _ rfl (zero_of _ _ rfl) H (fun b w' H1 => hK _ _ ?_)) | (refine op_store _ _ _ rfl rfl rfl H (by repeat (first | exact Split.here _ _ | apply Split.there)) (by kernel_rfl) (by kernel_rfl) (by kernel_rfl) (fun w' H1 => hK _ _ ?_)) | (refine op_buildSlice_all _ _ _ rfl (by first | exact elem25 | exact elem32 | exact elem35 | exact elem36 | exact elem37 | exact elem38 | exact elem41 | exact elem42 | exact elem45 | exact elem57 | exact elem62 | exact elem74 | exact elem98 | exact elem100 | exact elem137 | exact elem178 | exact elem179) (by kernel_rfl) (by kernel_rfl) (by kernel_rfl) H (fun b w' H1 => hK _ _ ?_))); clear hK K; replace H := H1; clear H1)); (try clear hc); (try simp only [nrm, splice, Value.cells, Nat.reduceAdd, Act.eval, Act.put] at H); have hc := H.cells; simp only [CellsOf, KnCells, knc, Nat.reduceAdd] at hc))) | go_values | go_skip | go_guarded | go_step | go_upon | go_back | dsimp only)
    go_ret
    exact ⟨rfl, H.ext⟩
  have hl : n ≤ 2147483647 := by omega
  go_enter Try.func4, Try.ntmps4
  repeat' (first | (go_big_may; (first
    | ((first
        | (refine loud_ rfl ?_; refine wpList_plain rfl (fun K hK => ?_); (first | (refine op_box _ _ rfl H (fun b w' H1 => hK _ _ ?_)) | (refine op_alloc _ rfl (zero_of _ _ rfl) H (fun b w' H1 => hK _ _ ?_)) | (refine op_store _ _ _ rfl rfl rfl H (by repeat (first | exact Split.here _ _ | apply Split.there)) (by kernel_rfl) (by kernel_rfl) (by kernel_rfl) (fun w' H1 => hK _ _ ?_)) | (refine op_buildSlice_all _ _ _ rfl (by first | exact elem25 | exact elem32 | exact elem35 | exact elem36 | exact elem37 | exact elem38 | exact elem41 | exact elem42 | exact elem45 | exact elem57 | exact elem62 | exact elem74 | exact elem98 | exact elem100 | exact elem137 | exact elem178 | exact elem179) (by kernel_rfl) (by kernel_rfl) (by kernel_rfl) H (fun b w' H1 => hK _ _ ?_))); clear hK K; replace H := H1; clear H1)); (try clear hc); (try simp only [nrm, splice, Value.cells, Nat.reduceAdd, Act.eval, Act.put] at H); have hc := H.cells; simp only [CellsOf, KnCells, knc, Nat.reduceAdd] at hc))) | go_values | go_skip | go_guarded | go_step | go_upon | go_back | dsimp only)
  go_at_call 7
  refine Calls.mono (pgood_calls own src c ps n hn hl hcp _ (H.pick (by repeat (first | exact Picks.nil _ | (apply Picks.wr; focus (repeat (first | exact Split.here _ _ | apply Split.there))) | (apply Picks.rd; focus (repeat (first | exact Split.here _ _ | apply Split.there))))))) ?_
  rintro e9 w' ⟨t, rfl, H', hgood⟩
  replace H := H.of_ext H'
  clear H'
  (try clear hc)
  (try simp only [nrm, splice, Value.cells, Nat.reduceAdd, Act.eval, Act.put] at H); have hc := H.cells; simp only [CellsOf, KnCells, knc, Nat.reduceAdd] at hc
  cases t with
  | false =>
    repeat' (first | (go_big_may; (first
    | ((first
        | (refine loud_ rfl ?_; refine wpList_plain rfl (fun K hK => ?_); (first | (refine op_box _ _ rfl H (fun b w' H1 => hK _ _ ?_)) | (refine op_alloc _ rfl (zero_of _ _ rfl) H (fun b w' H1 => hK _ _ ?_)) | (refine op_store _ _ _ rfl rfl rfl H (by repeat (first | exact Split.here _ _ | apply Split.there)) (by kernel_rfl) (by kernel_rfl) (by kernel_rfl) (fun w' H1 => hK _ _ ?_)) | (refine op_buildSlice_all _ _ _ rfl (by first | exact elem25 | exact elem32 | exact elem35 | exact elem36 | exact elem37 | exact elem38 | exact elem41 | exact elem42 | exact elem45 | exact elem57 | exact elem62 | exact elem74 | exact elem98 | exact elem100 | exact elem137 | exact elem178 | exact elem179) (by kernel_rfl) (by kernel_rfl) (by kernel_rfl) H (fun b w' H1 => hK _ _ ?_))); clear hK K; replace H := H1; clear H1)); (try clear hc); (try simp only [nrm, splice, Value.cells, Nat.reduceAdd, Act.eval, Act.put] at H); have hc := H.cells; simp only [CellsOf, KnCells, knc, Nat.reduceAdd] at hc))) | go_values | go_skip | go_guarded | go_step | go_upon | go_back | dsimp only)
    go_ret
    exact ⟨rfl, H.ext⟩
  | true =>
    have hg := hgood rfl
    clear hgood
    have hn12 : n ≤ 12 := by have := hg.few; rw [hn.out] at this; exact this
    clear hg
    obtain ⟨bo, rfl⟩ : ∃ q, q = b := ⟨_, rfl⟩
    repeat' (first | (go_big_may; (first
    | ((first
        | (refine loud_ rfl ?_; refine wpList_plain rfl (fun K hK => ?_); (first | (refine op_box _ _ rfl H (fun b w' H1 => hK _ _ ?_)) | (refine op_alloc _ rfl (zero_of _ _ rfl) H (fun b w' H1 => hK _ _ ?_)) | (refine op_store _ _ _ rfl rfl rfl H (by repeat (first | exact Split.here _ _ | apply Split.there)) (by kernel_rfl) (by kernel_rfl) (by kernel_rfl) (fun w' H1 => hK _ _ ?_)) | (refine op_buildSlice_all _ _ _ rfl (by first | exact elem25 | exact elem32 | exact elem35 | exact elem36 | exact elem37 | exact elem38 | exact elem41 | exact elem42 | exact elem45 | exact elem57 | exact elem62 | exact elem74 | exact elem98 | exact elem100 | exact elem137 | exact elem178 | exact elem179) (by kernel_rfl) (by kernel_rfl) (by kernel_rfl) H (fun b w' H1 => hK _ _ ?_))); clear hK K; replace H := H1; clear H1)); (try clear hc); (try simp only [nrm, splice, Value.cells, Nat.reduceAdd, Act.eval, Act.put] at H); have hc := H.cells; simp only [CellsOf, KnCells, knc, Nat.reduceAdd] at hc))) | go_values | go_skip | go_guarded | go_step | go_upon | go_back | dsimp only)
    go_at_call 10
    refine Calls.mono (per_first ⟨fh, fc, fr⟩ rev own ps src n c hn hl _ (H.pick (by repeat (first | exact Picks.nil _ | (apply Picks.wr; focus (repeat (first | exact Split.here _ _ | apply Split.there))) | (apply Picks.rd; focus (repeat (first | exact Split.here _ _ | apply Split.there))))))) ?_
    rintro e8 w' ⟨k9, q9, c9, hq9, rfl, H'⟩
    replace H := H.merge (by first | exact Strikes.nil _ | (repeat (first | exact Strikes.nil _ | (apply Strikes.cons; focus (repeat (first | exact Split.here _ _ | apply Split.there)))))) H' rfl
    clear H'
    (try clear hc)
    (try simp only [nrm, splice, Value.cells, Nat.reduceAdd, Act.eval, Act.put] at H); have hc := H.cells; simp only [CellsOf, KnCells, knc, Nat.reduceAdd] at hc
    have hq8 : ¬ (1 : Int) < (q9 : Int) := by have := hq9.out; omega
    repeat' (first | (go_big_may; (first
    | ((first
        | (refine loud_ rfl ?_; refine wpList_plain rfl (fun K hK => ?_); (first | (refine op_box _ _ rfl H (fun b w' H1 => hK _ _ ?_)) | (refine op_alloc _ rfl (zero_of _ _ rfl) H (fun b w' H1 => hK _ _ ?_)) | (refine op_store _ _ _ rfl rfl rfl H (by repeat (first | exact Split.here _ _ | apply Split.there)) (by kernel_rfl) (by kernel_rfl) (by kernel_rfl) (fun w' H1 => hK _ _ ?_)) | (refine op_buildSlice_all _ _ _ rfl (by first | exact elem25 | exact elem32 | exact elem35 | exact elem36 | exact elem37 | exact elem38 | exact elem41 | exact elem42 | exact elem45 | exact elem57 | exact elem62 | exact elem74 | exact elem98 | exact elem100 | exact elem137 | exact elem178 | exact elem179) (by kernel_rfl) (by kernel_rfl) (by kernel_rfl) H (fun b w' H1 => hK _ _ ?_))); clear hK K; replace H := H1; clear H1)); (try clear hc); (try simp only [nrm, splice, Value.cells, Nat.reduceAdd, Act.eval, Act.put] at H); have hc := H.cells; simp only [CellsOf, KnCells, knc, Nat.reduceAdd] at hc))) | go_values | go_skip | go_guarded | go_step | go_upon | go_back | dsimp only)
    have H1 := H.ro (k := .is bo _) (by repeat (first | exact Split.here _ _ | apply Split.there))
    (try simp only [List.append, List.cons_append, List.nil_append] at H1)
    have H0 : St [] w w' [(true, .row none 29 6 0 0 (((ps.take 0).map (honP ⟨fh, fc, fr⟩ rev)).flatMap Pr.cells)), (false, .is bo (ckO ⟨fh, fc, fr⟩)), (false, soft src (ps.flatMap Pr.cells))] := (H1.nilRow 29 6).sel (by repeat (first | exact Sel.nil _ | (apply Sel.cons; focus (repeat (first | exact Split.here _ _ | apply Split.there)))))
    clear H H1 hc
    go_loopw [9, 29] (AtPh n ⟨fh, fc, fr⟩ rev ps src bo w) (fun _ i _ => n - (intOf i).toNat)
    case atStart => exact ⟨0, none, 0, Nat.zero_le _, rfl, rfl, H0⟩
    case round =>
      clear H0
      obtain ⟨j, key, cap, hj, rfl, rfl, H⟩ := hrel
      by_cases hlt : j < n
      · have hj' : j < ps.length := by rw [hn.out]; exact hlt
        have hcat : Hid (ps.take (j + 1) = ps.take j ++ [ps[j]]) := (List.take_append_getElem hj').symm
        obtain ⟨b1, o1, rfl, H1⟩ := H.elemSoft (Split.there _ (Split.there _ (Split.here _ _))) (j * 6) (ps[j]).cells (by show 0 < 6; omega) (by rw [pr_len]; show _ + 6 ≤ _; omega) (fun i hi => flat_at Pr.cells 6 ps (fun _ _ => rfl) j i hj' hi)
        clear H
        have H := H1
        clear H1
        have hmap : Hid (((ps.take (j + 1)).map (honP ⟨fh, fc, fr⟩ rev)).flatMap Pr.cells = ((ps.take j).map (honP ⟨fh, fc, fr⟩ rev)).flatMap Pr.cells ++ (honP ⟨fh, fc, fr⟩ rev ps[j]).cells) := by
          show _ = _
          rw [hcat.out, List.map_append, List.flatMap_append]
          simp
        clear hcat
        generalize ps[j] = p at *
        obtain ⟨id, has, hash, compact, rv9, err⟩ := p
        simp only [Pr.cells] at H
        clear hj'
        by_cases e1 : min compact fc = fc
        · have hcell : (honP ⟨fh, fc, fr⟩ rev ⟨id, has, hash, compact, rv9, err⟩).cells = [.int .u64 id, .bool has, .int .u32 fh, .int .i64 fc, .int .i64 (min rv9 rev), .int .i64 err] := by
            simp only [honP, Pr.cells, e1, if_true]
          rw [hcell] at hmap
          clear hcell
          have hc := H.cells; simp only [CellsOf, KnCells, knc, Nat.reduceAdd] at hc
          repeat' (first | (go_big_may; (first
    | ((first
        | (refine loud_ rfl ?_; refine wpList_plain rfl (fun K hK => ?_); (first | (refine op_append_lit _ _ _ rfl elem25 rfl rfl H (by repeat (first | exact Split.here _ _ | apply Split.there)) (by repeat (first | exact Split.here _ _ | apply Split.there)) (by kernel_rfl) (by kernel_rfl) (by omega) (by unfold maxLen; omega) (fun key cap' w' H1 => hK _ _ ?_)) | (refine op_box _ _ rfl H (fun b w' H1 => hK _ _ ?_)) | (refine op_alloc _ rfl (zero_of _ _ rfl) H (fun b w' H1 => hK _ _ ?_)) | (refine op_store _ _ _ rfl rfl rfl H (by repeat (first | exact Split.here _ _ | apply Split.there)) (by kernel_rfl) (by kernel_rfl) (by kernel_rfl) (fun w' H1 => hK _ _ ?_)) | (refine op_buildSlice_all _ _ _ rfl (by first | exact elem25 | exact elem32 | exact elem35 | exact elem36 | exact elem37 | exact elem38 | exact elem41 | exact elem42 | exact elem45 | exact elem57 | exact elem62 | exact elem74 | exact elem98 | exact elem100 | exact elem137 | exact elem178 | exact elem179) (by kernel_rfl) (by kernel_rfl) (by kernel_rfl) H (fun b w' H1 => hK _ _ ?_))); clear hK K; replace H := H1; clear H1)); (try clear hc); (try simp only [nrm, splice, Value.cells, Nat.reduceAdd, Act.eval, Act.put] at H); have hc := H.cells; simp only [CellsOf, KnCells, knc, Nat.reduceAdd] at hc))) | go_values | go_skip | go_guarded | go_step | go_upon | go_back | dsimp only)
          refine ⟨⟨j + 1, key, cap', by omega, by go_num, rfl, ?_⟩, by simp [intOf]; omega⟩
          rw [hmap.out]
          exact H.sel (by repeat (first | exact Sel.nil _ | (apply Sel.cons; focus (repeat (first | exact Split.here _ _ | apply Split.there)))))
        · have hcell : (honP ⟨fh, fc, fr⟩ rev ⟨id, has, hash, compact, rv9, err⟩).cells = [.int .u64 id, .bool has, .int .u32 hash, .int .i64 (min compact fc), .int .i64 (min rv9 rev), .int .i64 err] := by
            simp only [honP, Pr.cells, if_neg e1]
          rw [hcell] at hmap
          clear hcell
          have hc := H.cells; simp only [CellsOf, KnCells, knc, Nat.reduceAdd] at hc
          repeat' (first | (go_big_may; (first
    | ((first
        | (refine loud_ rfl ?_; refine wpList_plain rfl (fun K hK => ?_); (first | (refine op_append_lit _ _ _ rfl elem25 rfl rfl H (by repeat (first | exact Split.here _ _ | apply Split.there)) (by repeat (first | exact Split.here _ _ | apply Split.there)) (by kernel_rfl) (by kernel_rfl) (by omega) (by unfold maxLen; omega) (fun key cap' w' H1 => hK _ _ ?_)) | (refine op_box _ _ rfl H (fun b w' H1 => hK _ _ ?_)) | (refine op_alloc _ rfl (zero_of _ _ rfl) H (fun b w' H1 => hK _ _ ?_)) | (refine op_store _ _ _ rfl rfl rfl H (by repeat (first | exact Split.here _ _ | apply Split.there)) (by kernel_rfl) (by kernel_rfl) (by kernel_rfl) (fun w' H1 => hK _ _ ?_)) | (refine op_buildSlice_all _ _ _ rfl (by first | exact elem25 | exact elem32 | exact elem35 | exact elem36 | exact elem37 | exact elem38 | exact elem41 | exact elem42 | exact elem45 | exact elem57 | exact elem62 | exact elem74 | exact elem98 | exact elem100 | exact elem137 | exact elem178 | exact elem179) (by kernel_rfl) (by kernel_rfl) (by kernel_rfl) H (fun b w' H1 => hK _ _ ?_))); clear hK K; replace H := H1; clear H1)); (try clear hc); (try simp only [nrm, splice, Value.cells, Nat.reduceAdd, Act.eval, Act.put] at H); have hc := H.cells; simp only [CellsOf, KnCells, knc, Nat.reduceAdd] at hc))) | go_values | go_skip | go_guarded | go_step | go_upon | go_back | dsimp only)
          refine ⟨⟨j + 1, key, cap', by omega, by go_num, rfl, ?_⟩, by simp [intOf]; omega⟩
          rw [hmap.out]
          exact H.sel (by repeat (first | exact Sel.nil _ | (apply Sel.cons; focus (repeat (first | exact Split.here _ _ | apply Split.there)))))
      · obtain rfl : j = n := by omega
        rw [List.take_of_length_le (by rw [hn.out]; omega)] at H
        have hc := H.cells; simp only [CellsOf, KnCells, knc, Nat.reduceAdd] at hc
        repeat' (first | (go_big_may; (first
    | ((first
        | (refine loud_ rfl ?_; refine wpList_plain rfl (fun K hK => ?_); (first | (refine op_box _ _ rfl H (fun b w' H1 => hK _ _ ?_)) | (refine op_alloc _ rfl (zero_of _ _ rfl) H (fun b w' H1 => hK _ _ ?_)) | (refine op_store _ _ _ rfl rfl rfl H (by repeat (first | exact Split.here _ _ | apply Split.there)) (by kernel_rfl) (by kernel_rfl) (by kernel_rfl) (fun w' H1 => hK _ _ ?_)) | (refine op_buildSlice_all _ _ _ rfl (by first | exact elem25 | exact elem32 | exact elem35 | exact elem36 | exact elem37 | exact elem38 | exact elem41 | exact elem42 | exact elem45 | exact elem57 | exact elem62 | exact elem74 | exact elem98 | exact elem100 | exact elem137 | exact elem178 | exact elem179) (by kernel_rfl) (by kernel_rfl) (by kernel_rfl) H (fun b w' H1 => hK _ _ ?_))); clear hK K; replace H := H1; clear H1)); (try clear hc); (try simp only [nrm, splice, Value.cells, Nat.reduceAdd, Act.eval, Act.put] at H); have hc := H.cells; simp only [CellsOf, KnCells, knc, Nat.reduceAdd] at hc))) | go_values | go_skip | go_guarded | go_step | go_upon | go_back | dsimp only)
        go_at_call 10
        refine Calls.mono (per_second ⟨fh, fc, fr⟩ rev own ps key j cap hn hl _ (H.pick (by repeat (first | exact Picks.nil _ | (apply Picks.wr; focus (repeat (first | exact Split.here _ _ | apply Split.there))) | (apply Picks.rd; focus (repeat (first | exact Split.here _ _ | apply Split.there))))))) ?_
        rintro e8 w' ⟨k2, c2, rfl, H'⟩
        replace H := H.merge (by first | exact Strikes.nil _ | (repeat (first | exact Strikes.nil _ | (apply Strikes.cons; focus (repeat (first | exact Split.here _ _ | apply Split.there)))))) H' rfl
        clear H'
        (try clear hc)
        (try simp only [nrm, splice, Value.cells, Nat.reduceAdd, Act.eval, Act.put] at H); have hc := H.cells; simp only [CellsOf, KnCells, knc, Nat.reduceAdd] at hc
        repeat' (first | (go_big_may; (first
    | go_skip
    | ((first
        | (go_at_call 9; refine Calls.mono (awake_calls _) ?_; rintro e w' ⟨rfl, H'⟩; replace H := H.of_ext H'; clear H')
        | (refine loud_ rfl ?_; refine wpList_plain rfl (fun K hK => ?_); (first | (refine op_box _ _ rfl H (fun b w' H1 => hK _ _ ?_)) | (refine op_alloc _ rfl (zero_of _ _ rfl) H (fun b w' H1 => hK _ _ ?_)) | (refine op_store _ _ _ rfl rfl rfl H (by repeat (first | exact Split.here _ _ | apply Split.there)) (by kernel_rfl) (by kernel_rfl) (by kernel_rfl) (fun w' H1 => hK _ _ ?_)) | (refine op_buildSlice_all _ _ _ rfl (by first | exact elem25 | exact elem32 | exact elem35 | exact elem36 | exact elem37 | exact elem38 | exact elem41 | exact elem42 | exact elem45 | exact elem57 | exact elem62 | exact elem74 | exact elem98 | exact elem100 | exact elem137 | exact elem178 | exact elem179) (by kernel_rfl) (by kernel_rfl) (by kernel_rfl) H (fun b w' H1 => hK _ _ ?_))); clear hK K; replace H := H1; clear H1)); (try clear hc); (try simp only [nrm, splice, Value.cells, Nat.reduceAdd, Act.eval, Act.put] at H); have hc := H.cells; simp only [CellsOf, KnCells, knc, Nat.reduceAdd] at hc))) | go_values | go_skip | go_guarded | go_step | go_upon | go_back | dsimp only)
        go_ret
        exact ⟨rfl, H.ext⟩
end Go.Proofs.Ytelddhcggmfloaa
