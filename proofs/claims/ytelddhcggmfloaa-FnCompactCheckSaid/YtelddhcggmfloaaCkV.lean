import Derived.Test.YtelddhcggmfloaaCkH
import Derived.Test.YtelddhcggmfloaaCkE
import Derived.Test.YtelddhcggmfloaaCkU
-- MORE
-- SUB2
namespace Go.Proofs.Ytelddhcggmfloaa
set_option linter.unusedVariables false
set_option linter.unusedSimpArgs false
set_option linter.unnecessarySimpa false
open Go Go.RowKit Go.V

theorem pr_ones (l : List Pr) : One (l.flatMap Pr.cells) := by
  intro u hu
  obtain ⟨h, _, hu⟩ := List.mem_flatMap.1 hu
  obtain ⟨a, b, c, d, e, f⟩ := h
  simp only [Pr.cells, List.mem_cons, List.not_mem_nil, or_false] at hu
  rcases hu with rfl | rfl | rfl | rfl | rfl | rfl <;> rfl
theorem lit_rowN {S : List Nat} {w0 w : World} {L A B : List Ent} {b : Nat} {T : TypeId} {cs : Array Value} (k : Nat) (H : St S w0 w L) (hs : Split L (true, .is b (.cells cs T (0, 0))) A B) (hk : cs.size = 1 * k) : St S w0 w (A ++ (true, .row (some b) T k 1 1 cs.toList) :: B) :=
  H.turn hs (Ext.refl _ _) ⟨cs, H.obj hs, hk, Nat.le_refl _, by unfold maxLen; omega, by rw [List.take_of_length_le (by simp [hk])]⟩ rfl
theorem pr_nil_len {w : World} {l : List Pr} {n : Nat} {src : Option Addr} (h : Lies w src (l.flatMap Pr.cells)) (hn : l.length = n) : src = none → n = 0 := by
  intro hs
  have := congrArg List.length (h.1 hs)
  rw [pr_len] at this
  simp only [List.length_nil] at this
  omega
def selO (o : KH) (p : Pr) : Bool := p.has && decide (p.compact = o.compact)
theorem count_other (o : KH) (ps : List Pr) : ((ps.filter (selO o)).reverse).countP (iniBad o) = ps.countP (iniBad o) := by
  rw [List.countP_reverse, List.countP_filter]
  congr 1
  funext p
  unfold iniBad selO
  cases p.has <;> by_cases h : o.compact = p.compact
  · simp
  · simp
  · simp [h]
  · simp [h]
theorem impInitial_row (f : KH) (ps : List Pr) (key : Option Nat) (n c : Nat) (hn : Hid (((ps.filter (selO f)).reverse).length = n)) (hl : n ≤ 2147483647) (w : World) (H : St [] w w [(false, .row key 29 6 n c (((ps.filter (selO f)).reverse).flatMap Pr.cells))]) :
    Calls Try.prog 8 #[f.val, sl key n c] w fun e w' => e = .returned (.bool (decide (ps.countP (iniBad f) = 0))) ∧ Ext [] w w' := by
  have h := impInitial_calls f _ _ n c hn hl w ((St.init [] w).soft (lies_of_row1 (H.get (Split.here _ _))))
  rw [count_other] at h
  exact h
theorem impInitial_both (f : KH) (ps : List Pr) (src : Option Addr) (n c : Nat) (key : Option Nat) (m cap : Nat) (hn : Hid (ps.length = n)) (hm : Hid (((ps.filter (selO f)).reverse).length = m)) (hl : n ≤ 2147483647) (hl2 : m ≤ 2147483647) (w : World) (H : St [] w w [(false, soft src (ps.flatMap Pr.cells)), (false, .row key 29 6 m cap (((ps.filter (selO f)).reverse).flatMap Pr.cells))]) (v : Value) (hv : v = .slice src n c ∨ v = sl key m cap) :
    Calls Try.prog 8 #[f.val, v] w fun e w' => e = .returned (.bool (decide (ps.countP (iniBad f) = 0))) ∧ Ext [] w w' := by
  rcases hv with rfl | rfl
  · exact impInitial_calls f ps src n c hn hl w (H.pick (by repeat (first | exact Picks.nil _ | (apply Picks.wr; focus (repeat (first | exact Split.here _ _ | apply Split.there))) | (apply Picks.rd; focus (repeat (first | exact Split.here _ _ | apply Split.there))))))
  · exact impInitial_row f ps key m cap hm hl2 w (H.pick (by repeat (first | exact Picks.nil _ | (apply Picks.wr; focus (repeat (first | exact Split.here _ _ | apply Split.there))) | (apply Picks.rd; focus (repeat (first | exact Split.here _ _ | apply Split.there))))))
abbrev ckO (h : KH) : Obj := .cells #[.int .u32 h.hash, .int .i64 h.compact, .int .i64 h.rev] 24 (0, 0)
def AtIo (n : Nat) (o : KH) (ps : List Pr) (src : Option Addr) (bo : Nat) (w : World) (ov i : Value) (wr : World) : Prop := ∃ (j m : Nat) (key : Option Nat) (cap : Nat), j ≤ n ∧ i = .int .i64 j ∧ m ≤ j ∧ ov = sl key m cap ∧ Hid (m = ((ps.take j).filter (selO o)).reverse.length) ∧
  St [] w wr [(true, .row key 29 6 m cap ((((ps.take j).filter (selO o)).reverse).flatMap Pr.cells)), (false, .is bo (ckO o)), (false, soft src (ps.flatMap Pr.cells))]
set_option maxRecDepth 8000 in
set_option maxHeartbeats 4000000 in
theorem initialOrder_calls (o : KH) (src : Option Addr) (c : Nat) (ps : List Pr) (n : Nat) (hn : Hid (ps.length = n)) (hcp : n ≤ c) (w : World) (H : St [] w w [(false, soft src (ps.flatMap Pr.cells))]) :
    Calls Try.prog 3 #[o.val, .slice src n c] w fun e w' => e = .returned (.bool true) ∧ Ext [] w w' := by
  obtain ⟨fh, fc, fr⟩ := o
  by_cases hbig : 2147483647 < (n : Int)
  · go_enter Try.func3, Try.ntmps3
    repeat' (first | (go_big_may; (first
    | ((first
        | (refine loud_ rfl ?_; refine wpList_plain rfl (fun K hK => ?_); (first | (refine op_box _ _ rfl H (fun b w' H1 => hK _ _ ?_)) | (refine op_alloc _ rfl (zero_of _ _ rfl) H (fun b w' H1 => hK _ _ ?_)) | (refine op_store _ _ _ rfl rfl rfl H (by repeat (first | exact Split.here _ _ | apply Split.there)) (by kernel_rfl) (by kernel_rfl) (by kernel_rfl) (fun w' H1 => hK _ _ ?_)) | (refine op_buildSlice_all _ _ _ rfl (by first | exact elem25 | exact elem32 | exact elem35 | exact elem36 | exact elem37 | exact elem38 | exact elem41 | exact elem42 | exact elem45 | exact elem57 | exact elem62 | exact elem74 | exact elem98 | exact elem100 | exact elem137 | exact elem178 | exact elem179) (by kernel_rfl) (by kernel_rfl) (by kernel_rfl) H (fun b w' H1 => hK _ _ ?_))); clear hK K; replace H := H1; clear H1)); (try clear hc); (try simp only [nrm, splice, Value.cells, Nat.reduceAdd, Act.eval, Act.put] at H); have hc := H.cells; simp only [CellsOf, KnCells, knc, Nat.reduceAdd] at hc))) | go_values | go_skip | go_guarded | go_step | go_upon | go_back | dsimp only)
    go_ret
    exact ⟨rfl, H.ext⟩
  have hl : n ≤ 2147483647 := by omega
  go_enter Try.func3, Try.ntmps3
  repeat' (first | (go_big_may; (first
    | ((first
        | (refine loud_ rfl ?_; refine wpList_plain rfl (fun K hK => ?_); (first | (refine op_box _ _ rfl H (fun b w' H1 => hK _ _ ?_)) | (refine op_alloc _ rfl (zero_of _ _ rfl) H (fun b w' H1 => hK _ _ ?_)) | (refine op_store _ _ _ rfl rfl rfl H (by repeat (first | exact Split.here _ _ | apply Split.there)) (by kernel_rfl) (by kernel_rfl) (by kernel_rfl) (fun w' H1 => hK _ _ ?_)) | (refine op_buildSlice_all _ _ _ rfl (by first | exact elem25 | exact elem32 | exact elem35 | exact elem36 | exact elem37 | exact elem38 | exact elem41 | exact elem42 | exact elem45 | exact elem57 | exact elem62 | exact elem74 | exact elem98 | exact elem100 | exact elem137 | exact elem178 | exact elem179) (by kernel_rfl) (by kernel_rfl) (by kernel_rfl) H (fun b w' H1 => hK _ _ ?_))); clear hK K; replace H := H1; clear H1)); (try clear hc); (try simp only [nrm, splice, Value.cells, Nat.reduceAdd, Act.eval, Act.put] at H); have hc := H.cells; simp only [CellsOf, KnCells, knc, Nat.reduceAdd] at hc))) | go_values | go_skip | go_guarded | go_step | go_upon | go_back | dsimp only)
  go_at_call 7
  refine Calls.mono (pgood_calls 0 src c ps n hn hl hcp _ (H.pick (by repeat (first | exact Picks.nil _ | (apply Picks.wr; focus (repeat (first | exact Split.here _ _ | apply Split.there))) | (apply Picks.rd; focus (repeat (first | exact Split.here _ _ | apply Split.there))))))) ?_
  rintro e9 w' ⟨t, rfl, H', hgood⟩
  replace H := H.of_ext H'
  clear H'
  (try clear hc)
  (try simp only [nrm, splice, Value.cells, Nat.reduceAdd, Act.eval, Act.put] at H); have hc := H.cells; simp only [CellsOf, KnCells, knc, Nat.reduceAdd] at hc
  cases t with
  | false =>
    repeat' (first | (go_big_may; (first
    | ((first
        | (refine loud_ rfl ?_; refine wpList_plain rfl (fun K hK => ?_); (first | (refine op_box _ _ rfl H (fun b w' H1 => hK _ _ ?_)) | (refine op_alloc _ rfl (zero_of _ _ rfl) H (fun b w' H1 => hK _ _ ?_)) | (refine op_store _ _ _ rfl rfl rfl H (by repeat (first | exact Split.here _ _ | apply Split.there)) (by kernel_rfl) (by kernel_rfl) (by kernel_rfl) (fun w' H1 => hK _ _ ?_)) | (refine op_buildSlice_all _ _ _ rfl (by first | exact elem25 | exact elem32 | exact elem35 | exact elem36 | exact elem37 | exact elem38 | exact elem41 | exact elem42 | exact elem45 | exact elem57 | exact elem62 | exact elem74 | exact elem98 | exact elem100 | exact elem137 | exact elem178 | exact elem179) (by kernel_rfl) (by kernel_rfl) (by kernel_rfl) H (fun b w' H1 => hK _ _ ?_))); clear hK K; replace H := H1; clear H1)); (try clear hc); (try simp only [nrm, splice, Value.cells, Nat.reduceAdd, Act.eval, Act.put] at H); have hc := H.cells; simp only [CellsOf, KnCells, knc, Nat.reduceAdd] at hc))) | go_values | go_skip | go_guarded | go_step | go_upon | go_back | dsimp only)
    go_ret
    exact ⟨rfl, H.ext⟩
  | true =>
    have hg := hgood rfl
    clear hgood
    have hn12 : n ≤ 12 := by have := hg.few; rw [hn.out] at this; exact this
    clear hg
    repeat' (first | (go_big_may; (first
    | ((first
        | (refine loud_ rfl ?_; refine wpList_plain rfl (fun K hK => ?_); (first | (refine op_box _ _ rfl H (fun b w' H1 => hK _ _ ?_)) | (refine op_alloc _ rfl (zero_of _ _ rfl) H (fun b w' H1 => hK _ _ ?_)) | (refine op_store _ _ _ rfl rfl rfl H (by repeat (first | exact Split.here _ _ | apply Split.there)) (by kernel_rfl) (by kernel_rfl) (by kernel_rfl) (fun w' H1 => hK _ _ ?_)) | (refine op_buildSlice_all _ _ _ rfl (by first | exact elem25 | exact elem32 | exact elem35 | exact elem36 | exact elem37 | exact elem38 | exact elem41 | exact elem42 | exact elem45 | exact elem57 | exact elem62 | exact elem74 | exact elem98 | exact elem100 | exact elem137 | exact elem178 | exact elem179) (by kernel_rfl) (by kernel_rfl) (by kernel_rfl) H (fun b w' H1 => hK _ _ ?_))); clear hK K; replace H := H1; clear H1)); (try clear hc); (try simp only [nrm, splice, Value.cells, Nat.reduceAdd, Act.eval, Act.put] at H); have hc := H.cells; simp only [CellsOf, KnCells, knc, Nat.reduceAdd] at hc))) | go_values | go_skip | go_guarded | go_step | go_upon | go_back | dsimp only)
    obtain ⟨bo, rfl⟩ : ∃ q, q = b := ⟨_, rfl⟩
    have H1 := H.ro (k := .is bo _) (by repeat (first | exact Split.here _ _ | apply Split.there))
    (try simp only [List.append, List.cons_append, List.nil_append] at H1)
    have H0 : St [] w w' [(true, .row none 29 6 0 0 ((((ps.take 0).filter (selO ⟨fh, fc, fr⟩)).reverse).flatMap Pr.cells)), (false, .is bo (ckO ⟨fh, fc, fr⟩)), (false, soft src (ps.flatMap Pr.cells))] := (H1.nilRow 29 6).sel (by repeat (first | exact Sel.nil _ | (apply Sel.cons; focus (repeat (first | exact Split.here _ _ | apply Split.there)))))
    clear H H1 hc
    go_loopw [5, 16] (AtIo n ⟨fh, fc, fr⟩ ps src bo w) (fun _ i _ => n - (intOf i).toNat)
    case atStart => exact ⟨0, 0, none, 0, Nat.zero_le _, rfl, Nat.le_refl _, rfl, rfl, H0⟩
    case round =>
      clear H0
      obtain ⟨j, m, key, cap, hj, rfl, hmj, rfl, hm, H⟩ := hrel
      by_cases hlt : j < n
      · have hj' : j < ps.length := by rw [hn.out]; exact hlt
        have hcat : Hid (ps.take (j + 1) = ps.take j ++ [ps[j]]) := (List.take_append_getElem hj').symm
        obtain ⟨b1, o1, rfl, H1⟩ := H.elemSoft (Split.there _ (Split.there _ (Split.here _ _))) (j * 6) (ps[j]).cells (by show 0 < 6; omega) (by rw [pr_len]; show _ + 6 ≤ _; omega) (fun i hi => flat_at Pr.cells 6 ps (fun _ _ => rfl) j i hj' hi)
        clear H
        have H := H1
        clear H1
        generalize ps[j] = p at *
        obtain ⟨id, has, hash, compact, rev, err⟩ := p
        simp only [Pr.cells] at H
        clear hj'
        have hnil : Hid ((key.map fun b => (⟨b, 0, none⟩ : Addr)) = none → m = 0) := by
          intro h9
          have := H.get (k := .row key 29 6 m cap ((((ps.take j).filter (selO ⟨fh, fc, fr⟩)).reverse).flatMap Pr.cells)) (by repeat (first | exact Split.here _ _ | apply Split.there))
          cases key with
          | none => exact this.1
          | some b => cases h9
        have hf : Hid (((ps.take (j + 1)).filter (selO ⟨fh, fc, fr⟩)).reverse = (if selO ⟨fh, fc, fr⟩ ⟨id, has, hash, compact, rev, err⟩ then [(⟨id, has, hash, compact, rev, err⟩ : Pr)] else []) ++ ((ps.take j).filter (selO ⟨fh, fc, fr⟩)).reverse) := by
          show _ = _
          rw [hcat.out, List.filter_append, List.reverse_append]
          congr 1
          by_cases h9 : selO ⟨fh, fc, fr⟩ ⟨id, has, hash, compact, rev, err⟩ = true
          · simp [h9]
          · simp [h9]
        clear hcat
        cases has
        · have hs : selO ⟨fh, fc, fr⟩ ⟨id, false, hash, compact, rev, err⟩ = false := rfl
          rw [hs, if_neg (by decide), List.nil_append] at hf
          have hc := H.cells; simp only [CellsOf, KnCells, knc, Nat.reduceAdd] at hc
          repeat' (first | (go_big_may; (first
    | ((first
        | (refine loud_ rfl ?_; refine wpList_plain rfl (fun K hK => ?_); (first | (refine op_box _ _ rfl H (fun b w' H1 => hK _ _ ?_)) | (refine op_alloc _ rfl (zero_of _ _ rfl) H (fun b w' H1 => hK _ _ ?_)) | (refine op_store _ _ _ rfl rfl rfl H (by repeat (first | exact Split.here _ _ | apply Split.there)) (by kernel_rfl) (by kernel_rfl) (by kernel_rfl) (fun w' H1 => hK _ _ ?_)) | (refine op_buildSlice_all _ _ _ rfl (by first | exact elem25 | exact elem32 | exact elem35 | exact elem36 | exact elem37 | exact elem38 | exact elem41 | exact elem42 | exact elem45 | exact elem57 | exact elem62 | exact elem74 | exact elem98 | exact elem100 | exact elem137 | exact elem178 | exact elem179) (by kernel_rfl) (by kernel_rfl) (by kernel_rfl) H (fun b w' H1 => hK _ _ ?_))); clear hK K; replace H := H1; clear H1)); (try clear hc); (try simp only [nrm, splice, Value.cells, Nat.reduceAdd, Act.eval, Act.put] at H); have hc := H.cells; simp only [CellsOf, KnCells, knc, Nat.reduceAdd] at hc))) | go_values | go_skip | go_guarded | go_step | go_upon | go_back | dsimp only)
          exact ⟨⟨j + 1, m, key, cap, by omega, by go_num, by omega, rfl, by show m = _; rw [hf.out]; exact hm.out, by rw [hf.out]; exact H.sel (by repeat (first | exact Sel.nil _ | (apply Sel.cons; focus (repeat (first | exact Split.here _ _ | apply Split.there)))))⟩, by simp [intOf]; omega⟩
        · by_cases e1 : compact = fc
          · subst e1
            have hs : selO ⟨fh, compact, fr⟩ ⟨id, true, hash, compact, rev, err⟩ = true := by simp [selO]
            rw [hs, if_pos rfl] at hf
            have hc := H.cells; simp only [CellsOf, KnCells, knc, Nat.reduceAdd] at hc
            repeat' (first | (go_big_may; (first
    | ((first
        | (refine loud_ rfl ?_; refine wpList_plain rfl (fun K hK => ?_); (first | (refine op_append_lies _ _ _ rfl elem25 (key := some b) (n := 1) (cap := 1) (m := m) (ys := (((ps.take j).filter (selO ⟨fh, compact, fr⟩)).reverse).flatMap Pr.cells) rfl rfl (lit_rowN 6 H (b := b) (by repeat (first | exact Split.here _ _ | apply Split.there)) rfl) (Split.here _ _) (lies_of_row1 (H.get (k := .row key 29 6 m cap ((((ps.take j).filter (selO ⟨fh, compact, fr⟩)).reverse).flatMap Pr.cells)) (by repeat (first | exact Split.here _ _ | apply Split.there)))) (by rw [pr_len, ← hm.out]) hnil.out (pr_ones _) (by omega) (by unfold maxLen; omega) (fun key2 cap2 w' H1 => hK _ _ ?_)) | (refine op_box _ _ rfl H (fun b w' H1 => hK _ _ ?_)) | (refine op_alloc _ rfl (zero_of _ _ rfl) H (fun b w' H1 => hK _ _ ?_)) | (refine op_store _ _ _ rfl rfl rfl H (by repeat (first | exact Split.here _ _ | apply Split.there)) (by kernel_rfl) (by kernel_rfl) (by kernel_rfl) (fun w' H1 => hK _ _ ?_)) | (refine op_buildSlice_all _ _ _ rfl (by first | exact elem25 | exact elem32 | exact elem35 | exact elem36 | exact elem37 | exact elem38 | exact elem41 | exact elem42 | exact elem45 | exact elem57 | exact elem62 | exact elem74 | exact elem98 | exact elem100 | exact elem137 | exact elem178 | exact elem179) (by kernel_rfl) (by kernel_rfl) (by kernel_rfl) H (fun b w' H1 => hK _ _ ?_))); clear hK K; replace H := H1; clear H1)); (try clear hc); (try simp only [nrm, splice, Value.cells, Nat.reduceAdd, Act.eval, Act.put] at H); have hc := H.cells; simp only [CellsOf, KnCells, knc, Nat.reduceAdd] at hc))) | go_values | go_skip | go_guarded | go_step | go_upon | go_back | dsimp only)
            have e9 : ((ps.take (j + 1)).filter (selO ⟨fh, compact, fr⟩)).reverse.flatMap Pr.cells = .int .u64 id :: .bool true :: .int .u32 hash :: .int .i64 compact :: .int .i64 rev :: .int .i64 err :: (((ps.take j).filter (selO ⟨fh, compact, fr⟩)).reverse).flatMap Pr.cells := by
              rw [hf.out]
              rfl
            have hm9 : Hid (1 + m = ((ps.take (j + 1)).filter (selO ⟨fh, compact, fr⟩)).reverse.length) := by
              show _ = _
              rw [hf.out, List.length_append, ← hm.out]
              rfl
            refine ⟨⟨j + 1, 1 + m, key2, cap2, by omega, by go_num, by omega, rfl, hm9, ?_⟩, by simp [intOf]; omega⟩
            rw [e9]
            exact H.sel (by repeat (first | exact Sel.nil _ | (apply Sel.cons; focus (repeat (first | exact Split.here _ _ | apply Split.there)))))
          · have hs : selO ⟨fh, fc, fr⟩ ⟨id, true, hash, compact, rev, err⟩ = false := by simp [selO, e1]
            rw [hs, if_neg (by decide), List.nil_append] at hf
            have hc := H.cells; simp only [CellsOf, KnCells, knc, Nat.reduceAdd] at hc
            repeat' (first | (go_big_may; (first
    | ((first
        | (refine loud_ rfl ?_; refine wpList_plain rfl (fun K hK => ?_); (first | (refine op_box _ _ rfl H (fun b w' H1 => hK _ _ ?_)) | (refine op_alloc _ rfl (zero_of _ _ rfl) H (fun b w' H1 => hK _ _ ?_)) | (refine op_store _ _ _ rfl rfl rfl H (by repeat (first | exact Split.here _ _ | apply Split.there)) (by kernel_rfl) (by kernel_rfl) (by kernel_rfl) (fun w' H1 => hK _ _ ?_)) | (refine op_buildSlice_all _ _ _ rfl (by first | exact elem25 | exact elem32 | exact elem35 | exact elem36 | exact elem37 | exact elem38 | exact elem41 | exact elem42 | exact elem45 | exact elem57 | exact elem62 | exact elem74 | exact elem98 | exact elem100 | exact elem137 | exact elem178 | exact elem179) (by kernel_rfl) (by kernel_rfl) (by kernel_rfl) H (fun b w' H1 => hK _ _ ?_))); clear hK K; replace H := H1; clear H1)); (try clear hc); (try simp only [nrm, splice, Value.cells, Nat.reduceAdd, Act.eval, Act.put] at H); have hc := H.cells; simp only [CellsOf, KnCells, knc, Nat.reduceAdd] at hc))) | go_values | go_skip | go_guarded | go_step | go_upon | go_back | dsimp only)
            exact ⟨⟨j + 1, m, key, cap, by omega, by go_num, by omega, rfl, by show m = _; rw [hf.out]; exact hm.out, by rw [hf.out]; exact H.sel (by repeat (first | exact Sel.nil _ | (apply Sel.cons; focus (repeat (first | exact Split.here _ _ | apply Split.there)))))⟩, by simp [intOf]; omega⟩
      · obtain rfl : j = n := by omega
        rw [List.take_of_length_le (by rw [hn.out]; omega)] at hm H
        have hc := H.cells; simp only [CellsOf, KnCells, knc, Nat.reduceAdd] at hc
        repeat' (first | (go_big_may; (first
    | ((first
        | (refine loud_ rfl ?_; refine wpList_plain rfl (fun K hK => ?_); (first | (refine op_box _ _ rfl H (fun b w' H1 => hK _ _ ?_)) | (refine op_alloc _ rfl (zero_of _ _ rfl) H (fun b w' H1 => hK _ _ ?_)) | (refine op_store _ _ _ rfl rfl rfl H (by repeat (first | exact Split.here _ _ | apply Split.there)) (by kernel_rfl) (by kernel_rfl) (by kernel_rfl) (fun w' H1 => hK _ _ ?_)) | (refine op_buildSlice_all _ _ _ rfl (by first | exact elem25 | exact elem32 | exact elem35 | exact elem36 | exact elem37 | exact elem38 | exact elem41 | exact elem42 | exact elem45 | exact elem57 | exact elem62 | exact elem74 | exact elem98 | exact elem100 | exact elem137 | exact elem178 | exact elem179) (by kernel_rfl) (by kernel_rfl) (by kernel_rfl) H (fun b w' H1 => hK _ _ ?_))); clear hK K; replace H := H1; clear H1)); (try clear hc); (try simp only [nrm, splice, Value.cells, Nat.reduceAdd, Act.eval, Act.put] at H); have hc := H.cells; simp only [CellsOf, KnCells, knc, Nat.reduceAdd] at hc))) | go_values | go_skip | go_guarded | go_step | go_upon | go_back | dsimp only)
        (try simp only [Act.put, slt])
        refine wp_region_plan (.q [0] (.p [1] (.q [3] (.p [4] (.e 2 (.e 5 (.p [6, 7] (.e 8 (.p [9, 10] .done))))))))) [5, 8] (by kernel_rfl) (by kernel_rfl) (fun _ _ d _ _ h => by cases d <;> exact h) H ?_
        clear H
        (try clear hc)
        intro X nX fX wd hcf hS H
        simp only [CellsOf, KnCells, knc, Nat.reduceAdd] at hcf
        have hc := H.cells
        simp only [CellsOf, KnCells, knc, Nat.reduceAdd] at hc
        iterate 1 (refine plan_q (o := ⟨_, _, _, _, _, _⟩) rfl (fun N hN => ?_); go_big_quiet_step (fail); refine wpQuiet_nil (hN _ ?_); clear hN N)
        refine plan_q0 ?_
        iterate 1 (refine plan_p (o := ⟨_, _, _, _, _, _⟩) rfl (fun N hN => ?_); go_big_quiet_step (fail); refine wpQuiet_nil (hN _ ?_); clear hN N)
        refine plan_p0 ?_
        iterate 1 (refine plan_q (o := ⟨_, _, _, _, _, _⟩) rfl (fun N hN => ?_); go_big_quiet_step (fail); refine wpQuiet_nil (hN _ ?_); clear hN N)
        refine plan_q0 ?_
        iterate 1 (refine plan_p (o := ⟨_, _, _, _, _, _⟩) rfl (fun N hN => ?_); go_big_quiet_step (fail); refine wpQuiet_nil (hN _ ?_); clear hN N)
        refine plan_p0 ?_
        refine plan_e (o := ⟨_, _, _, _, _, _⟩) rfl rfl (fun K hK => ?_)
        (first | (go_step; go_at_call 8; refine Calls.mono (impInitial_both ⟨fh, fc, fr⟩ ps src j c key m cap hn hm.out.symm hl (by omega) _ (H.pick (by repeat (first | exact Picks.nil _ | (apply Picks.wr; focus (repeat (first | exact Split.here _ _ | apply Split.there))) | (apply Picks.rd; focus (repeat (first | exact Split.here _ _ | apply Split.there)))))) _ (by first | exact .inl rfl | exact .inr rfl)) ?_; rintro e w' ⟨rfl, H'⟩; replace H := H.of_ext H'; clear H') | (go_step; go_at_call 9; refine Calls.mono (awake_calls _) ?_; rintro e w' ⟨rfl, H'⟩; replace H := H.of_ext H'; clear H') | (refine op_box _ _ rfl H (fun b w' H1 => ?_); replace H := H1; clear H1) | (refine op_alloc _ rfl (zero_of _ _ rfl) H (fun b w' H1 => ?_); replace H := H1; clear H1) | (refine op_store _ _ _ rfl rfl rfl H (by repeat (first | exact Split.here _ _ | apply Split.there)) (by kernel_rfl) (by kernel_rfl) (by kernel_rfl) (fun w' H1 => ?_); replace H := H1; clear H1) | (refine op_buildSlice_all _ _ _ rfl (by first | exact elem25 | exact elem32 | exact elem35 | exact elem36 | exact elem37 | exact elem38 | exact elem41 | exact elem42 | exact elem45 | exact elem57 | exact elem62 | exact elem74 | exact elem98 | exact elem100 | exact elem137 | exact elem178 | exact elem179) (by kernel_rfl) (by kernel_rfl) (by kernel_rfl) H (fun b w' H1 => ?_); replace H := H1; clear H1)); (try clear hc); (try simp only [nrm, splice, Value.cells, Nat.reduceAdd, Act.eval, Act.put] at H); have hc := H.cells; simp only [CellsOf, KnCells, knc, Nat.reduceAdd] at hc; refine hK _ _ (fun _ _ => hS _ (H.sublist (by repeat (first | exact List.Sublist.refl _ | exact List.nil_sublist _ | apply List.Sublist.cons_cons | apply List.Sublist.cons))).all) ?_; clear hK K; (try simp only [Act.put, slt])
        refine plan_e (o := ⟨_, _, _, _, _, _⟩) rfl rfl (fun K hK => ?_)
        (first | (go_step; go_at_call 8; refine Calls.mono (impInitial_both ⟨fh, fc, fr⟩ ps src j c key m cap hn hm.out.symm hl (by omega) _ (H.pick (by repeat (first | exact Picks.nil _ | (apply Picks.wr; focus (repeat (first | exact Split.here _ _ | apply Split.there))) | (apply Picks.rd; focus (repeat (first | exact Split.here _ _ | apply Split.there)))))) _ (by first | exact .inl rfl | exact .inr rfl)) ?_; rintro e w' ⟨rfl, H'⟩; replace H := H.of_ext H'; clear H') | (go_step; go_at_call 9; refine Calls.mono (awake_calls _) ?_; rintro e w' ⟨rfl, H'⟩; replace H := H.of_ext H'; clear H') | (refine op_box _ _ rfl H (fun b w' H1 => ?_); replace H := H1; clear H1) | (refine op_alloc _ rfl (zero_of _ _ rfl) H (fun b w' H1 => ?_); replace H := H1; clear H1) | (refine op_store _ _ _ rfl rfl rfl H (by repeat (first | exact Split.here _ _ | apply Split.there)) (by kernel_rfl) (by kernel_rfl) (by kernel_rfl) (fun w' H1 => ?_); replace H := H1; clear H1) | (refine op_buildSlice_all _ _ _ rfl (by first | exact elem25 | exact elem32 | exact elem35 | exact elem36 | exact elem37 | exact elem38 | exact elem41 | exact elem42 | exact elem45 | exact elem57 | exact elem62 | exact elem74 | exact elem98 | exact elem100 | exact elem137 | exact elem178 | exact elem179) (by kernel_rfl) (by kernel_rfl) (by kernel_rfl) H (fun b w' H1 => ?_); replace H := H1; clear H1)); (try clear hc); (try simp only [nrm, splice, Value.cells, Nat.reduceAdd, Act.eval, Act.put] at H); have hc := H.cells; simp only [CellsOf, KnCells, knc, Nat.reduceAdd] at hc; refine hK _ _ (fun h => (h (by decide)).elim) ?_; clear hK K; (try simp only [Act.put, slt])
        iterate 2 (refine plan_p (o := ⟨_, _, _, _, _, _⟩) rfl (fun N hN => ?_); go_big_quiet_step (fail); refine wpQuiet_nil (hN _ ?_); clear hN N)
        refine plan_p0 ?_
        refine plan_e (o := ⟨_, _, _, _, _, _⟩) rfl rfl (fun K hK => ?_)
        (first | (go_step; go_at_call 8; refine Calls.mono (impInitial_both ⟨fh, fc, fr⟩ ps src j c key m cap hn hm.out.symm hl (by omega) _ (H.pick (by repeat (first | exact Picks.nil _ | (apply Picks.wr; focus (repeat (first | exact Split.here _ _ | apply Split.there))) | (apply Picks.rd; focus (repeat (first | exact Split.here _ _ | apply Split.there)))))) _ (by first | exact .inl rfl | exact .inr rfl)) ?_; rintro e w' ⟨rfl, H'⟩; replace H := H.of_ext H'; clear H') | (go_step; go_at_call 9; refine Calls.mono (awake_calls _) ?_; rintro e w' ⟨rfl, H'⟩; replace H := H.of_ext H'; clear H') | (refine op_box _ _ rfl H (fun b w' H1 => ?_); replace H := H1; clear H1) | (refine op_alloc _ rfl (zero_of _ _ rfl) H (fun b w' H1 => ?_); replace H := H1; clear H1) | (refine op_store _ _ _ rfl rfl rfl H (by repeat (first | exact Split.here _ _ | apply Split.there)) (by kernel_rfl) (by kernel_rfl) (by kernel_rfl) (fun w' H1 => ?_); replace H := H1; clear H1) | (refine op_buildSlice_all _ _ _ rfl (by first | exact elem25 | exact elem32 | exact elem35 | exact elem36 | exact elem37 | exact elem38 | exact elem41 | exact elem42 | exact elem45 | exact elem57 | exact elem62 | exact elem74 | exact elem98 | exact elem100 | exact elem137 | exact elem178 | exact elem179) (by kernel_rfl) (by kernel_rfl) (by kernel_rfl) H (fun b w' H1 => ?_); replace H := H1; clear H1)); (try clear hc); (try simp only [nrm, splice, Value.cells, Nat.reduceAdd, Act.eval, Act.put] at H); have hc := H.cells; simp only [CellsOf, KnCells, knc, Nat.reduceAdd] at hc; refine hK _ _ (fun h => (h (by decide)).elim) ?_; clear hK K; (try simp only [Act.put, slt])
        iterate 2 (refine plan_p (o := ⟨_, _, _, _, _, _⟩) rfl (fun N hN => ?_); go_big_quiet_step (fail); refine wpQuiet_nil (hN _ ?_); clear hN N)
        refine plan_p0 ?_
        refine plan_done ?_
        repeat' (first | (go_big_may; (first
    | ((first
        | (refine loud_ rfl ?_; refine wpList_plain rfl (fun K hK => ?_); (first | (refine op_box _ _ rfl H (fun b w' H1 => hK _ _ ?_)) | (refine op_alloc _ rfl (zero_of _ _ rfl) H (fun b w' H1 => hK _ _ ?_)) | (refine op_store _ _ _ rfl rfl rfl H (by repeat (first | exact Split.here _ _ | apply Split.there)) (by kernel_rfl) (by kernel_rfl) (by kernel_rfl) (fun w' H1 => hK _ _ ?_)) | (refine op_buildSlice_all _ _ _ rfl (by first | exact elem25 | exact elem32 | exact elem35 | exact elem36 | exact elem37 | exact elem38 | exact elem41 | exact elem42 | exact elem45 | exact elem57 | exact elem62 | exact elem74 | exact elem98 | exact elem100 | exact elem137 | exact elem178 | exact elem179) (by kernel_rfl) (by kernel_rfl) (by kernel_rfl) H (fun b w' H1 => hK _ _ ?_))); clear hK K; replace H := H1; clear H1)); (try clear hc); (try simp only [nrm, splice, Value.cells, Nat.reduceAdd, Act.eval, Act.put] at H); have hc := H.cells; simp only [CellsOf, KnCells, knc, Nat.reduceAdd] at hc))) | go_values | go_skip | go_guarded | go_step | go_upon | go_back | dsimp only)
        go_ret
        exact ⟨rfl, H.ext⟩
end Go.Proofs.Ytelddhcggmfloaa
