import Derived.Test.YtikaldcoakpfoaaGreatDoorSetO
import Derived.Deep.DeepCutAuto
-- MORE
-- SUB2
namespace Go.Proofs.YtikaldcoakpfoaaGreatDoor
set_option linter.unusedVariables false
set_option linter.unusedSimpArgs false
set_option linter.unnecessarySimpa false
open Go Go.RowKit Go.V Go.Lib

def AtAg (w : World) (a b : List Int) (sa sb : Option Addr) (i : Value) (wr : World) : Prop := ∃ k : Int, i = .int .i64 k ∧ 1 ≤ k ∧ k ≤ 4 ∧ St [] w wr [(false, soft sa (intsN a)), (false, soft sb (intsN b))]
theorem sets5_is (v : Bool) (a b : List Int) (hv : Hid (decide (both a b true true false = []) = v)) (sa sb : Option Addr) (na ca nb cb : Nat) (hna : Hid (a.length = na)) (hnb : Hid (b.length = nb)) (h1 : na ≤ 300) (h2 : nb ≤ 300) (w : World) (H : St [] w w [(false, soft sa (intsN a)), (false, soft sb (intsN b))]) :
    Calls Tryz.prog 6 #[.int .i64 5, .slice sa na ca, .slice sb nb cb] w fun e w' => e = .returned (.tuple #[.slice none 0 0, .bool v]) ∧ Ext [] w w' := by
  rw [← hv.out]
  exact sets5_calls a b sa sb na ca nb cb hna hnb h1 h2 w H
theorem sets6_is (v : Bool) (a b : List Int) (hv : Hid (decide (both a b false true false = []) = v)) (sa sb : Option Addr) (na ca nb cb : Nat) (hna : Hid (a.length = na)) (hnb : Hid (b.length = nb)) (h1 : na ≤ 300) (h2 : nb ≤ 300) (w : World) (H : St [] w w [(false, soft sa (intsN a)), (false, soft sb (intsN b))]) :
    Calls Tryz.prog 6 #[.int .i64 6, .slice sa na ca, .slice sb nb cb] w fun e w' => e = .returned (.tuple #[.slice none 0 0, .bool v]) ∧ Ext [] w w' := by
  rw [← hv.out]
  exact sets6_calls a b sa sb na ca nb cb hna hnb h1 h2 w H
set_option maxHeartbeats 8000000 in
set_option maxRecDepth 8000 in
theorem agrees_calls (a b : List Int) (sa sb : Option Addr) (na ca nb cb : Nat) (hna : Hid (a.length = na)) (hnb : Hid (b.length = nb)) (w : World) (he : ErrEnv w) (ht : TabAt w) (H : St [] w w [(false, soft sa (intsN a)), (false, soft sb (intsN b))]) :
    Calls Tryz.prog 4 #[.slice sa na ca, .slice sb nb cb] w fun e w' => e = .returned (.bool true) ∧ Ext [] w w' := by
  have he' := Lib.hid he
  have ht' := Lib.hid ht
  clear he ht
  by_cases q1 : 2147483647 < na
  · have q1c : (2147483647 : Int) < (na : Int) := by omega
    clear q1
    go_enter Tryz.func4, Tryz.ntmps4
    repeat' (first | (go_big_may; (first
    | ((first
        | (refine loud_ rfl ?_; refine wpList_plain rfl (fun K hK => ?_); (first | (refine op_box _ _ rfl H (fun b w' H1 => hK _ _ ?_)) | (refine op_alloc _ rfl (zero_of _ _ rfl) H (fun b w' H1 => hK _ _ ?_)) | (refine op_store _ _ _ rfl rfl rfl H (by repeat (first | exact Split.here _ _ | apply Split.there)) (by kernel_rfl) (by kernel_rfl) (by kernel_rfl) (fun w' H1 => hK _ _ ?_)) | (refine op_buildSlice_all _ _ _ rfl (by first | exact elem22 | exact elem60 | exact elem66 | exact elem72 | exact elem74) (by kernel_rfl) (by kernel_rfl) (by kernel_rfl) H (fun b w' H1 => hK _ _ ?_))); clear hK K; replace H := H1; clear H1)); (try clear hc); (try simp only [nrm, splice, Value.cells, Nat.reduceAdd, Act.eval, Act.put] at H); have hc := H.cells; simp only [CellsOf, KnCells, knc, Nat.reduceAdd] at hc))) | go_values | go_skip | go_guarded | go_step | go_upon | go_back | dsimp only)
    go_ret
    exact ⟨rfl, H.ext⟩
  have q1c : ¬ (2147483647 : Int) < (na : Int) := by omega
  by_cases q2 : 2147483647 < nb
  · have q2c : (2147483647 : Int) < (nb : Int) := by omega
    clear q2
    go_enter Tryz.func4, Tryz.ntmps4
    repeat' (first | (go_big_may; (first
    | ((first
        | (refine loud_ rfl ?_; refine wpList_plain rfl (fun K hK => ?_); (first | (refine op_box _ _ rfl H (fun b w' H1 => hK _ _ ?_)) | (refine op_alloc _ rfl (zero_of _ _ rfl) H (fun b w' H1 => hK _ _ ?_)) | (refine op_store _ _ _ rfl rfl rfl H (by repeat (first | exact Split.here _ _ | apply Split.there)) (by kernel_rfl) (by kernel_rfl) (by kernel_rfl) (fun w' H1 => hK _ _ ?_)) | (refine op_buildSlice_all _ _ _ rfl (by first | exact elem22 | exact elem60 | exact elem66 | exact elem72 | exact elem74) (by kernel_rfl) (by kernel_rfl) (by kernel_rfl) H (fun b w' H1 => hK _ _ ?_))); clear hK K; replace H := H1; clear H1)); (try clear hc); (try simp only [nrm, splice, Value.cells, Nat.reduceAdd, Act.eval, Act.put] at H); have hc := H.cells; simp only [CellsOf, KnCells, knc, Nat.reduceAdd] at hc))) | go_values | go_skip | go_guarded | go_step | go_upon | go_back | dsimp only)
    go_ret
    exact ⟨rfl, H.ext⟩
  have q2c : ¬ (2147483647 : Int) < (nb : Int) := by omega
  go_enter Tryz.func4, Tryz.ntmps4
  repeat' (first | (go_big_may; (first
    | ((first
        | (refine loud_ rfl ?_; refine wpList_plain rfl (fun K hK => ?_); (first | (refine op_box _ _ rfl H (fun b w' H1 => hK _ _ ?_)) | (refine op_alloc _ rfl (zero_of _ _ rfl) H (fun b w' H1 => hK _ _ ?_)) | (refine op_store _ _ _ rfl rfl rfl H (by repeat (first | exact Split.here _ _ | apply Split.there)) (by kernel_rfl) (by kernel_rfl) (by kernel_rfl) (fun w' H1 => hK _ _ ?_)) | (refine op_buildSlice_all _ _ _ rfl (by first | exact elem22 | exact elem60 | exact elem66 | exact elem72 | exact elem74) (by kernel_rfl) (by kernel_rfl) (by kernel_rfl) H (fun b w' H1 => hK _ _ ?_))); clear hK K; replace H := H1; clear H1)); (try clear hc); (try simp only [nrm, splice, Value.cells, Nat.reduceAdd, Act.eval, Act.put] at H); have hc := H.cells; simp only [CellsOf, KnCells, knc, Nat.reduceAdd] at hc))) | go_values | go_skip | go_guarded | go_step | go_upon | go_back | dsimp only)
  go_at_call 9
  refine Calls.mono (fewg_calls sa a na ca (-1099511627776) hna _ (H.pick (by repeat (first | exact Picks.nil _ | (apply Picks.wr; focus (repeat (first | exact Split.here _ _ | apply Split.there))) | (apply Picks.rd; focus (repeat (first | exact Split.here _ _ | apply Split.there))))))) ?_
  rintro e9 w' ⟨t1, ht1, rfl, H'⟩
  replace H := H.of_ext H'
  clear H'
  (try clear hc)
  (try simp only [nrm, splice, Value.cells, Nat.reduceAdd, Act.eval, Act.put] at H); have hc := H.cells; simp only [CellsOf, KnCells, knc, Nat.reduceAdd] at hc
  cases t1 with
  | false =>
    repeat' (first | (go_big_may; (first
    | go_skip
    | ((first
        | (go_at_call 5; refine Calls.mono (live_calls _ (errEnv_ext he'.out H.ext) (tabAt_ext ht'.out H.ext)) ?_; rintro e w' ⟨rfl, H'⟩; replace H := H.of_ext H'; clear H')
        | (refine loud_ rfl ?_; refine wpList_plain rfl (fun K hK => ?_); (first | (refine op_box _ _ rfl H (fun b w' H1 => hK _ _ ?_)) | (refine op_alloc _ rfl (zero_of _ _ rfl) H (fun b w' H1 => hK _ _ ?_)) | (refine op_store _ _ _ rfl rfl rfl H (by repeat (first | exact Split.here _ _ | apply Split.there)) (by kernel_rfl) (by kernel_rfl) (by kernel_rfl) (fun w' H1 => hK _ _ ?_)) | (refine op_buildSlice_all _ _ _ rfl (by first | exact elem22 | exact elem60 | exact elem66 | exact elem72 | exact elem74) (by kernel_rfl) (by kernel_rfl) (by kernel_rfl) H (fun b w' H1 => hK _ _ ?_))); clear hK K; replace H := H1; clear H1)); (try clear hc); (try simp only [nrm, splice, Value.cells, Nat.reduceAdd, Act.eval, Act.put] at H); have hc := H.cells; simp only [CellsOf, KnCells, knc, Nat.reduceAdd] at hc))) | go_values | go_skip | go_guarded | go_step | go_upon | go_back | dsimp only)
    go_ret
    exact ⟨rfl, H.ext⟩
  | true =>
    have h1 : na ≤ 300 := ht1.out rfl
    clear ht1 q1
    repeat' (first | (go_big_may; (first
    | ((first
        | (refine loud_ rfl ?_; refine wpList_plain rfl (fun K hK => ?_); (first | (refine op_box _ _ rfl H (fun b w' H1 => hK _ _ ?_)) | (refine op_alloc _ rfl (zero_of _ _ rfl) H (fun b w' H1 => hK _ _ ?_)) | (refine op_store _ _ _ rfl rfl rfl H (by repeat (first | exact Split.here _ _ | apply Split.there)) (by kernel_rfl) (by kernel_rfl) (by kernel_rfl) (fun w' H1 => hK _ _ ?_)) | (refine op_buildSlice_all _ _ _ rfl (by first | exact elem22 | exact elem60 | exact elem66 | exact elem72 | exact elem74) (by kernel_rfl) (by kernel_rfl) (by kernel_rfl) H (fun b w' H1 => hK _ _ ?_))); clear hK K; replace H := H1; clear H1)); (try clear hc); (try simp only [nrm, splice, Value.cells, Nat.reduceAdd, Act.eval, Act.put] at H); have hc := H.cells; simp only [CellsOf, KnCells, knc, Nat.reduceAdd] at hc))) | go_values | go_skip | go_guarded | go_step | go_upon | go_back | dsimp only)
    go_at_call 9
    refine Calls.mono (fewg_calls sb b nb cb (-1099511627776) hnb _ (H.pick (by repeat (first | exact Picks.nil _ | (apply Picks.wr; focus (repeat (first | exact Split.here _ _ | apply Split.there))) | (apply Picks.rd; focus (repeat (first | exact Split.here _ _ | apply Split.there))))))) ?_
    rintro e9 w' ⟨t2, ht2, rfl, H'⟩
    replace H := H.of_ext H'
    clear H'
    (try clear hc)
    (try simp only [nrm, splice, Value.cells, Nat.reduceAdd, Act.eval, Act.put] at H); have hc := H.cells; simp only [CellsOf, KnCells, knc, Nat.reduceAdd] at hc
    cases t2 with
    | false =>
      repeat' (first | (go_big_may; (first
    | go_skip
    | ((first
        | (go_at_call 5; refine Calls.mono (live_calls _ (errEnv_ext he'.out H.ext) (tabAt_ext ht'.out H.ext)) ?_; rintro e w' ⟨rfl, H'⟩; replace H := H.of_ext H'; clear H')
        | (refine loud_ rfl ?_; refine wpList_plain rfl (fun K hK => ?_); (first | (refine op_box _ _ rfl H (fun b w' H1 => hK _ _ ?_)) | (refine op_alloc _ rfl (zero_of _ _ rfl) H (fun b w' H1 => hK _ _ ?_)) | (refine op_store _ _ _ rfl rfl rfl H (by repeat (first | exact Split.here _ _ | apply Split.there)) (by kernel_rfl) (by kernel_rfl) (by kernel_rfl) (fun w' H1 => hK _ _ ?_)) | (refine op_buildSlice_all _ _ _ rfl (by first | exact elem22 | exact elem60 | exact elem66 | exact elem72 | exact elem74) (by kernel_rfl) (by kernel_rfl) (by kernel_rfl) H (fun b w' H1 => hK _ _ ?_))); clear hK K; replace H := H1; clear H1)); (try clear hc); (try simp only [nrm, splice, Value.cells, Nat.reduceAdd, Act.eval, Act.put] at H); have hc := H.cells; simp only [CellsOf, KnCells, knc, Nat.reduceAdd] at hc))) | go_values | go_skip | go_guarded | go_step | go_upon | go_back | dsimp only)
      go_ret
      exact ⟨rfl, H.ext⟩
    | true =>
      have h2 : nb ≤ 300 := ht2.out rfl
      clear ht2 q2
      repeat' (first | (go_big_may; (first
    | ((first
        | (refine loud_ rfl ?_; refine wpList_plain rfl (fun K hK => ?_); (first | (refine op_box _ _ rfl H (fun b w' H1 => hK _ _ ?_)) | (refine op_alloc _ rfl (zero_of _ _ rfl) H (fun b w' H1 => hK _ _ ?_)) | (refine op_store _ _ _ rfl rfl rfl H (by repeat (first | exact Split.here _ _ | apply Split.there)) (by kernel_rfl) (by kernel_rfl) (by kernel_rfl) (fun w' H1 => hK _ _ ?_)) | (refine op_buildSlice_all _ _ _ rfl (by first | exact elem22 | exact elem60 | exact elem66 | exact elem72 | exact elem74) (by kernel_rfl) (by kernel_rfl) (by kernel_rfl) H (fun b w' H1 => hK _ _ ?_))); clear hK K; replace H := H1; clear H1)); (try clear hc); (try simp only [nrm, splice, Value.cells, Nat.reduceAdd, Act.eval, Act.put] at H); have hc := H.cells; simp only [CellsOf, KnCells, knc, Nat.reduceAdd] at hc))) | go_values | go_skip | go_guarded | go_step | go_upon | go_back | dsimp only)
      have H0 := H
      clear H
      (try clear hc)
      go_loopw [5] (AtAg w a b sa sb) (fun i _ => 4 - (intOf i).toNat)
      case atStart => exact ⟨1, rfl, by omega, by omega, H0⟩
      case round =>
        clear H0
        obtain ⟨k, rfl, hk1, hk4, H⟩ := hrel
        have hk : k = 1 ∨ k = 2 ∨ k = 3 ∨ k = 4 := by omega
        clear hk1 hk4
        rcases hk with rfl | rfl | rfl | rfl
        · have hc := H.cells; simp only [CellsOf, KnCells, knc, Nat.reduceAdd] at hc
          repeat' (first | (go_big_may; (first
    | ((first
        | (refine loud_ rfl ?_; refine wpList_plain rfl (fun K hK => ?_); (first | (refine op_box _ _ rfl H (fun b w' H1 => hK _ _ ?_)) | (refine op_alloc _ rfl (zero_of _ _ rfl) H (fun b w' H1 => hK _ _ ?_)) | (refine op_store _ _ _ rfl rfl rfl H (by repeat (first | exact Split.here _ _ | apply Split.there)) (by kernel_rfl) (by kernel_rfl) (by kernel_rfl) (fun w' H1 => hK _ _ ?_)) | (refine op_buildSlice_all _ _ _ rfl (by first | exact elem22 | exact elem60 | exact elem66 | exact elem72 | exact elem74) (by kernel_rfl) (by kernel_rfl) (by kernel_rfl) H (fun b w' H1 => hK _ _ ?_))); clear hK K; replace H := H1; clear H1)); (try clear hc); (try simp only [nrm, splice, Value.cells, Nat.reduceAdd, Act.eval, Act.put] at H); have hc := H.cells; simp only [CellsOf, KnCells, knc, Nat.reduceAdd] at hc))) | go_values | go_skip | go_guarded | go_step | go_upon | go_back | dsimp only)
          go_at_call 10
          refine Calls.mono (cpus1_calls a b sa sb na ca nb cb hna hnb h1 h2 _ (H.pick (by repeat (first | exact Picks.nil _ | (apply Picks.wr; focus (repeat (first | exact Split.here _ _ | apply Split.there))) | (apply Picks.rd; focus (repeat (first | exact Split.here _ _ | apply Split.there))))))) ?_
          rintro e9 w' ⟨key1, n1, cap1, hn1, hle1, rfl, H'⟩
          replace H := H.merge (by first | exact Strikes.nil _ | (repeat (first | exact Strikes.nil _ | (apply Strikes.cons; focus (repeat (first | exact Split.here _ _ | apply Split.there)))))) H' rfl
          clear H'
          (try clear hc)
          (try simp only [nrm, splice, Value.cells, Nat.reduceAdd, Act.eval, Act.put] at H); have hc := H.cells; simp only [CellsOf, KnCells, knc, Nat.reduceAdd] at hc
          repeat' (first | (go_big_may; (first
    | ((first
        | (refine loud_ rfl ?_; refine wpList_plain rfl (fun K hK => ?_); (first | (refine op_box _ _ rfl H (fun b w' H1 => hK _ _ ?_)) | (refine op_alloc _ rfl (zero_of _ _ rfl) H (fun b w' H1 => hK _ _ ?_)) | (refine op_store _ _ _ rfl rfl rfl H (by repeat (first | exact Split.here _ _ | apply Split.there)) (by kernel_rfl) (by kernel_rfl) (by kernel_rfl) (fun w' H1 => hK _ _ ?_)) | (refine op_buildSlice_all _ _ _ rfl (by first | exact elem22 | exact elem60 | exact elem66 | exact elem72 | exact elem74) (by kernel_rfl) (by kernel_rfl) (by kernel_rfl) H (fun b w' H1 => hK _ _ ?_))); clear hK K; replace H := H1; clear H1)); (try clear hc); (try simp only [nrm, splice, Value.cells, Nat.reduceAdd, Act.eval, Act.put] at H); have hc := H.cells; simp only [CellsOf, KnCells, knc, Nat.reduceAdd] at hc))) | go_values | go_skip | go_guarded | go_step | go_upon | go_back | dsimp only)
          go_at_call 6
          refine Calls.mono (sets1_calls a b sa sb na ca nb cb hna hnb h1 h2 _ (H.pick (by repeat (first | exact Picks.nil _ | (apply Picks.wr; focus (repeat (first | exact Split.here _ _ | apply Split.there))) | (apply Picks.rd; focus (repeat (first | exact Split.here _ _ | apply Split.there))))))) ?_
          rintro e9 w' ⟨key2, n2, cap2, hn2, hle2, rfl, H'⟩
          replace H := H.merge (by first | exact Strikes.nil _ | (repeat (first | exact Strikes.nil _ | (apply Strikes.cons; focus (repeat (first | exact Split.here _ _ | apply Split.there)))))) H' rfl
          clear H'
          (try clear hc)
          (try simp only [nrm, splice, Value.cells, Nat.reduceAdd, Act.eval, Act.put] at H); have hc := H.cells; simp only [CellsOf, KnCells, knc, Nat.reduceAdd] at hc
          repeat' (first | (go_big_may; (first
    | ((first
        | (refine loud_ rfl ?_; refine wpList_plain rfl (fun K hK => ?_); (first | (refine op_box _ _ rfl H (fun b w' H1 => hK _ _ ?_)) | (refine op_alloc _ rfl (zero_of _ _ rfl) H (fun b w' H1 => hK _ _ ?_)) | (refine op_store _ _ _ rfl rfl rfl H (by repeat (first | exact Split.here _ _ | apply Split.there)) (by kernel_rfl) (by kernel_rfl) (by kernel_rfl) (fun w' H1 => hK _ _ ?_)) | (refine op_buildSlice_all _ _ _ rfl (by first | exact elem22 | exact elem60 | exact elem66 | exact elem72 | exact elem74) (by kernel_rfl) (by kernel_rfl) (by kernel_rfl) H (fun b w' H1 => hK _ _ ?_))); clear hK K; replace H := H1; clear H1)); (try clear hc); (try simp only [nrm, splice, Value.cells, Nat.reduceAdd, Act.eval, Act.put] at H); have hc := H.cells; simp only [CellsOf, KnCells, knc, Nat.reduceAdd] at hc))) | go_values | go_skip | go_guarded | go_step | go_upon | go_back | dsimp only)
          go_at_call 7
          refine Calls.mono (equal_rows2 key1 key2 (both a b true true true) n1 n2 cap1 cap2 hn1 hn2 (by omega) _ (H.pick (by repeat (first | exact Picks.nil _ | (apply Picks.wr; focus (repeat (first | exact Split.here _ _ | apply Split.there))) | (apply Picks.rd; focus (repeat (first | exact Split.here _ _ | apply Split.there))))))) ?_
          rintro e9 w' ⟨rfl, H'⟩
          replace H := H.of_ext H'
          clear H'
          (try clear hc)
          (try simp only [nrm, splice, Value.cells, Nat.reduceAdd, Act.eval, Act.put] at H); have hc := H.cells; simp only [CellsOf, KnCells, knc, Nat.reduceAdd] at hc
          repeat' (first | (go_big_may; (first
    | ((first
        | (refine loud_ rfl ?_; refine wpList_plain rfl (fun K hK => ?_); (first | (refine op_box _ _ rfl H (fun b w' H1 => hK _ _ ?_)) | (refine op_alloc _ rfl (zero_of _ _ rfl) H (fun b w' H1 => hK _ _ ?_)) | (refine op_store _ _ _ rfl rfl rfl H (by repeat (first | exact Split.here _ _ | apply Split.there)) (by kernel_rfl) (by kernel_rfl) (by kernel_rfl) (fun w' H1 => hK _ _ ?_)) | (refine op_buildSlice_all _ _ _ rfl (by first | exact elem22 | exact elem60 | exact elem66 | exact elem72 | exact elem74) (by kernel_rfl) (by kernel_rfl) (by kernel_rfl) H (fun b w' H1 => hK _ _ ?_))); clear hK K; replace H := H1; clear H1)); (try clear hc); (try simp only [nrm, splice, Value.cells, Nat.reduceAdd, Act.eval, Act.put] at H); have hc := H.cells; simp only [CellsOf, KnCells, knc, Nat.reduceAdd] at hc))) | go_values | go_skip | go_guarded | go_step | go_upon | go_back | dsimp only)
          exact ⟨⟨2, by go_num, by omega, by omega, H.sel (by repeat (first | exact Sel.nil _ | (apply Sel.cons; focus (repeat (first | exact Split.here _ _ | apply Split.there)))))⟩, by decide⟩
        · have hc := H.cells; simp only [CellsOf, KnCells, knc, Nat.reduceAdd] at hc
          repeat' (first | (go_big_may; (first
    | ((first
        | (refine loud_ rfl ?_; refine wpList_plain rfl (fun K hK => ?_); (first | (refine op_box _ _ rfl H (fun b w' H1 => hK _ _ ?_)) | (refine op_alloc _ rfl (zero_of _ _ rfl) H (fun b w' H1 => hK _ _ ?_)) | (refine op_store _ _ _ rfl rfl rfl H (by repeat (first | exact Split.here _ _ | apply Split.there)) (by kernel_rfl) (by kernel_rfl) (by kernel_rfl) (fun w' H1 => hK _ _ ?_)) | (refine op_buildSlice_all _ _ _ rfl (by first | exact elem22 | exact elem60 | exact elem66 | exact elem72 | exact elem74) (by kernel_rfl) (by kernel_rfl) (by kernel_rfl) H (fun b w' H1 => hK _ _ ?_))); clear hK K; replace H := H1; clear H1)); (try clear hc); (try simp only [nrm, splice, Value.cells, Nat.reduceAdd, Act.eval, Act.put] at H); have hc := H.cells; simp only [CellsOf, KnCells, knc, Nat.reduceAdd] at hc))) | go_values | go_skip | go_guarded | go_step | go_upon | go_back | dsimp only)
          go_at_call 10
          refine Calls.mono (cpus2_calls a b sa sb na ca nb cb hna hnb h1 h2 _ (H.pick (by repeat (first | exact Picks.nil _ | (apply Picks.wr; focus (repeat (first | exact Split.here _ _ | apply Split.there))) | (apply Picks.rd; focus (repeat (first | exact Split.here _ _ | apply Split.there))))))) ?_
          rintro e9 w' ⟨key1, n1, cap1, hn1, hle1, rfl, H'⟩
          replace H := H.merge (by first | exact Strikes.nil _ | (repeat (first | exact Strikes.nil _ | (apply Strikes.cons; focus (repeat (first | exact Split.here _ _ | apply Split.there)))))) H' rfl
          clear H'
          (try clear hc)
          (try simp only [nrm, splice, Value.cells, Nat.reduceAdd, Act.eval, Act.put] at H); have hc := H.cells; simp only [CellsOf, KnCells, knc, Nat.reduceAdd] at hc
          repeat' (first | (go_big_may; (first
    | ((first
        | (refine loud_ rfl ?_; refine wpList_plain rfl (fun K hK => ?_); (first | (refine op_box _ _ rfl H (fun b w' H1 => hK _ _ ?_)) | (refine op_alloc _ rfl (zero_of _ _ rfl) H (fun b w' H1 => hK _ _ ?_)) | (refine op_store _ _ _ rfl rfl rfl H (by repeat (first | exact Split.here _ _ | apply Split.there)) (by kernel_rfl) (by kernel_rfl) (by kernel_rfl) (fun w' H1 => hK _ _ ?_)) | (refine op_buildSlice_all _ _ _ rfl (by first | exact elem22 | exact elem60 | exact elem66 | exact elem72 | exact elem74) (by kernel_rfl) (by kernel_rfl) (by kernel_rfl) H (fun b w' H1 => hK _ _ ?_))); clear hK K; replace H := H1; clear H1)); (try clear hc); (try simp only [nrm, splice, Value.cells, Nat.reduceAdd, Act.eval, Act.put] at H); have hc := H.cells; simp only [CellsOf, KnCells, knc, Nat.reduceAdd] at hc))) | go_values | go_skip | go_guarded | go_step | go_upon | go_back | dsimp only)
          go_at_call 6
          refine Calls.mono (sets2_calls a b sa sb na ca nb cb hna hnb h1 h2 _ (H.pick (by repeat (first | exact Picks.nil _ | (apply Picks.wr; focus (repeat (first | exact Split.here _ _ | apply Split.there))) | (apply Picks.rd; focus (repeat (first | exact Split.here _ _ | apply Split.there))))))) ?_
          rintro e9 w' ⟨key2, n2, cap2, hn2, hle2, rfl, H'⟩
          replace H := H.merge (by first | exact Strikes.nil _ | (repeat (first | exact Strikes.nil _ | (apply Strikes.cons; focus (repeat (first | exact Split.here _ _ | apply Split.there)))))) H' rfl
          clear H'
          (try clear hc)
          (try simp only [nrm, splice, Value.cells, Nat.reduceAdd, Act.eval, Act.put] at H); have hc := H.cells; simp only [CellsOf, KnCells, knc, Nat.reduceAdd] at hc
          repeat' (first | (go_big_may; (first
    | ((first
        | (refine loud_ rfl ?_; refine wpList_plain rfl (fun K hK => ?_); (first | (refine op_box _ _ rfl H (fun b w' H1 => hK _ _ ?_)) | (refine op_alloc _ rfl (zero_of _ _ rfl) H (fun b w' H1 => hK _ _ ?_)) | (refine op_store _ _ _ rfl rfl rfl H (by repeat (first | exact Split.here _ _ | apply Split.there)) (by kernel_rfl) (by kernel_rfl) (by kernel_rfl) (fun w' H1 => hK _ _ ?_)) | (refine op_buildSlice_all _ _ _ rfl (by first | exact elem22 | exact elem60 | exact elem66 | exact elem72 | exact elem74) (by kernel_rfl) (by kernel_rfl) (by kernel_rfl) H (fun b w' H1 => hK _ _ ?_))); clear hK K; replace H := H1; clear H1)); (try clear hc); (try simp only [nrm, splice, Value.cells, Nat.reduceAdd, Act.eval, Act.put] at H); have hc := H.cells; simp only [CellsOf, KnCells, knc, Nat.reduceAdd] at hc))) | go_values | go_skip | go_guarded | go_step | go_upon | go_back | dsimp only)
          go_at_call 7
          refine Calls.mono (equal_rows2 key1 key2 (both a b false false true) n1 n2 cap1 cap2 hn1 hn2 (by omega) _ (H.pick (by repeat (first | exact Picks.nil _ | (apply Picks.wr; focus (repeat (first | exact Split.here _ _ | apply Split.there))) | (apply Picks.rd; focus (repeat (first | exact Split.here _ _ | apply Split.there))))))) ?_
          rintro e9 w' ⟨rfl, H'⟩
          replace H := H.of_ext H'
          clear H'
          (try clear hc)
          (try simp only [nrm, splice, Value.cells, Nat.reduceAdd, Act.eval, Act.put] at H); have hc := H.cells; simp only [CellsOf, KnCells, knc, Nat.reduceAdd] at hc
          repeat' (first | (go_big_may; (first
    | ((first
        | (refine loud_ rfl ?_; refine wpList_plain rfl (fun K hK => ?_); (first | (refine op_box _ _ rfl H (fun b w' H1 => hK _ _ ?_)) | (refine op_alloc _ rfl (zero_of _ _ rfl) H (fun b w' H1 => hK _ _ ?_)) | (refine op_store _ _ _ rfl rfl rfl H (by repeat (first | exact Split.here _ _ | apply Split.there)) (by kernel_rfl) (by kernel_rfl) (by kernel_rfl) (fun w' H1 => hK _ _ ?_)) | (refine op_buildSlice_all _ _ _ rfl (by first | exact elem22 | exact elem60 | exact elem66 | exact elem72 | exact elem74) (by kernel_rfl) (by kernel_rfl) (by kernel_rfl) H (fun b w' H1 => hK _ _ ?_))); clear hK K; replace H := H1; clear H1)); (try clear hc); (try simp only [nrm, splice, Value.cells, Nat.reduceAdd, Act.eval, Act.put] at H); have hc := H.cells; simp only [CellsOf, KnCells, knc, Nat.reduceAdd] at hc))) | go_values | go_skip | go_guarded | go_step | go_upon | go_back | dsimp only)
          exact ⟨⟨3, by go_num, by omega, by omega, H.sel (by repeat (first | exact Sel.nil _ | (apply Sel.cons; focus (repeat (first | exact Split.here _ _ | apply Split.there)))))⟩, by decide⟩
        · have hc := H.cells; simp only [CellsOf, KnCells, knc, Nat.reduceAdd] at hc
          repeat' (first | (go_big_may; (first
    | ((first
        | (refine loud_ rfl ?_; refine wpList_plain rfl (fun K hK => ?_); (first | (refine op_box _ _ rfl H (fun b w' H1 => hK _ _ ?_)) | (refine op_alloc _ rfl (zero_of _ _ rfl) H (fun b w' H1 => hK _ _ ?_)) | (refine op_store _ _ _ rfl rfl rfl H (by repeat (first | exact Split.here _ _ | apply Split.there)) (by kernel_rfl) (by kernel_rfl) (by kernel_rfl) (fun w' H1 => hK _ _ ?_)) | (refine op_buildSlice_all _ _ _ rfl (by first | exact elem22 | exact elem60 | exact elem66 | exact elem72 | exact elem74) (by kernel_rfl) (by kernel_rfl) (by kernel_rfl) H (fun b w' H1 => hK _ _ ?_))); clear hK K; replace H := H1; clear H1)); (try clear hc); (try simp only [nrm, splice, Value.cells, Nat.reduceAdd, Act.eval, Act.put] at H); have hc := H.cells; simp only [CellsOf, KnCells, knc, Nat.reduceAdd] at hc))) | go_values | go_skip | go_guarded | go_step | go_upon | go_back | dsimp only)
          go_at_call 10
          refine Calls.mono (cpus3_calls a b sa sb na ca nb cb hna hnb h1 h2 _ (H.pick (by repeat (first | exact Picks.nil _ | (apply Picks.wr; focus (repeat (first | exact Split.here _ _ | apply Split.there))) | (apply Picks.rd; focus (repeat (first | exact Split.here _ _ | apply Split.there))))))) ?_
          rintro e9 w' ⟨key1, n1, cap1, hn1, hle1, rfl, H'⟩
          replace H := H.merge (by first | exact Strikes.nil _ | (repeat (first | exact Strikes.nil _ | (apply Strikes.cons; focus (repeat (first | exact Split.here _ _ | apply Split.there)))))) H' rfl
          clear H'
          (try clear hc)
          (try simp only [nrm, splice, Value.cells, Nat.reduceAdd, Act.eval, Act.put] at H); have hc := H.cells; simp only [CellsOf, KnCells, knc, Nat.reduceAdd] at hc
          repeat' (first | (go_big_may; (first
    | ((first
        | (refine loud_ rfl ?_; refine wpList_plain rfl (fun K hK => ?_); (first | (refine op_box _ _ rfl H (fun b w' H1 => hK _ _ ?_)) | (refine op_alloc _ rfl (zero_of _ _ rfl) H (fun b w' H1 => hK _ _ ?_)) | (refine op_store _ _ _ rfl rfl rfl H (by repeat (first | exact Split.here _ _ | apply Split.there)) (by kernel_rfl) (by kernel_rfl) (by kernel_rfl) (fun w' H1 => hK _ _ ?_)) | (refine op_buildSlice_all _ _ _ rfl (by first | exact elem22 | exact elem60 | exact elem66 | exact elem72 | exact elem74) (by kernel_rfl) (by kernel_rfl) (by kernel_rfl) H (fun b w' H1 => hK _ _ ?_))); clear hK K; replace H := H1; clear H1)); (try clear hc); (try simp only [nrm, splice, Value.cells, Nat.reduceAdd, Act.eval, Act.put] at H); have hc := H.cells; simp only [CellsOf, KnCells, knc, Nat.reduceAdd] at hc))) | go_values | go_skip | go_guarded | go_step | go_upon | go_back | dsimp only)
          go_at_call 6
          refine Calls.mono (sets3_calls a b sa sb na ca nb cb hna hnb h1 h2 _ (H.pick (by repeat (first | exact Picks.nil _ | (apply Picks.wr; focus (repeat (first | exact Split.here _ _ | apply Split.there))) | (apply Picks.rd; focus (repeat (first | exact Split.here _ _ | apply Split.there))))))) ?_
          rintro e9 w' ⟨key2, n2, cap2, hn2, hle2, rfl, H'⟩
          replace H := H.merge (by first | exact Strikes.nil _ | (repeat (first | exact Strikes.nil _ | (apply Strikes.cons; focus (repeat (first | exact Split.here _ _ | apply Split.there)))))) H' rfl
          clear H'
          (try clear hc)
          (try simp only [nrm, splice, Value.cells, Nat.reduceAdd, Act.eval, Act.put] at H); have hc := H.cells; simp only [CellsOf, KnCells, knc, Nat.reduceAdd] at hc
          repeat' (first | (go_big_may; (first
    | ((first
        | (refine loud_ rfl ?_; refine wpList_plain rfl (fun K hK => ?_); (first | (refine op_box _ _ rfl H (fun b w' H1 => hK _ _ ?_)) | (refine op_alloc _ rfl (zero_of _ _ rfl) H (fun b w' H1 => hK _ _ ?_)) | (refine op_store _ _ _ rfl rfl rfl H (by repeat (first | exact Split.here _ _ | apply Split.there)) (by kernel_rfl) (by kernel_rfl) (by kernel_rfl) (fun w' H1 => hK _ _ ?_)) | (refine op_buildSlice_all _ _ _ rfl (by first | exact elem22 | exact elem60 | exact elem66 | exact elem72 | exact elem74) (by kernel_rfl) (by kernel_rfl) (by kernel_rfl) H (fun b w' H1 => hK _ _ ?_))); clear hK K; replace H := H1; clear H1)); (try clear hc); (try simp only [nrm, splice, Value.cells, Nat.reduceAdd, Act.eval, Act.put] at H); have hc := H.cells; simp only [CellsOf, KnCells, knc, Nat.reduceAdd] at hc))) | go_values | go_skip | go_guarded | go_step | go_upon | go_back | dsimp only)
          go_at_call 7
          refine Calls.mono (equal_rows2 key1 key2 (both a b true false false) n1 n2 cap1 cap2 hn1 hn2 (by omega) _ (H.pick (by repeat (first | exact Picks.nil _ | (apply Picks.wr; focus (repeat (first | exact Split.here _ _ | apply Split.there))) | (apply Picks.rd; focus (repeat (first | exact Split.here _ _ | apply Split.there))))))) ?_
          rintro e9 w' ⟨rfl, H'⟩
          replace H := H.of_ext H'
          clear H'
          (try clear hc)
          (try simp only [nrm, splice, Value.cells, Nat.reduceAdd, Act.eval, Act.put] at H); have hc := H.cells; simp only [CellsOf, KnCells, knc, Nat.reduceAdd] at hc
          repeat' (first | (go_big_may; (first
    | ((first
        | (refine loud_ rfl ?_; refine wpList_plain rfl (fun K hK => ?_); (first | (refine op_box _ _ rfl H (fun b w' H1 => hK _ _ ?_)) | (refine op_alloc _ rfl (zero_of _ _ rfl) H (fun b w' H1 => hK _ _ ?_)) | (refine op_store _ _ _ rfl rfl rfl H (by repeat (first | exact Split.here _ _ | apply Split.there)) (by kernel_rfl) (by kernel_rfl) (by kernel_rfl) (fun w' H1 => hK _ _ ?_)) | (refine op_buildSlice_all _ _ _ rfl (by first | exact elem22 | exact elem60 | exact elem66 | exact elem72 | exact elem74) (by kernel_rfl) (by kernel_rfl) (by kernel_rfl) H (fun b w' H1 => hK _ _ ?_))); clear hK K; replace H := H1; clear H1)); (try clear hc); (try simp only [nrm, splice, Value.cells, Nat.reduceAdd, Act.eval, Act.put] at H); have hc := H.cells; simp only [CellsOf, KnCells, knc, Nat.reduceAdd] at hc))) | go_values | go_skip | go_guarded | go_step | go_upon | go_back | dsimp only)
          exact ⟨⟨4, by go_num, by omega, by omega, H.sel (by repeat (first | exact Sel.nil _ | (apply Sel.cons; focus (repeat (first | exact Split.here _ _ | apply Split.there)))))⟩, by decide⟩
        · have hc := H.cells; simp only [CellsOf, KnCells, knc, Nat.reduceAdd] at hc
          repeat' (first | (go_big_may; (first
    | ((first
        | (refine loud_ rfl ?_; refine wpList_plain rfl (fun K hK => ?_); (first | (refine op_box _ _ rfl H (fun b w' H1 => hK _ _ ?_)) | (refine op_alloc _ rfl (zero_of _ _ rfl) H (fun b w' H1 => hK _ _ ?_)) | (refine op_store _ _ _ rfl rfl rfl H (by repeat (first | exact Split.here _ _ | apply Split.there)) (by kernel_rfl) (by kernel_rfl) (by kernel_rfl) (fun w' H1 => hK _ _ ?_)) | (refine op_buildSlice_all _ _ _ rfl (by first | exact elem22 | exact elem60 | exact elem66 | exact elem72 | exact elem74) (by kernel_rfl) (by kernel_rfl) (by kernel_rfl) H (fun b w' H1 => hK _ _ ?_))); clear hK K; replace H := H1; clear H1)); (try clear hc); (try simp only [nrm, splice, Value.cells, Nat.reduceAdd, Act.eval, Act.put] at H); have hc := H.cells; simp only [CellsOf, KnCells, knc, Nat.reduceAdd] at hc))) | go_values | go_skip | go_guarded | go_step | go_upon | go_back | dsimp only)
          go_at_call 10
          refine Calls.mono (cpus4_calls a b sa sb na ca nb cb hna hnb h1 h2 _ (H.pick (by repeat (first | exact Picks.nil _ | (apply Picks.wr; focus (repeat (first | exact Split.here _ _ | apply Split.there))) | (apply Picks.rd; focus (repeat (first | exact Split.here _ _ | apply Split.there))))))) ?_
          rintro e9 w' ⟨rfl, H'⟩
          replace H := H.of_ext H'
          clear H'
          (try clear hc)
          (try simp only [nrm, splice, Value.cells, Nat.reduceAdd, Act.eval, Act.put] at H); have hc := H.cells; simp only [CellsOf, KnCells, knc, Nat.reduceAdd] at hc
          generalize hv1 : decide (both a b true true false = []) = v1 at *
          replace hv1 := Lib.hid hv1
          repeat' (first | (go_big_may; (first
    | ((first
        | (refine loud_ rfl ?_; refine wpList_plain rfl (fun K hK => ?_); (first | (refine op_box _ _ rfl H (fun b w' H1 => hK _ _ ?_)) | (refine op_alloc _ rfl (zero_of _ _ rfl) H (fun b w' H1 => hK _ _ ?_)) | (refine op_store _ _ _ rfl rfl rfl H (by repeat (first | exact Split.here _ _ | apply Split.there)) (by kernel_rfl) (by kernel_rfl) (by kernel_rfl) (fun w' H1 => hK _ _ ?_)) | (refine op_buildSlice_all _ _ _ rfl (by first | exact elem22 | exact elem60 | exact elem66 | exact elem72 | exact elem74) (by kernel_rfl) (by kernel_rfl) (by kernel_rfl) H (fun b w' H1 => hK _ _ ?_))); clear hK K; replace H := H1; clear H1)); (try clear hc); (try simp only [nrm, splice, Value.cells, Nat.reduceAdd, Act.eval, Act.put] at H); have hc := H.cells; simp only [CellsOf, KnCells, knc, Nat.reduceAdd] at hc))) | go_values | go_skip | go_guarded | go_step | go_upon | go_back | dsimp only)
          go_at_call 6
          refine Calls.mono (sets5_is v1 a b hv1 sa sb na ca nb cb hna hnb h1 h2 _ (H.pick (by repeat (first | exact Picks.nil _ | (apply Picks.wr; focus (repeat (first | exact Split.here _ _ | apply Split.there))) | (apply Picks.rd; focus (repeat (first | exact Split.here _ _ | apply Split.there))))))) ?_
          rintro e9 w' ⟨rfl, H'⟩
          replace H := H.of_ext H'
          clear H'
          (try clear hc)
          (try simp only [nrm, splice, Value.cells, Nat.reduceAdd, Act.eval, Act.put] at H); have hc := H.cells; simp only [CellsOf, KnCells, knc, Nat.reduceAdd] at hc
          repeat' (first | (go_big_may; (first
    | ((first
        | (refine loud_ rfl ?_; refine wpList_plain rfl (fun K hK => ?_); (first | (refine op_box _ _ rfl H (fun b w' H1 => hK _ _ ?_)) | (refine op_alloc _ rfl (zero_of _ _ rfl) H (fun b w' H1 => hK _ _ ?_)) | (refine op_store _ _ _ rfl rfl rfl H (by repeat (first | exact Split.here _ _ | apply Split.there)) (by kernel_rfl) (by kernel_rfl) (by kernel_rfl) (fun w' H1 => hK _ _ ?_)) | (refine op_buildSlice_all _ _ _ rfl (by first | exact elem22 | exact elem60 | exact elem66 | exact elem72 | exact elem74) (by kernel_rfl) (by kernel_rfl) (by kernel_rfl) H (fun b w' H1 => hK _ _ ?_))); clear hK K; replace H := H1; clear H1)); (try clear hc); (try simp only [nrm, splice, Value.cells, Nat.reduceAdd, Act.eval, Act.put] at H); have hc := H.cells; simp only [CellsOf, KnCells, knc, Nat.reduceAdd] at hc))) | go_values | go_skip | go_guarded | go_step | go_upon | go_back | dsimp only)
          go_at_call 10
          refine Calls.mono (cpus5_calls a b sa sb na ca nb cb hna hnb h1 h2 _ (H.pick (by repeat (first | exact Picks.nil _ | (apply Picks.wr; focus (repeat (first | exact Split.here _ _ | apply Split.there))) | (apply Picks.rd; focus (repeat (first | exact Split.here _ _ | apply Split.there))))))) ?_
          rintro e9 w' ⟨rfl, H'⟩
          replace H := H.of_ext H'
          clear H'
          (try clear hc)
          (try simp only [nrm, splice, Value.cells, Nat.reduceAdd, Act.eval, Act.put] at H); have hc := H.cells; simp only [CellsOf, KnCells, knc, Nat.reduceAdd] at hc
          generalize hv2 : decide (both b a false true false = []) = v2 at *
          replace hv2 := Lib.hid hv2
          repeat' (first | (go_big_may; (first
    | ((first
        | (refine loud_ rfl ?_; refine wpList_plain rfl (fun K hK => ?_); (first | (refine op_box _ _ rfl H (fun b w' H1 => hK _ _ ?_)) | (refine op_alloc _ rfl (zero_of _ _ rfl) H (fun b w' H1 => hK _ _ ?_)) | (refine op_store _ _ _ rfl rfl rfl H (by repeat (first | exact Split.here _ _ | apply Split.there)) (by kernel_rfl) (by kernel_rfl) (by kernel_rfl) (fun w' H1 => hK _ _ ?_)) | (refine op_buildSlice_all _ _ _ rfl (by first | exact elem22 | exact elem60 | exact elem66 | exact elem72 | exact elem74) (by kernel_rfl) (by kernel_rfl) (by kernel_rfl) H (fun b w' H1 => hK _ _ ?_))); clear hK K; replace H := H1; clear H1)); (try clear hc); (try simp only [nrm, splice, Value.cells, Nat.reduceAdd, Act.eval, Act.put] at H); have hc := H.cells; simp only [CellsOf, KnCells, knc, Nat.reduceAdd] at hc))) | go_values | go_skip | go_guarded | go_step | go_upon | go_back | dsimp only)
          go_at_call 6
          refine Calls.mono (sets6_is v2 b a hv2 sb sa nb cb na ca hnb hna h2 h1 _ (H.pick (by repeat (first | exact Picks.nil _ | (apply Picks.wr; focus (repeat (first | exact Split.here _ _ | apply Split.there))) | (apply Picks.rd; focus (repeat (first | exact Split.here _ _ | apply Split.there))))))) ?_
          rintro e9 w' ⟨rfl, H'⟩
          replace H := H.of_ext H'
          clear H'
          (try clear hc)
          (try simp only [nrm, splice, Value.cells, Nat.reduceAdd, Act.eval, Act.put] at H); have hc := H.cells; simp only [CellsOf, KnCells, knc, Nat.reduceAdd] at hc
          clear hv1 hv2
          cases v1 with
          | false =>
            cases v2 with
            | false =>
              repeat' (first | (go_big_may; (first
    | go_skip
    | ((first
        | (go_at_call 5; refine Calls.mono (live_calls _ (errEnv_ext he'.out H.ext) (tabAt_ext ht'.out H.ext)) ?_; rintro e w' ⟨rfl, H'⟩; replace H := H.of_ext H'; clear H')
        | (refine loud_ rfl ?_; refine wpList_plain rfl (fun K hK => ?_); (first | (refine op_box _ _ rfl H (fun b w' H1 => hK _ _ ?_)) | (refine op_alloc _ rfl (zero_of _ _ rfl) H (fun b w' H1 => hK _ _ ?_)) | (refine op_store _ _ _ rfl rfl rfl H (by repeat (first | exact Split.here _ _ | apply Split.there)) (by kernel_rfl) (by kernel_rfl) (by kernel_rfl) (fun w' H1 => hK _ _ ?_)) | (refine op_buildSlice_all _ _ _ rfl (by first | exact elem22 | exact elem60 | exact elem66 | exact elem72 | exact elem74) (by kernel_rfl) (by kernel_rfl) (by kernel_rfl) H (fun b w' H1 => hK _ _ ?_))); clear hK K; replace H := H1; clear H1)); (try clear hc); (try simp only [nrm, splice, Value.cells, Nat.reduceAdd, Act.eval, Act.put] at H); have hc := H.cells; simp only [CellsOf, KnCells, knc, Nat.reduceAdd] at hc))) | go_values | go_skip | go_guarded | go_step | go_upon | go_back | dsimp only)
              go_ret
              exact ⟨rfl, H.ext⟩
            | true =>
              repeat' (first | (go_big_may; (first
    | go_skip
    | ((first
        | (go_at_call 5; refine Calls.mono (live_calls _ (errEnv_ext he'.out H.ext) (tabAt_ext ht'.out H.ext)) ?_; rintro e w' ⟨rfl, H'⟩; replace H := H.of_ext H'; clear H')
        | (refine loud_ rfl ?_; refine wpList_plain rfl (fun K hK => ?_); (first | (refine op_box _ _ rfl H (fun b w' H1 => hK _ _ ?_)) | (refine op_alloc _ rfl (zero_of _ _ rfl) H (fun b w' H1 => hK _ _ ?_)) | (refine op_store _ _ _ rfl rfl rfl H (by repeat (first | exact Split.here _ _ | apply Split.there)) (by kernel_rfl) (by kernel_rfl) (by kernel_rfl) (fun w' H1 => hK _ _ ?_)) | (refine op_buildSlice_all _ _ _ rfl (by first | exact elem22 | exact elem60 | exact elem66 | exact elem72 | exact elem74) (by kernel_rfl) (by kernel_rfl) (by kernel_rfl) H (fun b w' H1 => hK _ _ ?_))); clear hK K; replace H := H1; clear H1)); (try clear hc); (try simp only [nrm, splice, Value.cells, Nat.reduceAdd, Act.eval, Act.put] at H); have hc := H.cells; simp only [CellsOf, KnCells, knc, Nat.reduceAdd] at hc))) | go_values | go_skip | go_guarded | go_step | go_upon | go_back | dsimp only)
              go_ret
              exact ⟨rfl, H.ext⟩
          | true =>
            cases v2 with
            | false =>
              repeat' (first | (go_big_may; (first
    | go_skip
    | ((first
        | (go_at_call 5; refine Calls.mono (live_calls _ (errEnv_ext he'.out H.ext) (tabAt_ext ht'.out H.ext)) ?_; rintro e w' ⟨rfl, H'⟩; replace H := H.of_ext H'; clear H')
        | (refine loud_ rfl ?_; refine wpList_plain rfl (fun K hK => ?_); (first | (refine op_box _ _ rfl H (fun b w' H1 => hK _ _ ?_)) | (refine op_alloc _ rfl (zero_of _ _ rfl) H (fun b w' H1 => hK _ _ ?_)) | (refine op_store _ _ _ rfl rfl rfl H (by repeat (first | exact Split.here _ _ | apply Split.there)) (by kernel_rfl) (by kernel_rfl) (by kernel_rfl) (fun w' H1 => hK _ _ ?_)) | (refine op_buildSlice_all _ _ _ rfl (by first | exact elem22 | exact elem60 | exact elem66 | exact elem72 | exact elem74) (by kernel_rfl) (by kernel_rfl) (by kernel_rfl) H (fun b w' H1 => hK _ _ ?_))); clear hK K; replace H := H1; clear H1)); (try clear hc); (try simp only [nrm, splice, Value.cells, Nat.reduceAdd, Act.eval, Act.put] at H); have hc := H.cells; simp only [CellsOf, KnCells, knc, Nat.reduceAdd] at hc))) | go_values | go_skip | go_guarded | go_step | go_upon | go_back | dsimp only)
              go_ret
              exact ⟨rfl, H.ext⟩
            | true =>
              repeat' (first | (go_big_may; (first
    | go_skip
    | ((first
        | (go_at_call 5; refine Calls.mono (live_calls _ (errEnv_ext he'.out H.ext) (tabAt_ext ht'.out H.ext)) ?_; rintro e w' ⟨rfl, H'⟩; replace H := H.of_ext H'; clear H')
        | (refine loud_ rfl ?_; refine wpList_plain rfl (fun K hK => ?_); (first | (refine op_box _ _ rfl H (fun b w' H1 => hK _ _ ?_)) | (refine op_alloc _ rfl (zero_of _ _ rfl) H (fun b w' H1 => hK _ _ ?_)) | (refine op_store _ _ _ rfl rfl rfl H (by repeat (first | exact Split.here _ _ | apply Split.there)) (by kernel_rfl) (by kernel_rfl) (by kernel_rfl) (fun w' H1 => hK _ _ ?_)) | (refine op_buildSlice_all _ _ _ rfl (by first | exact elem22 | exact elem60 | exact elem66 | exact elem72 | exact elem74) (by kernel_rfl) (by kernel_rfl) (by kernel_rfl) H (fun b w' H1 => hK _ _ ?_))); clear hK K; replace H := H1; clear H1)); (try clear hc); (try simp only [nrm, splice, Value.cells, Nat.reduceAdd, Act.eval, Act.put] at H); have hc := H.cells; simp only [CellsOf, KnCells, knc, Nat.reduceAdd] at hc))) | go_values | go_skip | go_guarded | go_step | go_upon | go_back | dsimp only)
              go_ret
              exact ⟨rfl, H.ext⟩
end Go.Proofs.YtikaldcoakpfoaaGreatDoor
