import Derived.Test.YtikaldcoakpfoaaGreatDoorSetB
import Derived.Test.YtikaldcoakpfoaaGreatDoorCpuG
import Derived.Deep.DeepCutAuto
-- MORE
-- SUB2
namespace Go.Proofs.YtikaldcoakpfoaaGreatDoor
set_option linter.unusedVariables false
set_option linter.unusedSimpArgs false
set_option linter.unnecessarySimpa false
open Go Go.RowKit Go.V Go.Lib

def AtSup (w : World) (m m2 r clock clock2 : Nat) (es es2 : Array MapEntry) (l : List Int) (wr : World) : Prop := ∃ (seen : Array Nat) (gs : List MapEntry), Hid (SeenIs es2 seen gs) ∧ Hid (∀ x, KeyIn gs x → x ∈ l) ∧
  St [] w wr [(true, .is r (.mapIter (some m2) clock2 seen clock2)), (false, .is m (.map es clock)), (false, .is m2 (.map es2 clock2))]
theorem key_mem {es : Array MapEntry} {l : List Int} {k : Int} {v : Value} {b : Nat} (hk : es.toList.map (·.key) = l.map ki) (h : (⟨ki k, v, b⟩ : MapEntry) ∈ es.toList) : k ∈ l := by
  have : ki k ∈ es.toList.map (·.key) := List.mem_map.2 ⟨_, h, rfl⟩
  rw [hk] at this
  obtain ⟨y, hy, e2⟩ := List.mem_map.1 this
  rw [← ki_inj e2]
  exact hy
set_option maxHeartbeats 800000 in
set_option maxRecDepth 8000 in
theorem ssup_calls (m clock m2 clock2 : Nat) (es es2 : Array MapEntry) (l l2 : List Int) (hl : Hid (SetI es clock l)) (hl2 : Hid (SetI es2 clock2 l2)) (w : World) (H : St [] w w [(false, .is m (.map es clock)), (false, .is m2 (.map es2 clock2))]) :
    Calls Tryz.prog 20 #[.map (some m), .map (some m2)] w fun e w' => e = .returned (.bool (decide (∀ x ∈ l2, x ∈ l))) ∧ Ext [] w w' := by
  go_enter Tryz.func20, Tryz.ntmps20
  repeat' (first | (go_big_may; (first
    | go_skip
    | (refine wpList_plain rfl (fun K hK => ?_); (refine op_range _ _ _ _ rfl setU (es := es2) (clock := clock2) rfl H (H.obj (b := m2) (by repeat (first | exact Split.here _ _ | apply Split.there))) (fun r w' H1 => hK _ _ ?_); clear hK K; replace H := H1; clear H1; (try clear hc); (try simp only [nrm, splice, Value.cells, Nat.reduceAdd, Act.eval, Act.put] at H); have hc := H.cells; simp only [CellsOf, KnCells, knc, Nat.reduceAdd] at hc))
    | ((first
        | (refine loud_ rfl ?_; refine wpList_plain rfl (fun K hK => ?_); (first | (refine op_box _ _ rfl H (fun b w' H1 => hK _ _ ?_)) | (refine op_alloc _ rfl (zero_of _ _ rfl) H (fun b w' H1 => hK _ _ ?_)) | (refine op_store _ _ _ rfl rfl rfl H (by repeat (first | exact Split.here _ _ | apply Split.there)) (by kernel_rfl) (by kernel_rfl) (by kernel_rfl) (fun w' H1 => hK _ _ ?_)) | (refine op_buildSlice_all _ _ _ rfl (by first | exact elem22 | exact elem60 | exact elem66 | exact elem72 | exact elem74) (by kernel_rfl) (by kernel_rfl) (by kernel_rfl) H (fun b w' H1 => hK _ _ ?_))); clear hK K; replace H := H1; clear H1)); (try clear hc); (try simp only [nrm, splice, Value.cells, Nat.reduceAdd, Act.eval, Act.put] at H); have hc := H.cells; simp only [CellsOf, KnCells, knc, Nat.reduceAdd] at hc))) | go_values | go_skip | go_guarded | go_step | go_upon | go_back | dsimp only)
  (try simp only [Act.put, slt])
  have hA0 : AtSup w m m2 r clock clock2 es es2 l w' := ⟨#[], [], seen_nil _, fun x h => absurd h (keyIn_nil x), H.sel (by repeat (first | exact Sel.nil _ | (apply Sel.cons; focus (repeat (first | exact Split.here _ _ | apply Split.there)))))⟩
  clear H
  (try clear hc)
  go_loopw [] (AtSup w m m2 r clock clock2 es es2 l) (fun wr => wr.rangeLeft m2 r)
  case atStart => exact hA0
  case round =>
    clear hA0
    obtain ⟨seen, gs, hs, hin, H⟩ := hrel
    have hleft := Lib.hid (range_left (H.obj (b := m2) (by repeat (first | exact Split.here _ _ | apply Split.there))) (H.obj (b := r) (by repeat (first | exact Split.here _ _ | apply Split.there))))
    have hborn := hl2.out.2.1
    have hnd := hl2.out.2.2.1
    have hkeys := Lib.hid (setM_keys hl2.out)
    by_cases hlf : (leftOf es2 seen).size = 0
    · have hall := Lib.hid (keyIn_all hkeys.out (seen_all hs.out hlf hnd))
      have hgl := Lib.hid (seen_all hs.out hlf hnd).length_eq
      have hc := H.cells; simp only [CellsOf, KnCells, knc, Nat.reduceAdd] at hc
      repeat' (first | (go_big_may; (first
    | go_skip
    | (refine wpList_plain rfl (fun K hK => ?_); refine op_next_done _ rfl rfl H (by repeat (first | exact Split.here _ _ | apply Split.there)) (H.obj (by repeat (first | exact Split.here _ _ | apply Split.there))) hborn (Nat.le_refl _) hlf (hK _ _ ?_); clear hK K)
    | ((first
        | (refine loud_ rfl ?_; refine wpList_plain rfl (fun K hK => ?_); (first | (refine op_box _ _ rfl H (fun b w' H1 => hK _ _ ?_)) | (refine op_alloc _ rfl (zero_of _ _ rfl) H (fun b w' H1 => hK _ _ ?_)) | (refine op_store _ _ _ rfl rfl rfl H (by repeat (first | exact Split.here _ _ | apply Split.there)) (by kernel_rfl) (by kernel_rfl) (by kernel_rfl) (fun w' H1 => hK _ _ ?_)) | (refine op_buildSlice_all _ _ _ rfl (by first | exact elem22 | exact elem60 | exact elem66 | exact elem72 | exact elem74) (by kernel_rfl) (by kernel_rfl) (by kernel_rfl) H (fun b w' H1 => hK _ _ ?_))); clear hK K; replace H := H1; clear H1)); (try clear hc); (try simp only [nrm, splice, Value.cells, Nat.reduceAdd, Act.eval, Act.put] at H); have hc := H.cells; simp only [CellsOf, KnCells, knc, Nat.reduceAdd] at hc))) | go_values | go_skip | go_guarded | go_step | go_upon | go_back | dsimp only)
      go_ret
      exact ⟨by rw [decide_eq_true (fun x hx => hin.out x ((hall.out x).2 hx))]; rfl, H.ext⟩
    · have hc := H.cells; simp only [CellsOf, KnCells, knc, Nat.reduceAdd] at hc
      go_upto_region 3 with (first
    | go_skip
    | (refine wpList_plain rfl (fun K hK => ?_); (refine op_next_more _ rfl rfl H (by repeat (first | exact Split.here _ _ | apply Split.there)) (H.obj (by repeat (first | exact Split.here _ _ | apply Split.there))) hborn (Nat.le_refl _) hlf (fun en w' he H1 => hK _ _ ?_); clear hK K; replace H := H1; clear H1; (try clear hc); (try simp only [nrm, splice, Value.cells, Nat.reduceAdd, Act.eval, Act.put] at H); have hc := H.cells; simp only [CellsOf, KnCells, knc, Nat.reduceAdd] at hc))
    | ((first
        | (refine loud_ rfl ?_; refine wpList_plain rfl (fun K hK => ?_); (first | (refine op_box _ _ rfl H (fun b w' H1 => hK _ _ ?_)) | (refine op_alloc _ rfl (zero_of _ _ rfl) H (fun b w' H1 => hK _ _ ?_)) | (refine op_store _ _ _ rfl rfl rfl H (by repeat (first | exact Split.here _ _ | apply Split.there)) (by kernel_rfl) (by kernel_rfl) (by kernel_rfl) (fun w' H1 => hK _ _ ?_)) | (refine op_buildSlice_all _ _ _ rfl (by first | exact elem22 | exact elem60 | exact elem66 | exact elem72 | exact elem74) (by kernel_rfl) (by kernel_rfl) (by kernel_rfl) H (fun b w' H1 => hK _ _ ?_))); clear hK K; replace H := H1; clear H1)); (try clear hc); (try simp only [nrm, splice, Value.cells, Nat.reduceAdd, Act.eval, Act.put] at H); have hc := H.cells; simp only [CellsOf, KnCells, knc, Nat.reduceAdd] at hc))
      have hlt := Lib.hid (left_shrinks es2 seen en he)
      have hsp := Lib.hid (seen_push hs.out he)
      have hmem := Lib.hid (mem_left he).1
      obtain ⟨sk, hsk⟩ : ∃ k, en.key = ki k := by
        have : en.key ∈ es2.toList.map (·.key) := List.mem_map.2 ⟨en, hmem.out, rfl⟩
        rw [hkeys.out] at this
        obtain ⟨k, _, hk⟩ := List.mem_map.1 this
        exact ⟨k, hk.symm⟩
      clear he
      obtain ⟨ky, vl, bo⟩ := en
      simp only at hsk
      subst hsk
      have hkm := key_mem hkeys.out hmem.out
      by_cases hq : sk ∈ l
      · have hd : decide (sk ∈ l) = true := by simpa using hq
        have hin2 : Hid (∀ x, KeyIn (gs ++ [(⟨ki sk, vl, bo⟩ : MapEntry)]) x → x ∈ l) := by
          intro x hx
          rcases (keyIn_snoc _ _ _ _ _).1 hx with h | rfl
          · exact hin.out x h
          · exact hq
        have hq2 := Lib.hid hq
        clear hq
        replace hkm := Lib.hid hkm
        have hc := H.cells; simp only [CellsOf, KnCells, knc, Nat.reduceAdd] at hc
        repeat' (first | (go_big_may; (first
    | go_skip
    | (refine wpList_plain rfl (fun K hK => ?_); refine op_entry _ rfl rfl H (by repeat (first | exact Split.here _ _ | apply Split.there)) (H.obj (by repeat (first | exact Split.here _ _ | apply Split.there))) hmem.out hnd (hK _ _ ?_); clear hK K)
    | ((first
        | (go_at_call 42; refine Calls.mono (has_calls m clock es l sk hl _ (H.obj (b := m) (by repeat (first | exact Split.here _ _ | apply Split.there)))) ?_; rintro e w' ⟨rfl, H'⟩; replace H := H.of_ext H'; clear H')
        | (refine loud_ rfl ?_; refine wpList_plain rfl (fun K hK => ?_); (first | (refine op_box _ _ rfl H (fun b w' H1 => hK _ _ ?_)) | (refine op_alloc _ rfl (zero_of _ _ rfl) H (fun b w' H1 => hK _ _ ?_)) | (refine op_store _ _ _ rfl rfl rfl H (by repeat (first | exact Split.here _ _ | apply Split.there)) (by kernel_rfl) (by kernel_rfl) (by kernel_rfl) (fun w' H1 => hK _ _ ?_)) | (refine op_buildSlice_all _ _ _ rfl (by first | exact elem22 | exact elem60 | exact elem66 | exact elem72 | exact elem74) (by kernel_rfl) (by kernel_rfl) (by kernel_rfl) H (fun b w' H1 => hK _ _ ?_))); clear hK K; replace H := H1; clear H1)); (try clear hc); (try simp only [nrm, splice, Value.cells, Nat.reduceAdd, Act.eval, Act.put] at H); have hc := H.cells; simp only [CellsOf, KnCells, knc, Nat.reduceAdd] at hc))) | go_values | go_skip | go_guarded | go_step | go_upon | go_back | dsimp only)
        exact ⟨⟨_, _, hsp.out, hin2, H.sel (by repeat (first | exact Sel.nil _ | (apply Sel.cons; focus (repeat (first | exact Split.here _ _ | apply Split.there)))))⟩, by have hleft2 := range_left (H.obj (b := m2) (by repeat (first | exact Split.here _ _ | apply Split.there))) (H.obj (b := r) (by repeat (first | exact Split.here _ _ | apply Split.there))); rw [hleft2, hleft.out]; exact hlt.out⟩
      · have hd : decide (sk ∈ l) = false := by simpa using hq
        have hq2 := Lib.hid hq
        clear hq
        replace hkm := Lib.hid hkm
        have hc := H.cells; simp only [CellsOf, KnCells, knc, Nat.reduceAdd] at hc
        repeat' (first | (go_big_may; (first
    | go_skip
    | (refine wpList_plain rfl (fun K hK => ?_); refine op_entry _ rfl rfl H (by repeat (first | exact Split.here _ _ | apply Split.there)) (H.obj (by repeat (first | exact Split.here _ _ | apply Split.there))) hmem.out hnd (hK _ _ ?_); clear hK K)
    | ((first
        | (go_at_call 42; refine Calls.mono (has_calls m clock es l sk hl _ (H.obj (b := m) (by repeat (first | exact Split.here _ _ | apply Split.there)))) ?_; rintro e w' ⟨rfl, H'⟩; replace H := H.of_ext H'; clear H')
        | (refine loud_ rfl ?_; refine wpList_plain rfl (fun K hK => ?_); (first | (refine op_box _ _ rfl H (fun b w' H1 => hK _ _ ?_)) | (refine op_alloc _ rfl (zero_of _ _ rfl) H (fun b w' H1 => hK _ _ ?_)) | (refine op_store _ _ _ rfl rfl rfl H (by repeat (first | exact Split.here _ _ | apply Split.there)) (by kernel_rfl) (by kernel_rfl) (by kernel_rfl) (fun w' H1 => hK _ _ ?_)) | (refine op_buildSlice_all _ _ _ rfl (by first | exact elem22 | exact elem60 | exact elem66 | exact elem72 | exact elem74) (by kernel_rfl) (by kernel_rfl) (by kernel_rfl) H (fun b w' H1 => hK _ _ ?_))); clear hK K; replace H := H1; clear H1)); (try clear hc); (try simp only [nrm, splice, Value.cells, Nat.reduceAdd, Act.eval, Act.put] at H); have hc := H.cells; simp only [CellsOf, KnCells, knc, Nat.reduceAdd] at hc))) | go_values | go_skip | go_guarded | go_step | go_upon | go_back | dsimp only)
        go_ret
        exact ⟨by rw [decide_eq_false (p := ∀ x ∈ l2, x ∈ l) (fun h => hq2.out (h sk hkm.out))]; rfl, H.ext⟩
set_option maxHeartbeats 800000 in
set_option maxRecDepth 8000 in
theorem sequal_calls (m clock m2 clock2 : Nat) (es es2 : Array MapEntry) (l l2 : List Int) (hl : Hid (SetI es clock l)) (hl2 : Hid (SetI es2 clock2 l2)) (w : World) (H : St [] w w [(false, .is m (.map es clock)), (false, .is m2 (.map es2 clock2))]) :
    Calls Tryz.prog 19 #[.map (some m), .map (some m2)] w fun e w' => e = .returned (.bool (decide (l.length = l2.length ∧ ∀ x ∈ l2, x ∈ l))) ∧ Ext [] w w' := by
  by_cases hlen : l.length = l2.length
  · have hlen2 : (l.length : Int) = (l2.length : Int) := by omega
    have hfin : Hid (decide (l.length = l2.length ∧ ∀ x ∈ l2, x ∈ l) = decide (∀ x ∈ l2, x ∈ l)) := by show _ = _; congr 1; simp [hlen]
    replace hlen := Lib.hid hlen
    go_enter Tryz.func19, Tryz.ntmps19
    repeat' (first | (go_big_may; (first
    | go_skip
    | ((first
        | (go_at_call 40; refine Calls.mono (slen_calls m clock es l hl _ (H.obj (b := m) (by repeat (first | exact Split.here _ _ | apply Split.there)))) ?_; rintro e w' ⟨rfl, H'⟩; replace H := H.of_ext H'; clear H')
        | (go_at_call 40; refine Calls.mono (slen_calls m2 clock2 es2 l2 hl2 _ (H.obj (b := m2) (by repeat (first | exact Split.here _ _ | apply Split.there)))) ?_; rintro e w' ⟨rfl, H'⟩; replace H := H.of_ext H'; clear H')
        | (go_at_call 20; refine Calls.mono (ssup_calls m clock m2 clock2 es es2 l l2 hl hl2 _ (H.pick (by repeat (first | exact Picks.nil _ | (apply Picks.wr; focus (repeat (first | exact Split.here _ _ | apply Split.there))) | (apply Picks.rd; focus (repeat (first | exact Split.here _ _ | apply Split.there))))))) ?_; rintro e w' ⟨rfl, H'⟩; replace H := H.of_ext H'; clear H')
        | (refine loud_ rfl ?_; refine wpList_plain rfl (fun K hK => ?_); (first | (refine op_box _ _ rfl H (fun b w' H1 => hK _ _ ?_)) | (refine op_alloc _ rfl (zero_of _ _ rfl) H (fun b w' H1 => hK _ _ ?_)) | (refine op_store _ _ _ rfl rfl rfl H (by repeat (first | exact Split.here _ _ | apply Split.there)) (by kernel_rfl) (by kernel_rfl) (by kernel_rfl) (fun w' H1 => hK _ _ ?_)) | (refine op_buildSlice_all _ _ _ rfl (by first | exact elem22 | exact elem60 | exact elem66 | exact elem72 | exact elem74) (by kernel_rfl) (by kernel_rfl) (by kernel_rfl) H (fun b w' H1 => hK _ _ ?_))); clear hK K; replace H := H1; clear H1)); (try clear hc); (try simp only [nrm, splice, Value.cells, Nat.reduceAdd, Act.eval, Act.put] at H); have hc := H.cells; simp only [CellsOf, KnCells, knc, Nat.reduceAdd] at hc))) | go_values | go_skip | go_guarded | go_step | go_upon | go_back | dsimp only)
    go_ret
    exact ⟨by rw [hfin.out]; rfl, H.ext⟩
  · have hlen2 : ¬ (l.length : Int) = (l2.length : Int) := by omega
    have hfin : Hid (decide (l.length = l2.length ∧ ∀ x ∈ l2, x ∈ l) = false) := by show _ = _; rw [decide_eq_false]; exact fun h => hlen h.1
    replace hlen := Lib.hid hlen
    go_enter Tryz.func19, Tryz.ntmps19
    repeat' (first | (go_big_may; (first
    | go_skip
    | ((first
        | (go_at_call 40; refine Calls.mono (slen_calls m clock es l hl _ (H.obj (b := m) (by repeat (first | exact Split.here _ _ | apply Split.there)))) ?_; rintro e w' ⟨rfl, H'⟩; replace H := H.of_ext H'; clear H')
        | (go_at_call 40; refine Calls.mono (slen_calls m2 clock2 es2 l2 hl2 _ (H.obj (b := m2) (by repeat (first | exact Split.here _ _ | apply Split.there)))) ?_; rintro e w' ⟨rfl, H'⟩; replace H := H.of_ext H'; clear H')
        | (go_at_call 20; refine Calls.mono (ssup_calls m clock m2 clock2 es es2 l l2 hl hl2 _ (H.pick (by repeat (first | exact Picks.nil _ | (apply Picks.wr; focus (repeat (first | exact Split.here _ _ | apply Split.there))) | (apply Picks.rd; focus (repeat (first | exact Split.here _ _ | apply Split.there))))))) ?_; rintro e w' ⟨rfl, H'⟩; replace H := H.of_ext H'; clear H')
        | (refine loud_ rfl ?_; refine wpList_plain rfl (fun K hK => ?_); (first | (refine op_box _ _ rfl H (fun b w' H1 => hK _ _ ?_)) | (refine op_alloc _ rfl (zero_of _ _ rfl) H (fun b w' H1 => hK _ _ ?_)) | (refine op_store _ _ _ rfl rfl rfl H (by repeat (first | exact Split.here _ _ | apply Split.there)) (by kernel_rfl) (by kernel_rfl) (by kernel_rfl) (fun w' H1 => hK _ _ ?_)) | (refine op_buildSlice_all _ _ _ rfl (by first | exact elem22 | exact elem60 | exact elem66 | exact elem72 | exact elem74) (by kernel_rfl) (by kernel_rfl) (by kernel_rfl) H (fun b w' H1 => hK _ _ ?_))); clear hK K; replace H := H1; clear H1)); (try clear hc); (try simp only [nrm, splice, Value.cells, Nat.reduceAdd, Act.eval, Act.put] at H); have hc := H.cells; simp only [CellsOf, KnCells, knc, Nat.reduceAdd] at hc))) | go_values | go_skip | go_guarded | go_step | go_upon | go_back | dsimp only)
    go_ret
    exact ⟨by rw [hfin.out]; rfl, H.ext⟩
def AtHasAll (w : World) (m clock : Nat) (es : Array MapEntry) (src : Option Addr) (l ks : List Int) (i : Value) (wr : World) : Prop := ∃ j : Nat, i = .int .i64 j ∧ j ≤ ks.length ∧ Hid (∀ x ∈ ks.take j, x ∈ l) ∧
  St [] w wr [(false, .is m (.map es clock)), (false, soft src (intsN ks))]
set_option maxHeartbeats 800000 in
set_option maxRecDepth 8000 in
theorem shall_calls (m clock : Nat) (es : Array MapEntry) (l : List Int) (src : Option Addr) (ks : List Int) (n c : Nat) (hl : Hid (SetI es clock l)) (hn : Hid (ks.length = n)) (hnn : n ≤ 2147483647) (w : World) (H : St [] w w [(false, .is m (.map es clock)), (false, soft src (intsN ks))]) :
    Calls Tryz.prog 22 #[.map (some m), .slice src n c] w fun e w' => e = .returned (.bool (decide (∀ x ∈ ks, x ∈ l))) ∧ Ext [] w w' := by
  go_enter Tryz.func22, Tryz.ntmps22
  repeat' (first | (go_big_may; (first
    | ((first
        | (refine loud_ rfl ?_; refine wpList_plain rfl (fun K hK => ?_); (first | (refine op_box _ _ rfl H (fun b w' H1 => hK _ _ ?_)) | (refine op_alloc _ rfl (zero_of _ _ rfl) H (fun b w' H1 => hK _ _ ?_)) | (refine op_store _ _ _ rfl rfl rfl H (by repeat (first | exact Split.here _ _ | apply Split.there)) (by kernel_rfl) (by kernel_rfl) (by kernel_rfl) (fun w' H1 => hK _ _ ?_)) | (refine op_buildSlice_all _ _ _ rfl (by first | exact elem22 | exact elem60 | exact elem66 | exact elem72 | exact elem74) (by kernel_rfl) (by kernel_rfl) (by kernel_rfl) H (fun b w' H1 => hK _ _ ?_))); clear hK K; replace H := H1; clear H1)); (try clear hc); (try simp only [nrm, splice, Value.cells, Nat.reduceAdd, Act.eval, Act.put] at H); have hc := H.cells; simp only [CellsOf, KnCells, knc, Nat.reduceAdd] at hc))) | go_values | go_skip | go_guarded | go_step | go_upon | go_back | dsimp only)
  go_loopw [9] (AtHasAll w m clock es src l ks) (fun i _ => n - (intOf i).toNat)
  case atStart => exact ⟨0, rfl, Nat.zero_le _, Lib.hid (by simp), H⟩
  case round =>
    clear H
    obtain ⟨j, rfl, hj, hin, H⟩ := hrel
    rw [hn.out] at hj
    by_cases hlt : j < n
    · have hlt' : j < ks.length := by rw [hn.out]; exact hlt
      obtain ⟨b1, o1, rfl, H1⟩ := H.elemSoft (Split.there _ (Split.here _ _)) j [ki ks[j]] (by show 0 < 1; omega) (by rw [intsN_len]; show j + 1 ≤ _; omega) (by intro i hi; obtain rfl : i = 0 := (by simpa using hi); simp [intsN, hlt'])
      have hcat : Hid (ks.take (j + 1) = ks.take j ++ [ks[j]]) := (List.take_append_getElem hlt').symm
      have hkm : Hid (ks[j] ∈ ks) := List.getElem_mem hlt'
      generalize ks[j] = k at *
      replace H := H1
      clear H1
      by_cases hq : k ∈ l
      · have hd : decide (k ∈ l) = true := by simpa using hq
        replace hq := Lib.hid hq
        have hc := H.cells; simp only [CellsOf, KnCells, knc, Nat.reduceAdd] at hc
        repeat' (first | (go_big_may; (first
    | go_skip
    | ((first
        | (go_at_call 42; refine Calls.mono (has_calls m clock es l k hl _ (H.obj (b := m) (by repeat (first | exact Split.here _ _ | apply Split.there)))) ?_; rintro e w' ⟨rfl, H'⟩; replace H := H.of_ext H'; clear H')
        | (refine loud_ rfl ?_; refine wpList_plain rfl (fun K hK => ?_); (first | (refine op_box _ _ rfl H (fun b w' H1 => hK _ _ ?_)) | (refine op_alloc _ rfl (zero_of _ _ rfl) H (fun b w' H1 => hK _ _ ?_)) | (refine op_store _ _ _ rfl rfl rfl H (by repeat (first | exact Split.here _ _ | apply Split.there)) (by kernel_rfl) (by kernel_rfl) (by kernel_rfl) (fun w' H1 => hK _ _ ?_)) | (refine op_buildSlice_all _ _ _ rfl (by first | exact elem22 | exact elem60 | exact elem66 | exact elem72 | exact elem74) (by kernel_rfl) (by kernel_rfl) (by kernel_rfl) H (fun b w' H1 => hK _ _ ?_))); clear hK K; replace H := H1; clear H1)); (try clear hc); (try simp only [nrm, splice, Value.cells, Nat.reduceAdd, Act.eval, Act.put] at H); have hc := H.cells; simp only [CellsOf, KnCells, knc, Nat.reduceAdd] at hc))) | go_values | go_skip | go_guarded | go_step | go_upon | go_back | dsimp only)
        exact ⟨⟨j + 1, by go_num, by omega, (by
          show ∀ x ∈ _, _
          rw [hcat.out]
          intro x hx
          rcases List.mem_append.1 hx with hx | hx
          · exact hin.out x hx
          · simp only [List.mem_singleton] at hx
            subst hx
            exact hq.out), H.sel (by repeat (first | exact Sel.nil _ | (apply Sel.cons; focus (repeat (first | exact Split.here _ _ | apply Split.there)))))⟩, by simp [intOf]; omega⟩
      · have hd : decide (k ∈ l) = false := by simpa using hq
        replace hq := Lib.hid hq
        have hc := H.cells; simp only [CellsOf, KnCells, knc, Nat.reduceAdd] at hc
        repeat' (first | (go_big_may; (first
    | go_skip
    | ((first
        | (go_at_call 42; refine Calls.mono (has_calls m clock es l k hl _ (H.obj (b := m) (by repeat (first | exact Split.here _ _ | apply Split.there)))) ?_; rintro e w' ⟨rfl, H'⟩; replace H := H.of_ext H'; clear H')
        | (refine loud_ rfl ?_; refine wpList_plain rfl (fun K hK => ?_); (first | (refine op_box _ _ rfl H (fun b w' H1 => hK _ _ ?_)) | (refine op_alloc _ rfl (zero_of _ _ rfl) H (fun b w' H1 => hK _ _ ?_)) | (refine op_store _ _ _ rfl rfl rfl H (by repeat (first | exact Split.here _ _ | apply Split.there)) (by kernel_rfl) (by kernel_rfl) (by kernel_rfl) (fun w' H1 => hK _ _ ?_)) | (refine op_buildSlice_all _ _ _ rfl (by first | exact elem22 | exact elem60 | exact elem66 | exact elem72 | exact elem74) (by kernel_rfl) (by kernel_rfl) (by kernel_rfl) H (fun b w' H1 => hK _ _ ?_))); clear hK K; replace H := H1; clear H1)); (try clear hc); (try simp only [nrm, splice, Value.cells, Nat.reduceAdd, Act.eval, Act.put] at H); have hc := H.cells; simp only [CellsOf, KnCells, knc, Nat.reduceAdd] at hc))) | go_values | go_skip | go_guarded | go_step | go_upon | go_back | dsimp only)
        go_ret
        exact ⟨by rw [decide_eq_false (p := ∀ x ∈ ks, x ∈ l) (fun h => hq.out (h k hkm.out))]; rfl, H.ext⟩
    · obtain rfl : j = n := by omega
      rw [List.take_of_length_le (by rw [hn.out]; exact Nat.le_refl _)] at hin
      have hc := H.cells; simp only [CellsOf, KnCells, knc, Nat.reduceAdd] at hc
      repeat' (first | (go_big_may; (first
    | ((first
        | (refine loud_ rfl ?_; refine wpList_plain rfl (fun K hK => ?_); (first | (refine op_box _ _ rfl H (fun b w' H1 => hK _ _ ?_)) | (refine op_alloc _ rfl (zero_of _ _ rfl) H (fun b w' H1 => hK _ _ ?_)) | (refine op_store _ _ _ rfl rfl rfl H (by repeat (first | exact Split.here _ _ | apply Split.there)) (by kernel_rfl) (by kernel_rfl) (by kernel_rfl) (fun w' H1 => hK _ _ ?_)) | (refine op_buildSlice_all _ _ _ rfl (by first | exact elem22 | exact elem60 | exact elem66 | exact elem72 | exact elem74) (by kernel_rfl) (by kernel_rfl) (by kernel_rfl) H (fun b w' H1 => hK _ _ ?_))); clear hK K; replace H := H1; clear H1)); (try clear hc); (try simp only [nrm, splice, Value.cells, Nat.reduceAdd, Act.eval, Act.put] at H); have hc := H.cells; simp only [CellsOf, KnCells, knc, Nat.reduceAdd] at hc))) | go_values | go_skip | go_guarded | go_step | go_upon | go_back | dsimp only)
      go_ret
      exact ⟨by rw [decide_eq_true hin.out]; rfl, H.ext⟩
def AtHasAny (w : World) (m clock : Nat) (es : Array MapEntry) (src : Option Addr) (l ks : List Int) (i : Value) (wr : World) : Prop := ∃ j : Nat, i = .int .i64 j ∧ j ≤ ks.length ∧ Hid (∀ x ∈ ks.take j, x ∉ l) ∧
  St [] w wr [(false, .is m (.map es clock)), (false, soft src (intsN ks))]
set_option maxHeartbeats 800000 in
set_option maxRecDepth 8000 in
theorem shany_calls (m clock : Nat) (es : Array MapEntry) (l : List Int) (src : Option Addr) (ks : List Int) (n c : Nat) (hl : Hid (SetI es clock l)) (hn : Hid (ks.length = n)) (hnn : n ≤ 2147483647) (w : World) (H : St [] w w [(false, .is m (.map es clock)), (false, soft src (intsN ks))]) :
    Calls Tryz.prog 23 #[.map (some m), .slice src n c] w fun e w' => e = .returned (.bool (decide (∃ x ∈ ks, x ∈ l))) ∧ Ext [] w w' := by
  go_enter Tryz.func23, Tryz.ntmps23
  repeat' (first | (go_big_may; (first
    | ((first
        | (refine loud_ rfl ?_; refine wpList_plain rfl (fun K hK => ?_); (first | (refine op_box _ _ rfl H (fun b w' H1 => hK _ _ ?_)) | (refine op_alloc _ rfl (zero_of _ _ rfl) H (fun b w' H1 => hK _ _ ?_)) | (refine op_store _ _ _ rfl rfl rfl H (by repeat (first | exact Split.here _ _ | apply Split.there)) (by kernel_rfl) (by kernel_rfl) (by kernel_rfl) (fun w' H1 => hK _ _ ?_)) | (refine op_buildSlice_all _ _ _ rfl (by first | exact elem22 | exact elem60 | exact elem66 | exact elem72 | exact elem74) (by kernel_rfl) (by kernel_rfl) (by kernel_rfl) H (fun b w' H1 => hK _ _ ?_))); clear hK K; replace H := H1; clear H1)); (try clear hc); (try simp only [nrm, splice, Value.cells, Nat.reduceAdd, Act.eval, Act.put] at H); have hc := H.cells; simp only [CellsOf, KnCells, knc, Nat.reduceAdd] at hc))) | go_values | go_skip | go_guarded | go_step | go_upon | go_back | dsimp only)
  go_loopw [9] (AtHasAny w m clock es src l ks) (fun i _ => n - (intOf i).toNat)
  case atStart => exact ⟨0, rfl, Nat.zero_le _, Lib.hid (by simp), H⟩
  case round =>
    clear H
    obtain ⟨j, rfl, hj, hin, H⟩ := hrel
    rw [hn.out] at hj
    by_cases hlt : j < n
    · have hlt' : j < ks.length := by rw [hn.out]; exact hlt
      obtain ⟨b1, o1, rfl, H1⟩ := H.elemSoft (Split.there _ (Split.here _ _)) j [ki ks[j]] (by show 0 < 1; omega) (by rw [intsN_len]; show j + 1 ≤ _; omega) (by intro i hi; obtain rfl : i = 0 := (by simpa using hi); simp [intsN, hlt'])
      have hcat : Hid (ks.take (j + 1) = ks.take j ++ [ks[j]]) := (List.take_append_getElem hlt').symm
      have hkm : Hid (ks[j] ∈ ks) := List.getElem_mem hlt'
      generalize ks[j] = k at *
      replace H := H1
      clear H1
      by_cases hq : k ∈ l
      · have hd : decide (k ∈ l) = true := by simpa using hq
        replace hq := Lib.hid hq
        have hc := H.cells; simp only [CellsOf, KnCells, knc, Nat.reduceAdd] at hc
        repeat' (first | (go_big_may; (first
    | go_skip
    | ((first
        | (go_at_call 42; refine Calls.mono (has_calls m clock es l k hl _ (H.obj (b := m) (by repeat (first | exact Split.here _ _ | apply Split.there)))) ?_; rintro e w' ⟨rfl, H'⟩; replace H := H.of_ext H'; clear H')
        | (refine loud_ rfl ?_; refine wpList_plain rfl (fun K hK => ?_); (first | (refine op_box _ _ rfl H (fun b w' H1 => hK _ _ ?_)) | (refine op_alloc _ rfl (zero_of _ _ rfl) H (fun b w' H1 => hK _ _ ?_)) | (refine op_store _ _ _ rfl rfl rfl H (by repeat (first | exact Split.here _ _ | apply Split.there)) (by kernel_rfl) (by kernel_rfl) (by kernel_rfl) (fun w' H1 => hK _ _ ?_)) | (refine op_buildSlice_all _ _ _ rfl (by first | exact elem22 | exact elem60 | exact elem66 | exact elem72 | exact elem74) (by kernel_rfl) (by kernel_rfl) (by kernel_rfl) H (fun b w' H1 => hK _ _ ?_))); clear hK K; replace H := H1; clear H1)); (try clear hc); (try simp only [nrm, splice, Value.cells, Nat.reduceAdd, Act.eval, Act.put] at H); have hc := H.cells; simp only [CellsOf, KnCells, knc, Nat.reduceAdd] at hc))) | go_values | go_skip | go_guarded | go_step | go_upon | go_back | dsimp only)
        go_ret
        exact ⟨by rw [decide_eq_true (p := ∃ x ∈ ks, x ∈ l) ⟨k, hkm.out, hq.out⟩]; rfl, H.ext⟩
      · have hd : decide (k ∈ l) = false := by simpa using hq
        replace hq := Lib.hid hq
        have hc := H.cells; simp only [CellsOf, KnCells, knc, Nat.reduceAdd] at hc
        repeat' (first | (go_big_may; (first
    | go_skip
    | ((first
        | (go_at_call 42; refine Calls.mono (has_calls m clock es l k hl _ (H.obj (b := m) (by repeat (first | exact Split.here _ _ | apply Split.there)))) ?_; rintro e w' ⟨rfl, H'⟩; replace H := H.of_ext H'; clear H')
        | (refine loud_ rfl ?_; refine wpList_plain rfl (fun K hK => ?_); (first | (refine op_box _ _ rfl H (fun b w' H1 => hK _ _ ?_)) | (refine op_alloc _ rfl (zero_of _ _ rfl) H (fun b w' H1 => hK _ _ ?_)) | (refine op_store _ _ _ rfl rfl rfl H (by repeat (first | exact Split.here _ _ | apply Split.there)) (by kernel_rfl) (by kernel_rfl) (by kernel_rfl) (fun w' H1 => hK _ _ ?_)) | (refine op_buildSlice_all _ _ _ rfl (by first | exact elem22 | exact elem60 | exact elem66 | exact elem72 | exact elem74) (by kernel_rfl) (by kernel_rfl) (by kernel_rfl) H (fun b w' H1 => hK _ _ ?_))); clear hK K; replace H := H1; clear H1)); (try clear hc); (try simp only [nrm, splice, Value.cells, Nat.reduceAdd, Act.eval, Act.put] at H); have hc := H.cells; simp only [CellsOf, KnCells, knc, Nat.reduceAdd] at hc))) | go_values | go_skip | go_guarded | go_step | go_upon | go_back | dsimp only)
        exact ⟨⟨j + 1, by go_num, by omega, (by
          show ∀ x ∈ _, _
          rw [hcat.out]
          intro x hx
          rcases List.mem_append.1 hx with hx | hx
          · exact hin.out x hx
          · simp only [List.mem_singleton] at hx
            subst hx
            exact hq.out), H.sel (by repeat (first | exact Sel.nil _ | (apply Sel.cons; focus (repeat (first | exact Split.here _ _ | apply Split.there)))))⟩, by simp [intOf]; omega⟩
    · obtain rfl : j = n := by omega
      rw [List.take_of_length_le (by rw [hn.out]; exact Nat.le_refl _)] at hin
      have hc := H.cells; simp only [CellsOf, KnCells, knc, Nat.reduceAdd] at hc
      repeat' (first | (go_big_may; (first
    | ((first
        | (refine loud_ rfl ?_; refine wpList_plain rfl (fun K hK => ?_); (first | (refine op_box _ _ rfl H (fun b w' H1 => hK _ _ ?_)) | (refine op_alloc _ rfl (zero_of _ _ rfl) H (fun b w' H1 => hK _ _ ?_)) | (refine op_store _ _ _ rfl rfl rfl H (by repeat (first | exact Split.here _ _ | apply Split.there)) (by kernel_rfl) (by kernel_rfl) (by kernel_rfl) (fun w' H1 => hK _ _ ?_)) | (refine op_buildSlice_all _ _ _ rfl (by first | exact elem22 | exact elem60 | exact elem66 | exact elem72 | exact elem74) (by kernel_rfl) (by kernel_rfl) (by kernel_rfl) H (fun b w' H1 => hK _ _ ?_))); clear hK K; replace H := H1; clear H1)); (try clear hc); (try simp only [nrm, splice, Value.cells, Nat.reduceAdd, Act.eval, Act.put] at H); have hc := H.cells; simp only [CellsOf, KnCells, knc, Nat.reduceAdd] at hc))) | go_values | go_skip | go_guarded | go_step | go_upon | go_back | dsimp only)
      go_ret
      exact ⟨by rw [decide_eq_false (p := ∃ x ∈ ks, x ∈ l) (by rintro ⟨x, h1, h2⟩; exact hin.out x h1 h2)]; rfl, H.ext⟩
def DelIs (l ks lr : List Int) : Prop := (∀ x, x ∈ lr ↔ x ∈ l ∧ x ∉ ks) ∧ lr.length ≤ l.length
theorem del_step {l ks lr : List Int} {k : Int} (hn : lr.Nodup) (h : DelIs l ks lr) : DelIs l (ks ++ [k]) (lr.erase k) := by
  refine ⟨fun x => ?_, Nat.le_trans (List.length_erase_le) h.2⟩
  rw [hn.mem_erase_iff, h.1]
  simp
  constructor
  · rintro ⟨a, b, c⟩; exact ⟨b, c, a⟩
  · rintro ⟨a, b, c⟩; exact ⟨c, a, b⟩
def AtDe (w : World) (S : List Nat) (m clock : Nat) (src : Option Addr) (l ks : List Int) (i : Value) (wr : World) : Prop := ∃ (j : Nat) (er : Array MapEntry) (lr : List Int), i = .int .i64 j ∧ j ≤ ks.length ∧ Hid (SetI er clock lr) ∧ Hid (DelIs l (ks.take j) lr) ∧
  St S w wr [(true, .is m (.map er clock)), (false, soft src (intsN ks))]
set_option maxHeartbeats 800000 in
set_option maxRecDepth 8000 in
theorem sdelete_calls (S : List Nat) (m clock : Nat) (es : Array MapEntry) (l : List Int) (src : Option Addr) (ks : List Int) (n c : Nat) (hl : Hid (SetI es clock l)) (hn : Hid (ks.length = n)) (hnn : n ≤ 2147483647) (w : World) (H : St S w w [(true, .is m (.map es clock)), (false, soft src (intsN ks))]) :
    Calls Tryz.prog 21 #[.map (some m), .slice src n c] w fun e w' => ∃ er lr, Hid (SetI er clock lr ∧ DelIs l ks lr) ∧ e = .returned (.map (some m)) ∧ St S w w' [(true, .is m (.map er clock))] := by
  go_enter Tryz.func21, Tryz.ntmps21
  repeat' (first | (go_big_may; (first
    | ((first
        | (refine loud_ rfl ?_; refine wpList_plain rfl (fun K hK => ?_); (first | (refine op_box _ _ rfl H (fun b w' H1 => hK _ _ ?_)) | (refine op_alloc _ rfl (zero_of _ _ rfl) H (fun b w' H1 => hK _ _ ?_)) | (refine op_store _ _ _ rfl rfl rfl H (by repeat (first | exact Split.here _ _ | apply Split.there)) (by kernel_rfl) (by kernel_rfl) (by kernel_rfl) (fun w' H1 => hK _ _ ?_)) | (refine op_buildSlice_all _ _ _ rfl (by first | exact elem22 | exact elem60 | exact elem66 | exact elem72 | exact elem74) (by kernel_rfl) (by kernel_rfl) (by kernel_rfl) H (fun b w' H1 => hK _ _ ?_))); clear hK K; replace H := H1; clear H1)); (try clear hc); (try simp only [nrm, splice, Value.cells, Nat.reduceAdd, Act.eval, Act.put] at H); have hc := H.cells; simp only [CellsOf, KnCells, knc, Nat.reduceAdd] at hc))) | go_values | go_skip | go_guarded | go_step | go_upon | go_back | dsimp only)
  go_loopw [9] (AtDe w S m clock src l ks) (fun i _ => n - (intOf i).toNat)
  case atStart => exact ⟨0, es, l, rfl, Nat.zero_le _, hl, ⟨fun x => by simp, Nat.le_refl _⟩, H⟩
  case round =>
    clear H hl
    obtain ⟨j, er, lr, rfl, hj, hset, hdl, H⟩ := hrel
    rw [hn.out] at hj
    by_cases hlt : j < n
    · have hlt' : j < ks.length := by rw [hn.out]; exact hlt
      obtain ⟨b1, o1, rfl, H1⟩ := H.elemSoft (Split.there _ (Split.here _ _)) j [ki ks[j]] (by show 0 < 1; omega) (by rw [intsN_len]; show j + 1 ≤ _; omega) (by intro i hi; obtain rfl : i = 0 := (by simpa using hi); simp [intsN, hlt'])
      have hcat : Hid (ks.take (j + 1) = ks.take j ++ [ks[j]]) := (List.take_append_getElem hlt').symm
      generalize ks[j] = k at *
      replace H := H1
      clear H1
      have hc := H.cells; simp only [CellsOf, KnCells, knc, Nat.reduceAdd] at hc
      repeat' (first | (go_big_may; (first
    | go_skip
    | (refine wpList_plain rfl (fun K hK => ?_); (refine op_out _ _ _ _ _ _ rfl setU keyN rfl rfl H (by repeat (first | exact Split.here _ _ | apply Split.there)) hset.out (fun es' w' hl1 H1 => hK _ _ ?_); clear hK K; replace H := H1; clear H1; (try clear hc); (try simp only [nrm, splice, Value.cells, Nat.reduceAdd, Act.eval, Act.put] at H); have hc := H.cells; simp only [CellsOf, KnCells, knc, Nat.reduceAdd] at hc))
    | ((first
        | (refine loud_ rfl ?_; refine wpList_plain rfl (fun K hK => ?_); (first | (refine op_box _ _ rfl H (fun b w' H1 => hK _ _ ?_)) | (refine op_alloc _ rfl (zero_of _ _ rfl) H (fun b w' H1 => hK _ _ ?_)) | (refine op_store _ _ _ rfl rfl rfl H (by repeat (first | exact Split.here _ _ | apply Split.there)) (by kernel_rfl) (by kernel_rfl) (by kernel_rfl) (fun w' H1 => hK _ _ ?_)) | (refine op_buildSlice_all _ _ _ rfl (by first | exact elem22 | exact elem60 | exact elem66 | exact elem72 | exact elem74) (by kernel_rfl) (by kernel_rfl) (by kernel_rfl) H (fun b w' H1 => hK _ _ ?_))); clear hK K; replace H := H1; clear H1)); (try clear hc); (try simp only [nrm, splice, Value.cells, Nat.reduceAdd, Act.eval, Act.put] at H); have hc := H.cells; simp only [CellsOf, KnCells, knc, Nat.reduceAdd] at hc))) | go_values | go_skip | go_guarded | go_step | go_upon | go_back | dsimp only)
      (try simp only [Act.put])
      repeat' (first | (go_big_may; (first
    | ((first
        | (refine loud_ rfl ?_; refine wpList_plain rfl (fun K hK => ?_); (first | (refine op_box _ _ rfl H (fun b w' H1 => hK _ _ ?_)) | (refine op_alloc _ rfl (zero_of _ _ rfl) H (fun b w' H1 => hK _ _ ?_)) | (refine op_store _ _ _ rfl rfl rfl H (by repeat (first | exact Split.here _ _ | apply Split.there)) (by kernel_rfl) (by kernel_rfl) (by kernel_rfl) (fun w' H1 => hK _ _ ?_)) | (refine op_buildSlice_all _ _ _ rfl (by first | exact elem22 | exact elem60 | exact elem66 | exact elem72 | exact elem74) (by kernel_rfl) (by kernel_rfl) (by kernel_rfl) H (fun b w' H1 => hK _ _ ?_))); clear hK K; replace H := H1; clear H1)); (try clear hc); (try simp only [nrm, splice, Value.cells, Nat.reduceAdd, Act.eval, Act.put] at H); have hc := H.cells; simp only [CellsOf, KnCells, knc, Nat.reduceAdd] at hc))) | go_values | go_skip | go_guarded | go_step | go_upon | go_back | dsimp only)
      exact ⟨⟨j + 1, es', _, by go_num, by omega, hl1, (by rw [hcat.out]; exact del_step hset.out.2.2.2 hdl.out), H.sel (by repeat (first | exact Sel.nil _ | (apply Sel.cons; focus (repeat (first | exact Split.here _ _ | apply Split.there)))))⟩, by simp [intOf]; omega⟩
    · obtain rfl : j = n := by omega
      have hfin := hn.out
      rw [← hfin, List.take_length] at hdl
      have hc := H.cells; simp only [CellsOf, KnCells, knc, Nat.reduceAdd] at hc
      repeat' (first | (go_big_may; (first
    | ((first
        | (refine loud_ rfl ?_; refine wpList_plain rfl (fun K hK => ?_); (first | (refine op_box _ _ rfl H (fun b w' H1 => hK _ _ ?_)) | (refine op_alloc _ rfl (zero_of _ _ rfl) H (fun b w' H1 => hK _ _ ?_)) | (refine op_store _ _ _ rfl rfl rfl H (by repeat (first | exact Split.here _ _ | apply Split.there)) (by kernel_rfl) (by kernel_rfl) (by kernel_rfl) (fun w' H1 => hK _ _ ?_)) | (refine op_buildSlice_all _ _ _ rfl (by first | exact elem22 | exact elem60 | exact elem66 | exact elem72 | exact elem74) (by kernel_rfl) (by kernel_rfl) (by kernel_rfl) H (fun b w' H1 => hK _ _ ?_))); clear hK K; replace H := H1; clear H1)); (try clear hc); (try simp only [nrm, splice, Value.cells, Nat.reduceAdd, Act.eval, Act.put] at H); have hc := H.cells; simp only [CellsOf, KnCells, knc, Nat.reduceAdd] at hc))) | go_values | go_skip | go_guarded | go_step | go_upon | go_back | dsimp only)
      go_ret
      exact ⟨er, lr, ⟨hset.out, hdl.out⟩, rfl, H.top1⟩
set_option maxHeartbeats 800000 in
set_option maxRecDepth 8000 in
theorem sunion_calls (m clock m2 clock2 : Nat) (es es2 : Array MapEntry) (l l2 : List Int) (hl : Hid (SetI es clock l)) (hl2 : Hid (SetI es2 clock2 l2)) (h1 : l.length ≤ 1000000) (h2 : l2.length ≤ 1000000) (w : World) (H : St [] w w [(false, .is m (.map es clock)), (false, .is m2 (.map es2 clock2))]) :
    Calls Tryz.prog 14 #[.map (some m), .map (some m2)] w fun e w' => ∃ mr er cr lr, Hid (SetI er cr lr ∧ lr.length ≤ l.length + l2.length ∧ ∀ x, x ∈ lr ↔ x ∈ l ∨ x ∈ l2) ∧ e = .returned (.map (some mr)) ∧ St [] w w' [(true, .is mr (.map er cr))] := by
  go_enter Tryz.func14, Tryz.ntmps14
  repeat' (first | (go_big_may; (first
    | ((first
        | (refine loud_ rfl ?_; refine wpList_plain rfl (fun K hK => ?_); (first | (refine op_makeMap _ rfl H (fun mr w' H1 => hK _ _ ?_)) | (refine op_box _ _ rfl H (fun b w' H1 => hK _ _ ?_)) | (refine op_alloc _ rfl (zero_of _ _ rfl) H (fun b w' H1 => hK _ _ ?_)) | (refine op_store _ _ _ rfl rfl rfl H (by repeat (first | exact Split.here _ _ | apply Split.there)) (by kernel_rfl) (by kernel_rfl) (by kernel_rfl) (fun w' H1 => hK _ _ ?_)) | (refine op_buildSlice_all _ _ _ rfl (by first | exact elem22 | exact elem60 | exact elem66 | exact elem72 | exact elem74) (by kernel_rfl) (by kernel_rfl) (by kernel_rfl) H (fun b w' H1 => hK _ _ ?_))); clear hK K; replace H := H1; clear H1)); (try clear hc); (try simp only [nrm, splice, Value.cells, Nat.reduceAdd, Act.eval, Act.put] at H); have hc := H.cells; simp only [CellsOf, KnCells, knc, Nat.reduceAdd] at hc))) | go_values | go_skip | go_guarded | go_step | go_upon | go_back | dsimp only)
  (try simp only [Act.put, slt])
  go_at_call 39
  refine Calls.mono (sunsorted_calls m clock es l hl (by omega) _ (H.pick (by repeat (first | exact Picks.nil _ | (apply Picks.wr; focus (repeat (first | exact Split.here _ _ | apply Split.there))) | (apply Picks.rd; focus (repeat (first | exact Split.here _ _ | apply Split.there))))))) ?_
  rintro e9 w' ⟨key, n, cap, zs, hz, rfl, H'⟩
  replace H := H.merge (by first | exact Strikes.nil _ | (repeat (first | exact Strikes.nil _ | (apply Strikes.cons; focus (repeat (first | exact Split.here _ _ | apply Split.there)))))) H' rfl
  clear H'
  (try simp only [nrm, splice, Value.cells, Nat.reduceAdd, Act.eval, Act.put] at H); have hc := H.cells; simp only [CellsOf, KnCells, knc, Nat.reduceAdd] at hc
  replace H := H.rowSoft (key := key) (by repeat (first | exact Split.here _ _ | apply Split.there))
  (try simp only [List.append, List.cons_append, List.nil_append] at H)
  (try simp only [show sl key n cap = Value.slice (key.map fun b => (⟨b, 0, none⟩ : Addr)) n cap from rfl])
  generalize (key.map fun b => (⟨b, 0, none⟩ : Addr)) = s1 at *
  have hzn : Hid (zs.length = n) := hz.out.2.symm
  have hn1 : n ≤ 1000000 := by have := hz.out.1.length_eq; have := hzn.out; omega
  clear hc
  have hc := H.cells; simp only [CellsOf, KnCells, knc, Nat.reduceAdd] at hc
  repeat' (first | (go_big_may; (first
    | go_skip
    | ((first
        | (go_at_call 38; refine Calls.mono (insert_calls _ mr #[] 0 [] s1 zs n cap (setM_nil _ _) hzn (by omega) _ (H.pick (by repeat (first | exact Picks.nil _ | (apply Picks.wr; focus (repeat (first | exact Split.here _ _ | apply Split.there))) | (apply Picks.rd; focus (repeat (first | exact Split.here _ _ | apply Split.there))))))) ?_; rintro e w' ⟨er1, cr1, hs1, rfl, H'⟩; replace H := H.merge (by first | exact Strikes.nil _ | (repeat (first | exact Strikes.nil _ | (apply Strikes.cons; focus (repeat (first | exact Split.here _ _ | apply Split.there)))))) H' rfl; clear H')
        | (refine loud_ rfl ?_; refine wpList_plain rfl (fun K hK => ?_); (first | (refine op_box _ _ rfl H (fun b w' H1 => hK _ _ ?_)) | (refine op_alloc _ rfl (zero_of _ _ rfl) H (fun b w' H1 => hK _ _ ?_)) | (refine op_store _ _ _ rfl rfl rfl H (by repeat (first | exact Split.here _ _ | apply Split.there)) (by kernel_rfl) (by kernel_rfl) (by kernel_rfl) (fun w' H1 => hK _ _ ?_)) | (refine op_buildSlice_all _ _ _ rfl (by first | exact elem22 | exact elem60 | exact elem66 | exact elem72 | exact elem74) (by kernel_rfl) (by kernel_rfl) (by kernel_rfl) H (fun b w' H1 => hK _ _ ?_))); clear hK K; replace H := H1; clear H1)); (try clear hc); (try simp only [nrm, splice, Value.cells, Nat.reduceAdd, Act.eval, Act.put] at H); have hc := H.cells; simp only [CellsOf, KnCells, knc, Nat.reduceAdd] at hc))) | go_values | go_skip | go_guarded | go_step | go_upon | go_back | dsimp only)
  (try simp only [Act.put, slt])
  go_at_call 39
  refine Calls.mono (sunsorted_calls m2 clock2 es2 l2 hl2 (by omega) _ (H.pick (by repeat (first | exact Picks.nil _ | (apply Picks.wr; focus (repeat (first | exact Split.here _ _ | apply Split.there))) | (apply Picks.rd; focus (repeat (first | exact Split.here _ _ | apply Split.there))))))) ?_
  rintro e9 w' ⟨key2, n2, cap2, zs2, hz2, rfl, H'⟩
  replace H := H.merge (by first | exact Strikes.nil _ | (repeat (first | exact Strikes.nil _ | (apply Strikes.cons; focus (repeat (first | exact Split.here _ _ | apply Split.there)))))) H' rfl
  clear H'
  (try simp only [nrm, splice, Value.cells, Nat.reduceAdd, Act.eval, Act.put] at H); have hc := H.cells; simp only [CellsOf, KnCells, knc, Nat.reduceAdd] at hc
  replace H := H.rowSoft (key := key2) (by repeat (first | exact Split.here _ _ | apply Split.there))
  (try simp only [List.append, List.cons_append, List.nil_append] at H)
  (try simp only [show sl key2 n2 cap2 = Value.slice (key2.map fun b => (⟨b, 0, none⟩ : Addr)) n2 cap2 from rfl])
  generalize (key2.map fun b => (⟨b, 0, none⟩ : Addr)) = s2 at *
  have hzn2 : Hid (zs2.length = n2) := hz2.out.2.symm
  have hn2 : n2 ≤ 1000000 := by have := hz2.out.1.length_eq; have := hzn2.out; omega
  clear hc
  have hc := H.cells; simp only [CellsOf, KnCells, knc, Nat.reduceAdd] at hc
  repeat' (first | (go_big_may; (first
    | go_skip
    | ((first
        | (go_at_call 38; refine Calls.mono (insert_calls _ mr er1 cr1 (insAll [] zs) s2 zs2 n2 cap2 hs1 hzn2 (by omega) _ (H.pick (by repeat (first | exact Picks.nil _ | (apply Picks.wr; focus (repeat (first | exact Split.here _ _ | apply Split.there))) | (apply Picks.rd; focus (repeat (first | exact Split.here _ _ | apply Split.there))))))) ?_; rintro e w' ⟨er2, cr2, hs2, rfl, H'⟩; replace H := H.merge (by first | exact Strikes.nil _ | (repeat (first | exact Strikes.nil _ | (apply Strikes.cons; focus (repeat (first | exact Split.here _ _ | apply Split.there)))))) H' rfl; clear H')
        | (refine loud_ rfl ?_; refine wpList_plain rfl (fun K hK => ?_); (first | (refine op_box _ _ rfl H (fun b w' H1 => hK _ _ ?_)) | (refine op_alloc _ rfl (zero_of _ _ rfl) H (fun b w' H1 => hK _ _ ?_)) | (refine op_store _ _ _ rfl rfl rfl H (by repeat (first | exact Split.here _ _ | apply Split.there)) (by kernel_rfl) (by kernel_rfl) (by kernel_rfl) (fun w' H1 => hK _ _ ?_)) | (refine op_buildSlice_all _ _ _ rfl (by first | exact elem22 | exact elem60 | exact elem66 | exact elem72 | exact elem74) (by kernel_rfl) (by kernel_rfl) (by kernel_rfl) H (fun b w' H1 => hK _ _ ?_))); clear hK K; replace H := H1; clear H1)); (try clear hc); (try simp only [nrm, splice, Value.cells, Nat.reduceAdd, Act.eval, Act.put] at H); have hc := H.cells; simp only [CellsOf, KnCells, knc, Nat.reduceAdd] at hc))) | go_values | go_skip | go_guarded | go_step | go_upon | go_back | dsimp only)
  go_ret
  refine ⟨mr, er2, cr2, _, ⟨hs2.out, ?_, ?_⟩, rfl, H.sel (by repeat (first | exact Sel.nil _ | (apply Sel.cons; focus (repeat (first | exact Split.here _ _ | apply Split.there)))))⟩
  · have a := insAll_len zs2 (insAll [] zs)
    have b := insAll_len zs []
    have := hz.out.1.length_eq
    have := hz2.out.1.length_eq
    simp at b
    omega
  · intro x
    rw [insAll_mem, insAll_mem, hz.out.1.mem_iff, hz2.out.1.mem_iff]
    simp
set_option maxHeartbeats 800000 in
set_option maxRecDepth 8000 in
theorem ssym_calls (m clock m2 clock2 : Nat) (es es2 : Array MapEntry) (l l2 : List Int) (hl : Hid (SetI es clock l)) (hl2 : Hid (SetI es2 clock2 l2)) (h1 : l.length ≤ 1000000) (h2 : l2.length ≤ 1000000) (w : World) (H : St [] w w [(false, .is m (.map es clock)), (false, .is m2 (.map es2 clock2))]) :
    Calls Tryz.prog 18 #[.map (some m), .map (some m2)] w fun e w' => ∃ mr er cr lr, Hid (SetI er cr lr ∧ lr.length ≤ l.length + l2.length ∧ ∀ x, x ∈ lr ↔ (x ∈ l ∧ x ∉ l2) ∨ (x ∈ l2 ∧ x ∉ l)) ∧ e = .returned (.map (some mr)) ∧ St [] w w' [(true, .is mr (.map er cr))] := by
  go_enter Tryz.func18, Tryz.ntmps18
  repeat' (first | (go_big_may; (first
    | ((first
        | (refine loud_ rfl ?_; refine wpList_plain rfl (fun K hK => ?_); (first | (refine op_box _ _ rfl H (fun b w' H1 => hK _ _ ?_)) | (refine op_alloc _ rfl (zero_of _ _ rfl) H (fun b w' H1 => hK _ _ ?_)) | (refine op_store _ _ _ rfl rfl rfl H (by repeat (first | exact Split.here _ _ | apply Split.there)) (by kernel_rfl) (by kernel_rfl) (by kernel_rfl) (fun w' H1 => hK _ _ ?_)) | (refine op_buildSlice_all _ _ _ rfl (by first | exact elem22 | exact elem60 | exact elem66 | exact elem72 | exact elem74) (by kernel_rfl) (by kernel_rfl) (by kernel_rfl) H (fun b w' H1 => hK _ _ ?_))); clear hK K; replace H := H1; clear H1)); (try clear hc); (try simp only [nrm, splice, Value.cells, Nat.reduceAdd, Act.eval, Act.put] at H); have hc := H.cells; simp only [CellsOf, KnCells, knc, Nat.reduceAdd] at hc))) | go_values | go_skip | go_guarded | go_step | go_upon | go_back | dsimp only)
  go_at_call 17
  refine Calls.mono (sdiff_calls m clock m2 clock2 es es2 l l2 hl hl2 _ (H.pick (by repeat (first | exact Picks.nil _ | (apply Picks.wr; focus (repeat (first | exact Split.here _ _ | apply Split.there))) | (apply Picks.rd; focus (repeat (first | exact Split.here _ _ | apply Split.there))))))) ?_
  rintro e9 w' ⟨ma, ea, ca, la, ha, rfl, H'⟩
  replace H := H.merge (by first | exact Strikes.nil _ | (repeat (first | exact Strikes.nil _ | (apply Strikes.cons; focus (repeat (first | exact Split.here _ _ | apply Split.there)))))) H' rfl
  clear H'
  (try simp only [nrm, splice, Value.cells, Nat.reduceAdd, Act.eval, Act.put] at H); have hc := H.cells; simp only [CellsOf, KnCells, knc, Nat.reduceAdd] at hc
  repeat' (first | (go_big_may; (first
    | ((first
        | (refine loud_ rfl ?_; refine wpList_plain rfl (fun K hK => ?_); (first | (refine op_box _ _ rfl H (fun b w' H1 => hK _ _ ?_)) | (refine op_alloc _ rfl (zero_of _ _ rfl) H (fun b w' H1 => hK _ _ ?_)) | (refine op_store _ _ _ rfl rfl rfl H (by repeat (first | exact Split.here _ _ | apply Split.there)) (by kernel_rfl) (by kernel_rfl) (by kernel_rfl) (fun w' H1 => hK _ _ ?_)) | (refine op_buildSlice_all _ _ _ rfl (by first | exact elem22 | exact elem60 | exact elem66 | exact elem72 | exact elem74) (by kernel_rfl) (by kernel_rfl) (by kernel_rfl) H (fun b w' H1 => hK _ _ ?_))); clear hK K; replace H := H1; clear H1)); (try clear hc); (try simp only [nrm, splice, Value.cells, Nat.reduceAdd, Act.eval, Act.put] at H); have hc := H.cells; simp only [CellsOf, KnCells, knc, Nat.reduceAdd] at hc))) | go_values | go_skip | go_guarded | go_step | go_upon | go_back | dsimp only)
  go_at_call 17
  refine Calls.mono (sdiff_calls m2 clock2 m clock es2 es l2 l hl2 hl _ (H.pick (by repeat (first | exact Picks.nil _ | (apply Picks.wr; focus (repeat (first | exact Split.here _ _ | apply Split.there))) | (apply Picks.rd; focus (repeat (first | exact Split.here _ _ | apply Split.there))))))) ?_
  rintro e9 w' ⟨mb, eb, cb, lb, hb, rfl, H'⟩
  replace H := H.merge (by first | exact Strikes.nil _ | (repeat (first | exact Strikes.nil _ | (apply Strikes.cons; focus (repeat (first | exact Split.here _ _ | apply Split.there)))))) H' rfl
  clear H'
  (try simp only [nrm, splice, Value.cells, Nat.reduceAdd, Act.eval, Act.put] at H); have hc := H.cells; simp only [CellsOf, KnCells, knc, Nat.reduceAdd] at hc
  repeat' (first | (go_big_may; (first
    | go_skip
    | ((first
        | (go_at_call 14; refine Calls.mono (sunion_calls ma ca mb cb ea eb la lb (Lib.hid ha.out.1) (Lib.hid hb.out.1) (by have := ha.out.2.1; omega) (by have := hb.out.2.1; omega) _ (H.pick (by repeat (first | exact Picks.nil _ | (apply Picks.wr; focus (repeat (first | exact Split.here _ _ | apply Split.there))) | (apply Picks.rd; focus (repeat (first | exact Split.here _ _ | apply Split.there))))))) ?_; rintro e w' ⟨mr, er, cr, lr, hr, rfl, H'⟩; replace H := H.merge (by first | exact Strikes.nil _ | (repeat (first | exact Strikes.nil _ | (apply Strikes.cons; focus (repeat (first | exact Split.here _ _ | apply Split.there)))))) H' rfl; clear H')
        | (refine loud_ rfl ?_; refine wpList_plain rfl (fun K hK => ?_); (first | (refine op_box _ _ rfl H (fun b w' H1 => hK _ _ ?_)) | (refine op_alloc _ rfl (zero_of _ _ rfl) H (fun b w' H1 => hK _ _ ?_)) | (refine op_store _ _ _ rfl rfl rfl H (by repeat (first | exact Split.here _ _ | apply Split.there)) (by kernel_rfl) (by kernel_rfl) (by kernel_rfl) (fun w' H1 => hK _ _ ?_)) | (refine op_buildSlice_all _ _ _ rfl (by first | exact elem22 | exact elem60 | exact elem66 | exact elem72 | exact elem74) (by kernel_rfl) (by kernel_rfl) (by kernel_rfl) H (fun b w' H1 => hK _ _ ?_))); clear hK K; replace H := H1; clear H1)); (try clear hc); (try simp only [nrm, splice, Value.cells, Nat.reduceAdd, Act.eval, Act.put] at H); have hc := H.cells; simp only [CellsOf, KnCells, knc, Nat.reduceAdd] at hc))) | go_values | go_skip | go_guarded | go_step | go_upon | go_back | dsimp only)
  go_ret
  refine ⟨mr, er, cr, lr, ⟨hr.out.1, ?_, ?_⟩, rfl, H.sel (by repeat (first | exact Sel.nil _ | (apply Sel.cons; focus (repeat (first | exact Split.here _ _ | apply Split.there)))))⟩
  · have := hr.out.2.1
    have := ha.out.2.1
    have := hb.out.2.1
    omega
  · intro x
    rw [hr.out.2.2, ha.out.2.2, hb.out.2.2]
end Go.Proofs.YtikaldcoakpfoaaGreatDoor
