import Derived.Test.YtikaldcoakpfoaaGreatDoorCpuR
-- MORE
-- SUB2
namespace Go.Proofs.YtikaldcoakpfoaaGreatDoor
set_option linter.unusedVariables false
set_option linter.unusedSimpArgs false
set_option linter.unnecessarySimpa false
open Go Go.RowKit Go.V Go.Lib

theorem insAll_rising (l : List Int) : sortI (insAll [] l) = rising l := rising_eq (insAll_nodup _ _ List.nodup_nil) (fun x => by rw [insAll_mem]; simp)
set_option maxHeartbeats 400000 in
set_option maxRecDepth 8000 in
theorem cpuText_calls (src : Option Addr) (l : List Int) (n c : Nat) (hn : Hid (l.length = n)) (hnn : n ≤ 50000) (hb : Hid (∀ y ∈ l, 0 ≤ y ∧ y ≤ 1099511627776)) (w : World) (ht : TabAt w) (H : St [] w w [(false, soft src (intsN l))]) :
    Calls Tryz.prog 12 #[.slice src n c] w fun e w' => e = .returned (.string (bs (text (rising l)))) ∧ Ext [] w w' := by
  have ht' := Lib.hid ht
  clear ht
  have hfin : Hid (sortI (insAll [] l) = rising l) := insAll_rising l
  have hl2 : (rising l).length ≤ 50000 := by have := rising_len l; have := hn.out; omega
  have hb2 : Hid (∀ y ∈ rising l, 0 ≤ y ∧ y ≤ 1099511627776) := fun y hy => hb.out y (((rising_facts l).2 y).1 hy)
  go_enter Tryz.func12, Tryz.ntmps12
  repeat' (first | (go_big_may; (first
    | go_skip
    | ((first
        | (go_at_call 27; refine Calls.mono (setNew_calls src l n c hn (by omega) _ (H.pick (by repeat (first | exact Picks.nil _ | (apply Picks.wr; focus (repeat (first | exact Split.here _ _ | apply Split.there))) | (apply Picks.rd; focus (repeat (first | exact Split.here _ _ | apply Split.there))))))) ?_; rintro e w' ⟨m, es, clock, hset, rfl, H'⟩; replace H := H.merge (by first | exact Strikes.nil _ | (repeat (first | exact Strikes.nil _ | (apply Strikes.cons; focus (repeat (first | exact Split.here _ _ | apply Split.there)))))) H' rfl; clear H')
        | (go_at_call 37; refine Calls.mono (string_calls m clock es (insAll [] l) (rising l) ⟨hset.out, hfin.out⟩ hl2 hb2.out _ (tabAt_ext ht'.out H.ext) (H.pick (by repeat (first | exact Picks.nil _ | (apply Picks.wr; focus (repeat (first | exact Split.here _ _ | apply Split.there))) | (apply Picks.rd; focus (repeat (first | exact Split.here _ _ | apply Split.there))))))) ?_; rintro e w' ⟨rfl, H'⟩; replace H := H.of_ext H'; clear H')
        | (refine loud_ rfl ?_; refine wpList_plain rfl (fun K hK => ?_); (first | (refine op_box _ _ rfl H (fun b w' H1 => hK _ _ ?_)) | (refine op_alloc _ rfl (zero_of _ _ rfl) H (fun b w' H1 => hK _ _ ?_)) | (refine op_store _ _ _ rfl rfl rfl H (by repeat (first | exact Split.here _ _ | apply Split.there)) (by kernel_rfl) (by kernel_rfl) (by kernel_rfl) (fun w' H1 => hK _ _ ?_)) | (refine op_buildSlice_all _ _ _ rfl (by first | exact elem22 | exact elem60 | exact elem66 | exact elem72 | exact elem74) (by kernel_rfl) (by kernel_rfl) (by kernel_rfl) H (fun b w' H1 => hK _ _ ?_))); clear hK K; replace H := H1; clear H1)); (try clear hc); (try simp only [nrm, splice, Value.cells, Nat.reduceAdd, Act.eval, Act.put] at H); have hc := H.cells; simp only [CellsOf, KnCells, knc, Nat.reduceAdd] at hc))) | go_values | go_skip | go_guarded | go_step | go_upon | go_back | dsimp only)
  go_ret
  exact ⟨rfl, H.ext⟩
theorem equal_lies (s1 s2 : Option Addr) (xs : List Int) (n c d : Nat) (hn : Hid (n = xs.length)) (hnn : n ≤ 1000000000) (w : World) (h1 : Lies w s1 (intsN xs)) (h2 : Lies w s2 (intsN xs)) :
    Calls Tryz.prog 7 #[.slice s1 n c, .slice s2 n d] w fun e w' => e = .returned (.bool true) ∧ Ext [] w w' := by
  have hn' := hn.out
  subst hn'
  by_cases h0 : 0 < xs.length
  · obtain ⟨b1, o1, rfl, hc1⟩ := soft_ints h1 h0
    obtain ⟨b2, o2, rfl, hc2⟩ := soft_ints h2 h0
    refine (Tryz.slices_Equal_int b1 o1 xs.length c b2 o2 xs.length d xs xs w (Nat.le_refl _) (Nat.le_refl _) (by omega) (by omega) hc1 hc2).mono ?_
    rintro e w' ⟨rfl, q, rfl⟩
    exact ⟨by simp, Ext.drewN [] w q⟩
  · have hl0 : xs = [] := List.length_eq_zero_iff.1 (by omega)
    subst hl0
    refine (Tryz.slices_Equal_int_empty s1 s2 c 0 d w (by omega)).mono ?_
    rintro e w' ⟨rfl, rfl⟩
    exact ⟨rfl, Ext.refl _ _⟩
theorem lies_lit {w : World} {b : Nat} {T : TypeId} {xs : List Value} (h : holds w (.is b (.cells xs.toArray T (0, 0)))) : Lies w (some ⟨b, 0, none⟩) xs := by
  refine ⟨fun e => (by cases e), fun a ha j u hj => ?_⟩
  injection ha with ha
  subst ha
  exact cells_lit h xs.length j u (by simpa using hj)
/-- Two rows. -/
theorem equal_rows (k1 k2 : Option Nat) (xs : List Int) (n c d : Nat) (hn : Hid (n = xs.length)) (hnn : n ≤ 1000000000) (w : World) (H : St [] w w [(false, .row k1 3 1 n c (intsN xs)), (false, .row k2 3 1 n d (intsN xs))]) :
    Calls Tryz.prog 7 #[sl k1 n c, sl k2 n d] w fun e w' => e = .returned (.bool true) ∧ Ext [] w w' :=
  equal_lies _ _ xs n c d hn hnn w (lies_of_row1 (H.get (Split.here _ _))) (lies_of_row1 (H.get (Split.there _ (Split.here _ _))))
def few (l : List Int) : Bool := decide (l.length ≤ 300) && l.all fun n => decide (0 ≤ n) && decide (n ≤ 1099511627776)
def AtFew (w : World) (src : Option Addr) (l : List Int) (i : Value) (wr : World) : Prop := ∃ q : Nat, i = .int .i64 q ∧ q ≤ l.length ∧ Hid (∀ (j : Nat) (h : j < l.length), j < q → 0 ≤ l[j] ∧ l[j] ≤ 1099511627776) ∧ St [] w wr [(false, soft src (intsN l))]
set_option maxHeartbeats 1000000 in
set_option maxRecDepth 8000 in
theorem few_calls (src : Option Addr) (l : List Int) (n c : Nat) (hn : Hid (l.length = n)) (w : World) (H : St [] w w [(false, soft src (intsN l))]) :
    Calls Tryz.prog 9 #[.slice src n c, .int .i64 0] w fun e w' => e = .returned (.bool (few l)) ∧ Ext [] w w' := by
  obtain ⟨res, hres⟩ : ∃ r, Hid (r = few l) := ⟨_, rfl⟩
  rw [← hres.out]
  by_cases hbig : n ≤ 300
  · have hc0 : decide ((300 : Int) < (n : Int)) = false := by simp; omega
    go_enter Tryz.func9, Tryz.ntmps9
    repeat' (first | (go_big_may; (first
    | ((first
        | (refine loud_ rfl ?_; refine wpList_plain rfl (fun K hK => ?_); (first | (refine op_box _ _ rfl H (fun b w' H1 => hK _ _ ?_)) | (refine op_alloc _ rfl (zero_of _ _ rfl) H (fun b w' H1 => hK _ _ ?_)) | (refine op_store _ _ _ rfl rfl rfl H (by repeat (first | exact Split.here _ _ | apply Split.there)) (by kernel_rfl) (by kernel_rfl) (by kernel_rfl) (fun w' H1 => hK _ _ ?_)) | (refine op_buildSlice_all _ _ _ rfl (by first | exact elem22 | exact elem60 | exact elem66 | exact elem72 | exact elem74) (by kernel_rfl) (by kernel_rfl) (by kernel_rfl) H (fun b w' H1 => hK _ _ ?_))); clear hK K; replace H := H1; clear H1)); (try clear hc); (try simp only [nrm, splice, Value.cells, Nat.reduceAdd, Act.eval, Act.put] at H); have hc := H.cells; simp only [CellsOf, KnCells, knc, Nat.reduceAdd] at hc))) | go_values | go_skip | go_guarded | go_step | go_upon | go_back | dsimp only)
    have hst : AtFew w src l (.int .i64 0) w := ⟨0, rfl, Nat.zero_le _, (fun j h hj => by omega), H⟩
    clear H
    go_loopw [12] (AtFew w src l) (fun i _ => n - (intOf i).toNat)
    case atStart => exact hst
    case round =>
      clear hst
      obtain ⟨q, rfl, hq, hh, H⟩ := hrel
      rw [hn.out] at hq
      by_cases hlt : q < n
      · have hlt' : q < l.length := by rw [hn.out]; exact hlt
        obtain ⟨b1, o1, rfl, H1⟩ := H.elemSoft (Split.here _ _) q [ki l[q]] (by show 0 < 1; omega) (by rw [intsN_len]; show q + 1 ≤ _; omega) (by intro i hi; obtain rfl : i = 0 := (by simpa using hi); simp [intsN, hlt'])
        replace H := H1
        clear H1
        have hcq : decide ((q : Int) < (n : Int)) = true := by simp; omega
        obtain ⟨x, hx⟩ : ∃ x, Hid (x = l[q]) := ⟨l[q], rfl⟩
        rw [← hx.out] at H
        have hbad : Hid (¬(0 ≤ x ∧ x ≤ 1099511627776) → res = false) := by
          intro h
          rw [hres.out]
          unfold few
          have : l.all (fun n => decide (0 ≤ n) && decide (n ≤ 1099511627776)) = false := by
            rw [List.all_eq_false]
            refine ⟨l[q], List.getElem_mem _, ?_⟩
            rw [← hx.out]
            simpa using h
          rw [this, Bool.and_false]
        rcases Int.lt_or_le x 0 with h1 | h1
        · have hc1 : decide (x < 0) = true := by simpa using h1
          have hr : res = false := hbad.out (by omega)
          subst hr
          have hc := H.cells; simp only [CellsOf, KnCells, knc, Nat.reduceAdd] at hc
          repeat' (first | (go_big_may; (first
    | ((first
        | (refine loud_ rfl ?_; refine wpList_plain rfl (fun K hK => ?_); (first | (refine op_box _ _ rfl H (fun b w' H1 => hK _ _ ?_)) | (refine op_alloc _ rfl (zero_of _ _ rfl) H (fun b w' H1 => hK _ _ ?_)) | (refine op_store _ _ _ rfl rfl rfl H (by repeat (first | exact Split.here _ _ | apply Split.there)) (by kernel_rfl) (by kernel_rfl) (by kernel_rfl) (fun w' H1 => hK _ _ ?_)) | (refine op_buildSlice_all _ _ _ rfl (by first | exact elem22 | exact elem60 | exact elem66 | exact elem72 | exact elem74) (by kernel_rfl) (by kernel_rfl) (by kernel_rfl) H (fun b w' H1 => hK _ _ ?_))); clear hK K; replace H := H1; clear H1)); (try clear hc); (try simp only [nrm, splice, Value.cells, Nat.reduceAdd, Act.eval, Act.put] at H); have hc := H.cells; simp only [CellsOf, KnCells, knc, Nat.reduceAdd] at hc))) | go_values | go_skip | go_guarded | go_step | go_upon | go_back | dsimp only)
          go_ret
          exact ⟨rfl, H.ext⟩
        · have hc1 : decide (x < 0) = false := by simpa using h1
          rcases Int.lt_or_le 1099511627776 x with h2 | h2
          · have hc2 : decide (1099511627776 < x) = true := by simpa using h2
            have hr : res = false := hbad.out (by omega)
            subst hr
            have hc := H.cells; simp only [CellsOf, KnCells, knc, Nat.reduceAdd] at hc
            repeat' (first | (go_big_may; (first
    | ((first
        | (refine loud_ rfl ?_; refine wpList_plain rfl (fun K hK => ?_); (first | (refine op_box _ _ rfl H (fun b w' H1 => hK _ _ ?_)) | (refine op_alloc _ rfl (zero_of _ _ rfl) H (fun b w' H1 => hK _ _ ?_)) | (refine op_store _ _ _ rfl rfl rfl H (by repeat (first | exact Split.here _ _ | apply Split.there)) (by kernel_rfl) (by kernel_rfl) (by kernel_rfl) (fun w' H1 => hK _ _ ?_)) | (refine op_buildSlice_all _ _ _ rfl (by first | exact elem22 | exact elem60 | exact elem66 | exact elem72 | exact elem74) (by kernel_rfl) (by kernel_rfl) (by kernel_rfl) H (fun b w' H1 => hK _ _ ?_))); clear hK K; replace H := H1; clear H1)); (try clear hc); (try simp only [nrm, splice, Value.cells, Nat.reduceAdd, Act.eval, Act.put] at H); have hc := H.cells; simp only [CellsOf, KnCells, knc, Nat.reduceAdd] at hc))) | go_values | go_skip | go_guarded | go_step | go_upon | go_back | dsimp only)
            go_ret
            exact ⟨rfl, H.ext⟩
          · have hc2 : decide (1099511627776 < x) = false := by simpa using h2
            have hnx : Hid (∀ (j : Nat) (h : j < l.length), j < q + 1 → 0 ≤ l[j] ∧ l[j] ≤ 1099511627776) := by
              intro j hj hjq
              rcases Nat.lt_or_ge j q with h | h
              · exact hh.out j hj h
              · obtain rfl : j = q := by omega
                rw [← hx.out]
                exact ⟨h1, h2⟩
            have hc := H.cells; simp only [CellsOf, KnCells, knc, Nat.reduceAdd] at hc
            repeat' (first | (go_big_may; (first
    | ((first
        | (refine loud_ rfl ?_; refine wpList_plain rfl (fun K hK => ?_); (first | (refine op_box _ _ rfl H (fun b w' H1 => hK _ _ ?_)) | (refine op_alloc _ rfl (zero_of _ _ rfl) H (fun b w' H1 => hK _ _ ?_)) | (refine op_store _ _ _ rfl rfl rfl H (by repeat (first | exact Split.here _ _ | apply Split.there)) (by kernel_rfl) (by kernel_rfl) (by kernel_rfl) (fun w' H1 => hK _ _ ?_)) | (refine op_buildSlice_all _ _ _ rfl (by first | exact elem22 | exact elem60 | exact elem66 | exact elem72 | exact elem74) (by kernel_rfl) (by kernel_rfl) (by kernel_rfl) H (fun b w' H1 => hK _ _ ?_))); clear hK K; replace H := H1; clear H1)); (try clear hc); (try simp only [nrm, splice, Value.cells, Nat.reduceAdd, Act.eval, Act.put] at H); have hc := H.cells; simp only [CellsOf, KnCells, knc, Nat.reduceAdd] at hc))) | go_values | go_skip | go_guarded | go_step | go_upon | go_back | dsimp only)
            exact ⟨⟨q + 1, by go_num, by omega, hnx, H.sel (by repeat (first | exact Sel.nil _ | (apply Sel.cons; focus (repeat (first | exact Split.here _ _ | apply Split.there)))))⟩, by simp [intOf]; omega⟩
      · have hcq : decide ((q : Int) < (n : Int)) = false := by simp; omega
        have hr : res = true := by
          rw [hres.out]
          unfold few
          rw [decide_eq_true (by rw [hn.out]; exact hbig), Bool.true_and, List.all_eq_true]
          intro x hx
          obtain ⟨j, hj, rfl⟩ := List.mem_iff_getElem.1 hx
          have := hh.out j hj (by have := hn.out; omega)
          simpa using this
        subst hr
        have hc := H.cells; simp only [CellsOf, KnCells, knc, Nat.reduceAdd] at hc
        repeat' (first | (go_big_may; (first
    | ((first
        | (refine loud_ rfl ?_; refine wpList_plain rfl (fun K hK => ?_); (first | (refine op_box _ _ rfl H (fun b w' H1 => hK _ _ ?_)) | (refine op_alloc _ rfl (zero_of _ _ rfl) H (fun b w' H1 => hK _ _ ?_)) | (refine op_store _ _ _ rfl rfl rfl H (by repeat (first | exact Split.here _ _ | apply Split.there)) (by kernel_rfl) (by kernel_rfl) (by kernel_rfl) (fun w' H1 => hK _ _ ?_)) | (refine op_buildSlice_all _ _ _ rfl (by first | exact elem22 | exact elem60 | exact elem66 | exact elem72 | exact elem74) (by kernel_rfl) (by kernel_rfl) (by kernel_rfl) H (fun b w' H1 => hK _ _ ?_))); clear hK K; replace H := H1; clear H1)); (try clear hc); (try simp only [nrm, splice, Value.cells, Nat.reduceAdd, Act.eval, Act.put] at H); have hc := H.cells; simp only [CellsOf, KnCells, knc, Nat.reduceAdd] at hc))) | go_values | go_skip | go_guarded | go_step | go_upon | go_back | dsimp only)
        go_ret
        exact ⟨rfl, H.ext⟩
  · have hc0 : decide ((300 : Int) < (n : Int)) = true := by simp; omega
    have hr : res = false := by
      rw [hres.out]
      unfold few
      rw [decide_eq_false (by rw [hn.out]; exact hbig), Bool.false_and]
    subst hr
    go_enter Tryz.func9, Tryz.ntmps9
    repeat' (first | (go_big_may; (first
    | ((first
        | (refine loud_ rfl ?_; refine wpList_plain rfl (fun K hK => ?_); (first | (refine op_box _ _ rfl H (fun b w' H1 => hK _ _ ?_)) | (refine op_alloc _ rfl (zero_of _ _ rfl) H (fun b w' H1 => hK _ _ ?_)) | (refine op_store _ _ _ rfl rfl rfl H (by repeat (first | exact Split.here _ _ | apply Split.there)) (by kernel_rfl) (by kernel_rfl) (by kernel_rfl) (fun w' H1 => hK _ _ ?_)) | (refine op_buildSlice_all _ _ _ rfl (by first | exact elem22 | exact elem60 | exact elem66 | exact elem72 | exact elem74) (by kernel_rfl) (by kernel_rfl) (by kernel_rfl) H (fun b w' H1 => hK _ _ ?_))); clear hK K; replace H := H1; clear H1)); (try clear hc); (try simp only [nrm, splice, Value.cells, Nat.reduceAdd, Act.eval, Act.put] at H); have hc := H.cells; simp only [CellsOf, KnCells, knc, Nat.reduceAdd] at hc))) | go_values | go_skip | go_guarded | go_step | go_upon | go_back | dsimp only)
    go_ret
    exact ⟨rfl, H.ext⟩
end Go.Proofs.YtikaldcoakpfoaaGreatDoor
