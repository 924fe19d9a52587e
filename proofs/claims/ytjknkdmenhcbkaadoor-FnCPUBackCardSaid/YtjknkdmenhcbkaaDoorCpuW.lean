import Derived.Test.YtjknkdmenhcbkaaDoorCpuV
-- MORE
-- SUB2
namespace Go.Proofs.YtjknkdmenhcbkaaDoor
set_option linter.unusedVariables false
set_option linter.unusedSimpArgs false
set_option linter.unnecessarySimpa false
open Go Go.RowKit Go.V Go.Lib

theorem rising_idem (x : List Int) : rising (rising x) = rising x := strict_eq (rising_facts (rising x)).1 (rising_facts x).1 (fun y => (rising_facts (rising x)).2 y)
theorem equal_rows2 (k1 k2 : Option Nat) (xs : List Int) (n m c d : Nat) (hn : Hid (n = xs.length)) (hm : Hid (m = xs.length)) (hnn : n ≤ 1000000000) (w : World) (H : St [] w w [(false, .row k1 3 1 n c (intsN xs)), (false, .row k2 3 1 m d (intsN xs))]) :
    Calls Tryd.prog 9 #[sl k1 n c, sl k2 m d] w fun e w' => e = .returned (.bool true) ∧ Ext [] w w' := by
  obtain rfl : n = m := by rw [hn.out, hm.out]
  exact equal_rows k1 k2 xs n c d hn hnn w H
theorem equal_sr (s1 : Option Addr) (k2 : Option Nat) (xs : List Int) (n m c d : Nat) (hn : Hid (n = xs.length)) (hm : Hid (m = xs.length)) (hnn : n ≤ 1000000000) (w : World) (H : St [] w w [(false, soft s1 (intsN xs)), (false, .row k2 3 1 m d (intsN xs))]) :
    Calls Tryd.prog 9 #[.slice s1 n c, sl k2 m d] w fun e w' => e = .returned (.bool true) ∧ Ext [] w w' := by
  obtain rfl : n = m := by rw [hn.out, hm.out]
  exact equal_lies _ _ xs n c d hn hnn w (H.lies (Split.here _ _)) (lies_of_row1 (H.get (Split.there _ (Split.here _ _))))
theorem text_row (k : Option Nat) (xs : List Int) (n c : Nat) (hn : Hid (n = xs.length)) (hnn : n ≤ 50000) (hb : Hid (∀ y ∈ xs, 0 ≤ y ∧ y ≤ 1099511627776)) (hr : Hid (rising xs = xs)) (w : World) (ht : TabAt w) (H : St [] w w [(false, .row k 3 1 n c (intsN xs))]) :
    Calls Tryd.prog 8 #[sl k n c] w fun e w' => e = .returned (.string (bs (text xs))) ∧ Ext [] w w' := by
  have := cpuText_calls _ xs n c hn.out.symm hnn hb w ht ((St.init [] w).soft (lies_of_row1 (H.get (Split.here _ _))))
  rw [hr.out] at this
  exact this
theorem text_soft (s : Option Addr) (xs : List Int) (n c : Nat) (hn : Hid (n = xs.length)) (hnn : n ≤ 50000) (hb : Hid (∀ y ∈ xs, 0 ≤ y ∧ y ≤ 1099511627776)) (hr : Hid (rising xs = xs)) (w : World) (ht : TabAt w) (H : St [] w w [(false, soft s (intsN xs))]) :
    Calls Tryd.prog 8 #[.slice s n c] w fun e w' => e = .returned (.string (bs (text xs))) ∧ Ext [] w w' := by
  have := cpuText_calls _ xs n c hn.out.symm hnn hb w ht H
  rw [hr.out] at this
  exact this
theorem few_facts {l : List Int} (h : few l = true) : l.length ≤ 300 ∧ ∀ y ∈ l, 0 ≤ y ∧ y ≤ 1099511627776 := by
  unfold few at h
  simp at h
  exact ⟨h.1, fun y hy => h.2 y hy⟩
theorem few_is (src : Option Addr) (l : List Int) (n c : Nat) (b : Bool) (hn : Hid (l.length = n)) (hb : Hid (few l = b)) (w : World) (H : St [] w w [(false, soft src (intsN l))]) :
    Calls Tryd.prog 5 #[.slice src n c, .int .i64 0] w fun e w' => e = .returned (.bool b) ∧ Ext [] w w' := by
  have := few_calls src l n c hn w H
  rw [hb.out] at this
  exact this
set_option maxHeartbeats 2000000 in
set_option maxRecDepth 8000 in
theorem back_calls (sv : Option Addr) (ns : List Int) (n c : Nat) (hn : Hid (ns.length = n)) (l : List UInt8) (w : World) (he : ErrEnv w) (ht : TabAt w) (H : St [] w w [(false, soft sv (intsN ns))]) :
    Calls Tryd.prog 3 #[.slice sv n c, .string (bs l)] w fun e w' => e = .returned (.bool true) ∧ Ext [] w w' := by
  have hsz := bs_size l
  have he' := Lib.hid he
  have ht' := Lib.hid ht
  clear he ht
  obtain ⟨m, hm⟩ : ∃ n, Hid (n = l.length) := ⟨_, rfl⟩
  rw [← hm.out] at hsz
  by_cases ha1 : 2147483647 < n
  · have hc1 : decide ((2147483647 : Int) < (n : Int)) = true := by simp; omega
    go_enter Tryd.func3, Tryd.ntmps3
    repeat' (first | (go_big_may; (first
    | ((first
        | (refine loud_ rfl ?_; refine wpList_plain rfl (fun K hK => ?_); (first | (refine op_box _ _ rfl H (fun b w' H1 => hK _ _ ?_)) | (refine op_alloc _ rfl (zero_of _ _ rfl) H (fun b w' H1 => hK _ _ ?_)) | (refine op_store _ _ _ rfl rfl rfl H (by repeat (first | exact Split.here _ _ | apply Split.there)) (by kernel_rfl) (by kernel_rfl) (by kernel_rfl) (fun w' H1 => hK _ _ ?_)) | (refine op_buildSlice_all _ _ _ rfl (by first | exact elem22 | exact elem45 | exact elem56 | exact elem58) (by kernel_rfl) (by kernel_rfl) (by kernel_rfl) H (fun b w' H1 => hK _ _ ?_))); clear hK K; replace H := H1; clear H1)); (try clear hc); (try simp only [nrm, splice, Value.cells, Nat.reduceAdd, Act.eval, Act.put] at H); have hc := H.cells; simp only [CellsOf, KnCells, knc, Nat.reduceAdd] at hc))) | go_values | go_skip | go_guarded | go_step | go_upon | go_back | dsimp only)
    go_ret
    exact ⟨rfl, H.ext⟩
  have hc1 : decide ((2147483647 : Int) < (n : Int)) = false := by simp; omega
  by_cases ha2 : 2147483647 < m
  · have hc2 : decide ((2147483647 : Int) < (m : Int)) = true := by simp; omega
    go_enter Tryd.func3, Tryd.ntmps3
    repeat' (first | (go_big_may; (first
    | ((first
        | (refine loud_ rfl ?_; refine wpList_plain rfl (fun K hK => ?_); (first | (refine op_box _ _ rfl H (fun b w' H1 => hK _ _ ?_)) | (refine op_alloc _ rfl (zero_of _ _ rfl) H (fun b w' H1 => hK _ _ ?_)) | (refine op_store _ _ _ rfl rfl rfl H (by repeat (first | exact Split.here _ _ | apply Split.there)) (by kernel_rfl) (by kernel_rfl) (by kernel_rfl) (fun w' H1 => hK _ _ ?_)) | (refine op_buildSlice_all _ _ _ rfl (by first | exact elem22 | exact elem45 | exact elem56 | exact elem58) (by kernel_rfl) (by kernel_rfl) (by kernel_rfl) H (fun b w' H1 => hK _ _ ?_))); clear hK K; replace H := H1; clear H1)); (try clear hc); (try simp only [nrm, splice, Value.cells, Nat.reduceAdd, Act.eval, Act.put] at H); have hc := H.cells; simp only [CellsOf, KnCells, knc, Nat.reduceAdd] at hc))) | go_values | go_skip | go_guarded | go_step | go_upon | go_back | dsimp only)
    go_ret
    exact ⟨rfl, H.ext⟩
  have hc2 : decide ((2147483647 : Int) < (m : Int)) = false := by simp; omega
  cases hfew : few ns with
  | false =>
    have hfew' := Lib.hid hfew
    clear hfew
    go_enter Tryd.func3, Tryd.ntmps3
    repeat' (first | (go_big_may; (first
    | go_skip
    | ((first
        | (go_at_call 5; refine Calls.mono (few_is sv ns n c false hn hfew' _ (H.pick (by repeat (first | exact Picks.nil _ | (apply Picks.wr; focus (repeat (first | exact Split.here _ _ | apply Split.there))) | (apply Picks.rd; focus (repeat (first | exact Split.here _ _ | apply Split.there))))))) ?_; rintro e w' ⟨rfl, H'⟩; replace H := H.of_ext H'; clear H')
        | (go_at_call 6; refine Calls.mono (live_calls _ (errEnv_ext he'.out H.ext) (tabAt_ext ht'.out H.ext)) ?_; rintro e w' ⟨rfl, H'⟩; replace H := H.of_ext H'; clear H')
        | (refine loud_ rfl ?_; refine wpList_plain rfl (fun K hK => ?_); (first | (refine op_box _ _ rfl H (fun b w' H1 => hK _ _ ?_)) | (refine op_alloc _ rfl (zero_of _ _ rfl) H (fun b w' H1 => hK _ _ ?_)) | (refine op_store _ _ _ rfl rfl rfl H (by repeat (first | exact Split.here _ _ | apply Split.there)) (by kernel_rfl) (by kernel_rfl) (by kernel_rfl) (fun w' H1 => hK _ _ ?_)) | (refine op_buildSlice_all _ _ _ rfl (by first | exact elem22 | exact elem45 | exact elem56 | exact elem58) (by kernel_rfl) (by kernel_rfl) (by kernel_rfl) H (fun b w' H1 => hK _ _ ?_))); clear hK K; replace H := H1; clear H1)); (try clear hc); (try simp only [nrm, splice, Value.cells, Nat.reduceAdd, Act.eval, Act.put] at H); have hc := H.cells; simp only [CellsOf, KnCells, knc, Nat.reduceAdd] at hc))) | go_values | go_skip | go_guarded | go_step | go_upon | go_back | dsimp only)
    go_ret
    exact ⟨rfl, H.ext⟩
  | true =>
  have hff := few_facts hfew
  have hfew' := Lib.hid hfew
  clear hfew
  by_cases ha3 : 300 < m
  · have hc3 : decide ((300 : Int) < (m : Int)) = true := by simp; omega
    have hfb := Lib.hid hff
    clear hff
    go_enter Tryd.func3, Tryd.ntmps3
    repeat' (first | (go_big_may; (first
    | go_skip
    | ((first
        | (go_at_call 5; refine Calls.mono (few_is sv ns n c true hn hfew' _ (H.pick (by repeat (first | exact Picks.nil _ | (apply Picks.wr; focus (repeat (first | exact Split.here _ _ | apply Split.there))) | (apply Picks.rd; focus (repeat (first | exact Split.here _ _ | apply Split.there))))))) ?_; rintro e w' ⟨rfl, H'⟩; replace H := H.of_ext H'; clear H')
        | (go_at_call 6; refine Calls.mono (live_calls _ (errEnv_ext he'.out H.ext) (tabAt_ext ht'.out H.ext)) ?_; rintro e w' ⟨rfl, H'⟩; replace H := H.of_ext H'; clear H')
        | (refine loud_ rfl ?_; refine wpList_plain rfl (fun K hK => ?_); (first | (refine op_box _ _ rfl H (fun b w' H1 => hK _ _ ?_)) | (refine op_alloc _ rfl (zero_of _ _ rfl) H (fun b w' H1 => hK _ _ ?_)) | (refine op_store _ _ _ rfl rfl rfl H (by repeat (first | exact Split.here _ _ | apply Split.there)) (by kernel_rfl) (by kernel_rfl) (by kernel_rfl) (fun w' H1 => hK _ _ ?_)) | (refine op_buildSlice_all _ _ _ rfl (by first | exact elem22 | exact elem45 | exact elem56 | exact elem58) (by kernel_rfl) (by kernel_rfl) (by kernel_rfl) H (fun b w' H1 => hK _ _ ?_))); clear hK K; replace H := H1; clear H1)); (try clear hc); (try simp only [nrm, splice, Value.cells, Nat.reduceAdd, Act.eval, Act.put] at H); have hc := H.cells; simp only [CellsOf, KnCells, knc, Nat.reduceAdd] at hc))) | go_values | go_skip | go_guarded | go_step | go_upon | go_back | dsimp only)
    go_ret
    exact ⟨rfl, H.ext⟩
  have hc3 : decide ((300 : Int) < (m : Int)) = false := by simp; omega
  have hl : l.length ≤ 300 := by rw [← hm.out]; omega
  have hl5 : l.length ≤ 5000 := by omega
  have hl9 : l.length ≤ 900000 := by omega
  have hn5 : n ≤ 300 := by rw [← hn.out]; exact hff.1
  have hn50 : n ≤ 50000 := by omega
  have hrb : ∀ y ∈ rising ns, 0 ≤ y ∧ y ≤ 1099511627776 := fun y hy => hff.2 y (((rising_facts ns).2 y).1 hy)
  have hrl : (rising ns).length ≤ 300 := Nat.le_trans (rising_len ns) hff.1
  obtain ⟨L1, hq1, hq2, hq3⟩ := back (rising_facts ns).1 hrb (by omega)
  have hq1 := Lib.hid hq1
  have hq2 := Lib.hid hq2
  have hL1 : L1.length ≤ 100000000 := by omega
  have htl : (text (rising ns)).length ≤ 900000 := by have := text_len hrb; omega
  have hff2 := Lib.hid hff.2
  clear hff hrb hq3
  go_enter Tryd.func3, Tryd.ntmps3
  go_upto_region 8 with (first
    | go_skip
    | ((first
        | (go_at_call 5; refine Calls.mono (few_is sv ns n c true hn hfew' _ (H.pick (by repeat (first | exact Picks.nil _ | (apply Picks.wr; focus (repeat (first | exact Split.here _ _ | apply Split.there))) | (apply Picks.rd; focus (repeat (first | exact Split.here _ _ | apply Split.there))))))) ?_; rintro e w' ⟨rfl, H'⟩; replace H := H.of_ext H'; clear H')
        | (go_at_call 8; refine Calls.mono (cpuText_calls sv ns n c hn hn50 hff2 _ (tabAt_ext ht'.out H.ext) (H.pick (by repeat (first | exact Picks.nil _ | (apply Picks.wr; focus (repeat (first | exact Split.here _ _ | apply Split.there))) | (apply Picks.rd; focus (repeat (first | exact Split.here _ _ | apply Split.there))))))) ?_; rintro e w' ⟨rfl, H'⟩; replace H := H.of_ext H'; clear H')
        | (go_at_call 7; refine Calls.mono (cpuParse_some (text (rising ns)) L1 (rising ns) htl hq1 hq2 hL1 _ (errEnv_ext he'.out H.ext)) ?_; rintro e w' ⟨key1, n1, cap1, hn1, rfl, H'⟩; replace H := H.merge (by first | exact Strikes.nil _ | (repeat (first | exact Strikes.nil _ | (apply Strikes.cons; focus (repeat (first | exact Split.here _ _ | apply Split.there)))))) H' rfl; clear H')
        | (go_at_call 10; refine Calls.mono (rising_calls sv ns n c hn (by omega) _ (H.pick (by repeat (first | exact Picks.nil _ | (apply Picks.wr; focus (repeat (first | exact Split.here _ _ | apply Split.there))) | (apply Picks.rd; focus (repeat (first | exact Split.here _ _ | apply Split.there))))))) ?_; rintro e w' ⟨key3, n3, cap3, hn3, hle3, rfl, H'⟩; replace H := H.merge (by first | exact Strikes.nil _ | (repeat (first | exact Strikes.nil _ | (apply Strikes.cons; focus (repeat (first | exact Split.here _ _ | apply Split.there)))))) H' rfl; clear H')
        | (go_at_call 9; refine Calls.mono (equal_rows2 key1 key3 (rising ns) n1 n3 cap1 cap3 hn1 hn3 (by have := hn1.out; omega) _ (H.pick (by repeat (first | exact Picks.nil _ | (apply Picks.wr; focus (repeat (first | exact Split.here _ _ | apply Split.there))) | (apply Picks.rd; focus (repeat (first | exact Split.here _ _ | apply Split.there))))))) ?_; rintro e w' ⟨rfl, H'⟩; replace H := H.of_ext H'; clear H')
        | (refine loud_ rfl ?_; refine wpList_plain rfl (fun K hK => ?_); (first | (refine op_box _ _ rfl H (fun b w' H1 => hK _ _ ?_)) | (refine op_alloc _ rfl (zero_of _ _ rfl) H (fun b w' H1 => hK _ _ ?_)) | (refine op_store _ _ _ rfl rfl rfl H (by repeat (first | exact Split.here _ _ | apply Split.there)) (by kernel_rfl) (by kernel_rfl) (by kernel_rfl) (fun w' H1 => hK _ _ ?_)) | (refine op_buildSlice_all _ _ _ rfl (by first | exact elem22 | exact elem45 | exact elem56 | exact elem58) (by kernel_rfl) (by kernel_rfl) (by kernel_rfl) H (fun b w' H1 => hK _ _ ?_))); clear hK K; replace H := H1; clear H1)); (try clear hc); (try simp only [nrm, splice, Value.cells, Nat.reduceAdd, Act.eval, Act.put] at H); have hc := H.cells; simp only [CellsOf, KnCells, knc, Nat.reduceAdd] at hc))
  replace H := H.top0
  clear hc hn1 hn3 hle3 hq1 hq2 hL1 htl hff2 hrl hfew'
  rcases hs : sparse l with ⟨all, ok, pl⟩
  have hs' := Lib.hid hs
  cases pl with
  | false =>
    clear hs
    repeat' (first | (go_big_may; (first
    | go_skip
    | ((first
        | (go_at_call 11; refine Calls.mono (sparse_at l hl5 all ok false hs' _) ?_; rintro e w' ⟨key7, n7, cap7, vs, hv, rfl, H'⟩; replace H := H.merge (by first | exact Strikes.nil _ | (repeat (first | exact Strikes.nil _ | (apply Strikes.cons; focus (repeat (first | exact Split.here _ _ | apply Split.there)))))) H' rfl; clear H')
        | (go_at_call 6; refine Calls.mono (live_calls _ (errEnv_ext he'.out H.ext) (tabAt_ext ht'.out H.ext)) ?_; rintro e w' ⟨rfl, H'⟩; replace H := H.of_ext H'; clear H')
        | (refine loud_ rfl ?_; refine wpList_plain rfl (fun K hK => ?_); (first | (refine op_box _ _ rfl H (fun b w' H1 => hK _ _ ?_)) | (refine op_alloc _ rfl (zero_of _ _ rfl) H (fun b w' H1 => hK _ _ ?_)) | (refine op_store _ _ _ rfl rfl rfl H (by repeat (first | exact Split.here _ _ | apply Split.there)) (by kernel_rfl) (by kernel_rfl) (by kernel_rfl) (fun w' H1 => hK _ _ ?_)) | (refine op_buildSlice_all _ _ _ rfl (by first | exact elem22 | exact elem45 | exact elem56 | exact elem58) (by kernel_rfl) (by kernel_rfl) (by kernel_rfl) H (fun b w' H1 => hK _ _ ?_))); clear hK K; replace H := H1; clear H1)); (try clear hc); (try simp only [nrm, splice, Value.cells, Nat.reduceAdd, Act.eval, Act.put] at H); have hc := H.cells; simp only [CellsOf, KnCells, knc, Nat.reduceAdd] at hc))) | go_values | go_skip | go_guarded | go_step | go_upon | go_back | dsimp only)
    go_ret
    exact ⟨rfl, H.ext⟩
  | true =>
  have hlaw := plain_law hl hs
  clear hs
  cases ok with
  | false =>
    have hci : Hid (cpI l = none) := hlaw.2 rfl
    clear hlaw
    repeat' (first | (go_big_may; (first
    | go_skip
    | ((first
        | (go_at_call 11; refine Calls.mono (sparse_at l hl5 all false true hs' _) ?_; rintro e w' ⟨key7, n7, cap7, vs, hv, rfl, H'⟩; replace H := H.merge (by first | exact Strikes.nil _ | (repeat (first | exact Strikes.nil _ | (apply Strikes.cons; focus (repeat (first | exact Split.here _ _ | apply Split.there)))))) H' rfl; clear H')
        | (go_at_call 7; refine Calls.mono (cpuParse_none l hl9 hci _ (errEnv_ext he'.out H.ext)) ?_; rintro e w' ⟨rfl, H'⟩; replace H := H.of_ext H'; clear H')
        | (go_at_call 6; refine Calls.mono (live_calls _ (errEnv_ext he'.out H.ext) (tabAt_ext ht'.out H.ext)) ?_; rintro e w' ⟨rfl, H'⟩; replace H := H.of_ext H'; clear H')
        | (refine loud_ rfl ?_; refine wpList_plain rfl (fun K hK => ?_); (first | (refine op_box _ _ rfl H (fun b w' H1 => hK _ _ ?_)) | (refine op_alloc _ rfl (zero_of _ _ rfl) H (fun b w' H1 => hK _ _ ?_)) | (refine op_store _ _ _ rfl rfl rfl H (by repeat (first | exact Split.here _ _ | apply Split.there)) (by kernel_rfl) (by kernel_rfl) (by kernel_rfl) (fun w' H1 => hK _ _ ?_)) | (refine op_buildSlice_all _ _ _ rfl (by first | exact elem22 | exact elem45 | exact elem56 | exact elem58) (by kernel_rfl) (by kernel_rfl) (by kernel_rfl) H (fun b w' H1 => hK _ _ ?_))); clear hK K; replace H := H1; clear H1)); (try clear hc); (try simp only [nrm, splice, Value.cells, Nat.reduceAdd, Act.eval, Act.put] at H); have hc := H.cells; simp only [CellsOf, KnCells, knc, Nat.reduceAdd] at hc))) | go_values | go_skip | go_guarded | go_step | go_upon | go_back | dsimp only)
    go_ret
    exact ⟨rfl, H.ext⟩
  | true =>
  obtain ⟨L, hL1, hL2, hL3, hL4, hL5⟩ := hlaw.1 rfl
  have hci := Lib.hid hL1
  have hso := Lib.hid hL2
  have hrl : (rising all).length ≤ 100000000 := by omega
  have hbA := Lib.hid hL4
  have hstrict := Lib.hid (rising_facts all).1
  have hrA : Hid (rising (rising all) = rising all) := rising_idem all
  clear hlaw hL1 hL2 hL4 hL5
  obtain ⟨A, hA⟩ : ∃ A, Hid (A = rising all) := ⟨_, rfl⟩
  rw [← hA.out] at hso hrl hbA hstrict hrA
  go_upto_region 12 with (first
    | go_skip
    | ((first
        | (go_at_call 11; refine Calls.mono (sparse_at l hl5 all true true hs' _) ?_; rintro e w' ⟨key7, n7, cap7, vs, hv, rfl, H'⟩; replace H := H.merge (by first | exact Strikes.nil _ | (repeat (first | exact Strikes.nil _ | (apply Strikes.cons; focus (repeat (first | exact Split.here _ _ | apply Split.there)))))) H' rfl; clear H')
        | (go_at_call 7; refine Calls.mono (cpuParse_some l L A hl9 hci hso hL3 _ (errEnv_ext he'.out H.ext)) ?_; rintro e w' ⟨key2, n2, cap2, hn2, rfl, H'⟩; replace H := H.merge (by first | exact Strikes.nil _ | (repeat (first | exact Strikes.nil _ | (apply Strikes.cons; focus (repeat (first | exact Split.here _ _ | apply Split.there)))))) H' rfl; clear H')
        | (refine loud_ rfl ?_; refine wpList_plain rfl (fun K hK => ?_); (first | (refine op_box _ _ rfl H (fun b w' H1 => hK _ _ ?_)) | (refine op_alloc _ rfl (zero_of _ _ rfl) H (fun b w' H1 => hK _ _ ?_)) | (refine op_store _ _ _ rfl rfl rfl H (by repeat (first | exact Split.here _ _ | apply Split.there)) (by kernel_rfl) (by kernel_rfl) (by kernel_rfl) (fun w' H1 => hK _ _ ?_)) | (refine op_buildSlice_all _ _ _ rfl (by first | exact elem22 | exact elem45 | exact elem56 | exact elem58) (by kernel_rfl) (by kernel_rfl) (by kernel_rfl) H (fun b w' H1 => hK _ _ ?_))); clear hK K; replace H := H1; clear H1)); (try clear hc); (try simp only [nrm, splice, Value.cells, Nat.reduceAdd, Act.eval, Act.put] at H); have hc := H.cells; simp only [CellsOf, KnCells, knc, Nat.reduceAdd] at hc))
  replace H := H.rowSoft (key := key2) (by repeat (first | exact Split.here _ _ | apply Split.there))
  (try simp only [List.append] at H)
  replace H := H.sel (L' := [(false, soft (key2.map fun b => ⟨b, 0, none⟩) (intsN A))]) (by repeat (first | exact Sel.nil _ | (apply Sel.cons; focus (repeat (first | exact Split.here _ _ | apply Split.there)))))
  clear hc hv
  simp only [sl]
  generalize (key2.map fun b => (⟨b, 0, none⟩ : Addr)) = src at *
  have hn2b : n2 ≤ 100000000 := by rw [hn2.out]; exact hrl
  rcases Nat.eq_zero_or_pos n2 with hz | hz
  · obtain rfl : n2 = 0 := hz
    have hle5 : 0 ≤ 50000 := by omega
    obtain ⟨L2, hp1, hp2, hp3⟩ := back hstrict.out hbA.out (by rw [← hn2.out]; omega)
    have hp1 := Lib.hid hp1
    have hp2 := Lib.hid hp2
    have hL2 : L2.length ≤ 100000000 := by omega
    have htl2 : (text A).length ≤ 900000 := by have := text_len hbA.out; have := hn2.out; omega
    clear hp3
    have hc := H.cells; simp only [CellsOf, KnCells, knc, Nat.reduceAdd] at hc
    repeat' (first | (go_big_may; (first
    | go_skip
    | ((first
        | (go_at_call 8; (with_reducible refine gate_args (l := Value.slice src 0 cap2 :: _) ?_); refine Calls.mono (text_soft src A 0 cap2 hn2 hle5 hbA hrA _ (tabAt_ext ht'.out H.ext) (H.pick (by repeat (first | exact Picks.nil _ | (apply Picks.wr; focus (repeat (first | exact Split.here _ _ | apply Split.there))) | (apply Picks.rd; focus (repeat (first | exact Split.here _ _ | apply Split.there))))))) ?_; rintro e w' ⟨rfl, H'⟩; replace H := H.of_ext H'; clear H')
        | (go_at_call 7; refine Calls.mono (cpuParse_some (text A) L2 A htl2 hp1 hp2 hL2 _ (errEnv_ext he'.out H.ext)) ?_; rintro e w' ⟨key5, n5, cap5, hn5, rfl, H'⟩; replace H := H.merge (by first | exact Strikes.nil _ | (repeat (first | exact Strikes.nil _ | (apply Strikes.cons; focus (repeat (first | exact Split.here _ _ | apply Split.there)))))) H' rfl; clear H')
        | (go_at_call 9; refine Calls.mono (equal_sr src key5 A 0 n5 cap2 cap5 hn2 hn5 (by omega) _ (H.pick (by repeat (first | exact Picks.nil _ | (apply Picks.wr; focus (repeat (first | exact Split.here _ _ | apply Split.there))) | (apply Picks.rd; focus (repeat (first | exact Split.here _ _ | apply Split.there))))))) ?_; rintro e w' ⟨rfl, H'⟩; replace H := H.of_ext H'; clear H')
        | (go_at_call 8; (with_reducible refine gate_args (l := sl key5 n5 cap5 :: _) ?_); refine Calls.mono (text_row key5 A n5 cap5 hn5 (by have := hn5.out; have := hn2.out; omega) hbA hrA _ (tabAt_ext ht'.out H.ext) (H.pick (by repeat (first | exact Picks.nil _ | (apply Picks.wr; focus (repeat (first | exact Split.here _ _ | apply Split.there))) | (apply Picks.rd; focus (repeat (first | exact Split.here _ _ | apply Split.there))))))) ?_; rintro e w' ⟨rfl, H'⟩; replace H := H.of_ext H'; clear H')
        | (go_at_call 6; refine Calls.mono (live_calls _ (errEnv_ext he'.out H.ext) (tabAt_ext ht'.out H.ext)) ?_; rintro e w' ⟨rfl, H'⟩; replace H := H.of_ext H'; clear H')
        | (refine loud_ rfl ?_; refine wpList_plain rfl (fun K hK => ?_); (first | (refine op_box _ _ rfl H (fun b w' H1 => hK _ _ ?_)) | (refine op_alloc _ rfl (zero_of _ _ rfl) H (fun b w' H1 => hK _ _ ?_)) | (refine op_store _ _ _ rfl rfl rfl H (by repeat (first | exact Split.here _ _ | apply Split.there)) (by kernel_rfl) (by kernel_rfl) (by kernel_rfl) (fun w' H1 => hK _ _ ?_)) | (refine op_buildSlice_all _ _ _ rfl (by first | exact elem22 | exact elem45 | exact elem56 | exact elem58) (by kernel_rfl) (by kernel_rfl) (by kernel_rfl) H (fun b w' H1 => hK _ _ ?_))); clear hK K; replace H := H1; clear H1)); (try clear hc); (try simp only [nrm, splice, Value.cells, Nat.reduceAdd, Act.eval, Act.put] at H); have hc := H.cells; simp only [CellsOf, KnCells, knc, Nat.reduceAdd] at hc))) | go_values | go_skip | go_guarded | go_step | go_upon | go_back | dsimp only)
    go_ret
    exact ⟨rfl, H.ext⟩
  · have hc4 : decide ((0 : Int) < (n2 : Int)) = true := by simp; omega
    have hA0 : 0 < A.length := by rw [← hn2.out]; exact hz
    have hx0 := (hbA.out A[0] (List.getElem_mem _)).1
    have hc6 : decide (A[0] < 0) = false := by simp; omega
    obtain ⟨b1, o1, rfl, H1⟩ := H.elemSoft (Split.here _ _) 0 [ki A[0]] (by show 0 < 1; omega) (by rw [intsN_len]; show 0 + 1 ≤ _; omega) (by intro i hi; obtain rfl : i = 0 := (by simpa using hi); simp [intsN, hA0])
    replace H := H1
    clear H1
    generalize A[0] = a0 at *
    by_cases h50 : 50000 < n2
    · have hc5 : decide ((50000 : Int) < (n2 : Int)) = true := by simp; omega
      have hc := H.cells; simp only [CellsOf, KnCells, knc, Nat.reduceAdd] at hc
      repeat' (first | (go_big_may; (first
    | go_skip
    | ((first
        | (go_at_call 6; refine Calls.mono (live_calls _ (errEnv_ext he'.out H.ext) (tabAt_ext ht'.out H.ext)) ?_; rintro e w' ⟨rfl, H'⟩; replace H := H.of_ext H'; clear H')
        | (refine loud_ rfl ?_; refine wpList_plain rfl (fun K hK => ?_); (first | (refine op_box _ _ rfl H (fun b w' H1 => hK _ _ ?_)) | (refine op_alloc _ rfl (zero_of _ _ rfl) H (fun b w' H1 => hK _ _ ?_)) | (refine op_store _ _ _ rfl rfl rfl H (by repeat (first | exact Split.here _ _ | apply Split.there)) (by kernel_rfl) (by kernel_rfl) (by kernel_rfl) (fun w' H1 => hK _ _ ?_)) | (refine op_buildSlice_all _ _ _ rfl (by first | exact elem22 | exact elem45 | exact elem56 | exact elem58) (by kernel_rfl) (by kernel_rfl) (by kernel_rfl) H (fun b w' H1 => hK _ _ ?_))); clear hK K; replace H := H1; clear H1)); (try clear hc); (try simp only [nrm, splice, Value.cells, Nat.reduceAdd, Act.eval, Act.put] at H); have hc := H.cells; simp only [CellsOf, KnCells, knc, Nat.reduceAdd] at hc))) | go_values | go_skip | go_guarded | go_step | go_upon | go_back | dsimp only)
      go_ret
      exact ⟨rfl, H.ext⟩
    · have hle5 : n2 ≤ 50000 := by omega
      obtain ⟨L2, hp1, hp2, hp3⟩ := back hstrict.out hbA.out (by rw [← hn2.out]; omega)
      have hp1 := Lib.hid hp1
      have hp2 := Lib.hid hp2
      have hL2 : L2.length ≤ 100000000 := by omega
      have htl2 : (text A).length ≤ 900000 := by have := text_len hbA.out; have := hn2.out; omega
      have hc5 : decide ((50000 : Int) < (n2 : Int)) = false := by simp; omega
      clear hp3
      have hc := H.cells; simp only [CellsOf, KnCells, knc, Nat.reduceAdd] at hc
      repeat' (first | (go_big_may; (first
    | go_skip
    | ((first
        | (go_at_call 8; (with_reducible refine gate_args (l := Value.slice (some ⟨b1, o1, none⟩) n2 cap2 :: _) ?_); refine Calls.mono (text_soft (some ⟨b1, o1, none⟩) A n2 cap2 hn2 hle5 hbA hrA _ (tabAt_ext ht'.out H.ext) (H.pick (by repeat (first | exact Picks.nil _ | (apply Picks.wr; focus (repeat (first | exact Split.here _ _ | apply Split.there))) | (apply Picks.rd; focus (repeat (first | exact Split.here _ _ | apply Split.there))))))) ?_; rintro e w' ⟨rfl, H'⟩; replace H := H.of_ext H'; clear H')
        | (go_at_call 7; refine Calls.mono (cpuParse_some (text A) L2 A htl2 hp1 hp2 hL2 _ (errEnv_ext he'.out H.ext)) ?_; rintro e w' ⟨key5, n5, cap5, hn5, rfl, H'⟩; replace H := H.merge (by first | exact Strikes.nil _ | (repeat (first | exact Strikes.nil _ | (apply Strikes.cons; focus (repeat (first | exact Split.here _ _ | apply Split.there)))))) H' rfl; clear H')
        | (go_at_call 9; refine Calls.mono (equal_sr (some ⟨b1, o1, none⟩) key5 A n2 n5 cap2 cap5 hn2 hn5 (by omega) _ (H.pick (by repeat (first | exact Picks.nil _ | (apply Picks.wr; focus (repeat (first | exact Split.here _ _ | apply Split.there))) | (apply Picks.rd; focus (repeat (first | exact Split.here _ _ | apply Split.there))))))) ?_; rintro e w' ⟨rfl, H'⟩; replace H := H.of_ext H'; clear H')
        | (go_at_call 8; (with_reducible refine gate_args (l := sl key5 n5 cap5 :: _) ?_); refine Calls.mono (text_row key5 A n5 cap5 hn5 (by have := hn5.out; have := hn2.out; omega) hbA hrA _ (tabAt_ext ht'.out H.ext) (H.pick (by repeat (first | exact Picks.nil _ | (apply Picks.wr; focus (repeat (first | exact Split.here _ _ | apply Split.there))) | (apply Picks.rd; focus (repeat (first | exact Split.here _ _ | apply Split.there))))))) ?_; rintro e w' ⟨rfl, H'⟩; replace H := H.of_ext H'; clear H')
        | (go_at_call 6; refine Calls.mono (live_calls _ (errEnv_ext he'.out H.ext) (tabAt_ext ht'.out H.ext)) ?_; rintro e w' ⟨rfl, H'⟩; replace H := H.of_ext H'; clear H')
        | (refine loud_ rfl ?_; refine wpList_plain rfl (fun K hK => ?_); (first | (refine op_box _ _ rfl H (fun b w' H1 => hK _ _ ?_)) | (refine op_alloc _ rfl (zero_of _ _ rfl) H (fun b w' H1 => hK _ _ ?_)) | (refine op_store _ _ _ rfl rfl rfl H (by repeat (first | exact Split.here _ _ | apply Split.there)) (by kernel_rfl) (by kernel_rfl) (by kernel_rfl) (fun w' H1 => hK _ _ ?_)) | (refine op_buildSlice_all _ _ _ rfl (by first | exact elem22 | exact elem45 | exact elem56 | exact elem58) (by kernel_rfl) (by kernel_rfl) (by kernel_rfl) H (fun b w' H1 => hK _ _ ?_))); clear hK K; replace H := H1; clear H1)); (try clear hc); (try simp only [nrm, splice, Value.cells, Nat.reduceAdd, Act.eval, Act.put] at H); have hc := H.cells; simp only [CellsOf, KnCells, knc, Nat.reduceAdd] at hc))) | go_values | go_skip | go_guarded | go_step | go_upon | go_back | dsimp only)
      go_ret
      exact ⟨rfl, H.ext⟩
end Go.Proofs.YtjknkdmenhcbkaaDoor
