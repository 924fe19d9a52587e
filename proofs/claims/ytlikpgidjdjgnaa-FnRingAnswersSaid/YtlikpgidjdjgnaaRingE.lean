import Derived.Test.YtlikpgidjdjgnaaRingB
-- MORE
namespace Go.Proofs.Ytlikpgidjdjgnaa
set_option linter.unusedVariables false
set_option linter.unusedSimpArgs false
set_option linter.unnecessarySimpa false
open Go.RowKit Go.V

/-- A fixed ring, as data. -/
structure FR where
  N : Nat
  c : Nat
  t : Nat
  data : List Int
structure FR.Ok (r : FR) : Prop where
  pos : 0 < r.N
  small : r.N ≤ 65536
  cur : r.c < r.N
  len : r.data.length = r.N
  few : r.t ≤ 1000000000000
def FR.write (r : FR) (v : List Int) : FR := ⟨r.N, (r.c + min v.length r.N) % r.N, r.t + v.length, wr2 r.N r.c r.data (v.drop (v.length - r.N))⟩
def FR.reset (r : FR) : FR := ⟨r.N, 0, 0, r.data⟩
abbrev FR.ents (r : FR) (br kb : Nat) : List Ent := [(true, .is br (rf kb r.N r.c r.t)), (true, .row (some kb) 3 1 r.N r.N (ints r.data))]

theorem arr_here {w : World} {src : Option Addr} {v : List Int} (h : holds w (.arr src (ints v))) (hv : 0 < v.length) : ∃ b o, src = some ⟨b, o, none⟩ := by
  cases src with
  | none =>
    have h0 : ints v = [] := h
    have := ints_len v
    rw [h0] at this
    simp at this
    omega
  | some a =>
    obtain ⟨b, o, sp⟩ := a
    have h1 : sp = none := h.1
    subst h1
    exact ⟨b, o, rfl⟩
theorem fwrite_any (r : FR) (hr : r.Ok) (br kb : Nat) (src : Option Addr) (pc n : Nat) (v : List Int) (S : List Nat) (w : World) (hn : n = v.length) (hv : v.length ≤ 1000000) (hpc : n ≤ pc) (hs : src = none → n = 0)
    (H : St S w w [(true, .is br (rf kb r.N r.c r.t)), (true, .row (some kb) 3 1 r.N r.N (ints r.data)), (false, .arr src (ints v))]) :
    Calls Try.prog 21 #[.pointer (some ⟨br, 0, none⟩), .slice src n pc] w fun e w' => e = .returned (.tuple #[.int .i64 n, .nilIface]) ∧ St S w w' ((r.write v).ents br kb) := by
  subst hn
  obtain ⟨N, c, t, data⟩ := r
  obtain ⟨h1, h2, h3, h4, h5⟩ := hr
  simp only at h1 h2 h3 h4 h5 H
  unfold FR.write FR.ents
  simp only
  by_cases hN : v.length ≤ N
  · rw [Nat.min_eq_left hN, show v.length - N = 0 by omega, List.drop_zero]
    by_cases hc : v.length ≤ N - c
    · exact fwrite_one br kb N c t data src pc v S w h2 h3 h4 h5 hc hs H
    · obtain ⟨pb, po, rfl⟩ := arr_here (H.get (Split.there _ (Split.there _ (Split.here _ _)))) (by omega)
      exact fwrite_two br kb N (N - c) c t data pb po pc v S w h2 (by show N = _; omega) (by omega) h4 h5 hN (by omega) hpc H
  · rw [Nat.min_eq_right (by omega)]
    obtain ⟨pb, po, rfl⟩ := arr_here (H.get (Split.there _ (Split.there _ (Split.here _ _)))) (by omega)
    by_cases hc : c = 0
    · subst hc
      exact fwrite_big0 br kb N t data pb po pc (v.length - N) v S w h2 h1 h4 h5 (by show v.length = _; omega) hv (by omega) hpc H
    · exact fwrite_big br kb N (N - c) c t data pb po pc (v.length - N) v S w h2 (by show N = _; omega) (by omega) (by omega) h4 h5 (by show v.length = _; omega) hv (by omega) hpc H

/-- What an operation tells, and what it leaves. -/
def FR.ans (r : FR) (kind : Int) (v : List Int) : Bool × Int × List Int :=
  if kind = 1 then (true, v.length, []) else if kind = 3 then (true, (min r.t r.N : Nat), []) else if kind = 4 then (true, r.N, []) else if kind = 5 then (true, 0, held r.N r.c r.t r.data) else if kind = 6 then (true, r.t, []) else if kind = 7 then (true, 0, []) else (false, 0, [])
def FR.next (r : FR) (kind : Int) (v : List Int) : FR := if kind = 1 then r.write v else if kind = 7 then r.reset else r
/-- An answer, in memory. -/
def Told (r : FR) (br kb : Nat) (kind : Int) (v : List Int) (S : List Nat) (w : World) (e : Ending) (w' : World) : Prop := ∃ key m cap, m = (r.ans kind v).2.2.length ∧ e = .returned (.agg #[.bool (r.ans kind v).1, .int .i64 (r.ans kind v).2.1, sl key m cap]) ∧
  St S w w' ((true, .row key 3 1 m cap (ints (r.ans kind v).2.2)) :: (r.next kind v).ents br kb)
theorem told_plain {r : FR} {br kb : Nat} {kind : Int} {v : List Int} {S : List Nat} {w w' : World} {b : Bool} {x : Int} (ha : r.ans kind v = (b, x, [])) (hn : r.next kind v = r) (H : St S w w' (r.ents br kb)) : Told r br kb kind v S w (.returned (.agg #[.bool b, .int .i64 x, .slice none 0 0])) w' := by
  refine ⟨none, 0, 0, ?_, ?_, ?_⟩
  · rw [ha]; rfl
  · rw [ha]; rfl
  · rw [ha, hn]
    exact H.nilRow _ _

set_option maxHeartbeats 2000000 in
theorem fixed_write (r : FR) (hr : r.Ok) (br kb : Nat) (src : Option Addr) (n cap : Nat) (v : List Int) (S : List Nat) (w : World) (hn : Hid (v.length = n)) (hv : n ≤ 1000000) (hs : src = none → n = 0)
    (H : St S w w [(true, .is br (rf kb r.N r.c r.t)), (true, .row (some kb) 3 1 r.N r.N (ints r.data)), (false, soft src (ints v))]) :
    Calls Try.prog 14 #[.pointer (some ⟨br, 0, none⟩), .agg #[.int .i64 1, .slice src n cap]] w (Told r br kb 1 v S w) := by
  go_enter Try.func14, Try.ntmps14
  go_wp2_with (first
    | (go_at_call 21; refine Calls.mono (fwrite_any r hr _ _ _ _ _ v _ _ hn.out.symm (by rw [hn.out]; omega) hpc (by intro h; exact hpn (by simpa using h)) (H.pick (by repeat (first | exact Picks.nil _ | (apply Picks.wr; focus (repeat (first | exact Split.here _ _ | apply Split.there))) | (apply Picks.rd; focus (repeat (first | exact Split.here _ _ | apply Split.there))))))) ?_; rintro e w' ⟨rfl, H'⟩; replace H := H.merge (by first | exact Strikes.nil _ | (repeat (first | exact Strikes.nil _ | (apply Strikes.cons; focus (repeat (first | exact Split.here _ _ | apply Split.there)))))) H' rfl; clear H'; (try clear hc); (try simp only [nrm, splice, Value.cells, Nat.reduceAdd, Act.eval, Act.put] at H); have hc := H.cells; simp only [CellsOf, KnCells, arr_lit, knAt_cons, knAt_nil, Nat.zero_add, Nat.add_zero, Nat.reduceAdd] at hc)
    | (refine loud_ rfl ?_; refine wpList_plain rfl (fun K hK => ?_); first
      | (refine op_append_nil_arr _ _ _ rfl elem26 rfl rfl H (H.lies (by repeat (first | exact Split.here _ _ | apply Split.there))) (by rw [ints_len, hn.out]; omega) hs (one_ints v) (by omega) (by unfold maxLen; omega) (fun pk pcap w' hpc hpn H1 => hK _ _ ?_); clear hK K; replace H := H1; clear H1; (try clear hc); (try simp only [nrm, splice, Value.cells, Nat.reduceAdd, Act.eval, Act.put] at H); have hc := H.cells; simp only [CellsOf, KnCells, arr_lit, knAt_cons, knAt_nil, Nat.zero_add, Nat.add_zero, Nat.reduceAdd] at hc)
      | (refine op_box _ _ rfl H (fun b w' H1 => hK _ _ ?_); clear hK K; replace H := H1; clear H1; (try clear hc); (try simp only [nrm, splice, Value.cells, Nat.reduceAdd, Act.eval, Act.put] at H); have hc := H.cells; simp only [CellsOf, KnCells, arr_lit, knAt_cons, knAt_nil, Nat.zero_add, Nat.add_zero, Nat.reduceAdd] at hc)
      | (refine op_alloc _ rfl (zero_of _ _ rfl) H (fun b w' H1 => hK _ _ ?_); clear hK K; replace H := H1; clear H1; (try clear hc); (try simp only [nrm, splice, Value.cells, Nat.reduceAdd, Act.eval, Act.put] at H); have hc := H.cells; simp only [CellsOf, KnCells, arr_lit, knAt_cons, knAt_nil, Nat.zero_add, Nat.add_zero, Nat.reduceAdd] at hc)
      | (refine op_store _ _ _ rfl rfl rfl H (by repeat (first | exact Split.here _ _ | apply Split.there)) (by kernel_rfl) (by kernel_rfl) (by kernel_rfl) (fun w' H1 => hK _ _ ?_); clear hK K; replace H := H1; clear H1; (try clear hc); (try simp only [nrm, splice, Value.cells, Nat.reduceAdd, Act.eval, Act.put] at H); have hc := H.cells; simp only [CellsOf, KnCells, arr_lit, knAt_cons, knAt_nil, Nat.zero_add, Nat.add_zero, Nat.reduceAdd] at hc)
      | (refine op_buildSlice_all _ _ _ rfl (by first | exact elem22 | exact elem25 | exact elem26 | exact elem29) (by kernel_rfl) (by kernel_rfl) (by kernel_rfl) H (fun b w' H1 => hK _ _ ?_); clear hK K; replace H := H1; clear H1; (try clear hc); (try simp only [nrm, splice, Value.cells, Nat.reduceAdd, Act.eval, Act.put] at H); have hc := H.cells; simp only [CellsOf, KnCells, arr_lit, knAt_cons, knAt_nil, Nat.zero_add, Nat.add_zero, Nat.reduceAdd] at hc)))
  have hn2 := hn.out
  exact bodyPost_ret (v := .agg #[.bool true, .int .i64 n, .slice none 0 0]) (by simp [results, Try.results14, go_sem, hc, Act.put]; try rfl) rfl ⟨none, 0, 0, rfl, by rw [← hn2]; rfl, (H.nilRow _ _).sel (by repeat (first | exact Sel.nil _ | (apply Sel.cons; focus (repeat (first | exact Split.here _ _ | apply Split.there)))))⟩

set_option maxHeartbeats 2000000 in
theorem fixed_slice (r : FR) (hr : r.Ok) (br kb : Nat) (src : Option Addr) (n cap : Nat) (v : List Int) (S : List Nat) (w : World) (hb : br ≠ kb)
    (H : St S w w [(true, .is br (rf kb r.N r.c r.t)), (true, .row (some kb) 3 1 r.N r.N (ints r.data))]) :
    Calls Try.prog 14 #[.pointer (some ⟨br, 0, none⟩), .agg #[.int .i64 5, .slice src n cap]] w (Told r br kb 5 v S w) := by
  have hr2 := hr.small
  go_enter Try.func14, Try.ntmps14
  go_wp2_with (first
    | (go_at_call 24; refine Calls.mono (fslice_calls _ _ _ _ _ _ _ hr.small hr.pos hr.cur hr.len hr.few (H.obj (by repeat (first | exact Split.here _ _ | apply Split.there))) (H.get (by repeat (first | exact Split.here _ _ | apply Split.there))) hb) ?_; rintro e w' ⟨src2, m, cap2, hm, hmN, hm0, rfl, H', hlies⟩; replace H := H.of_ext H'; clear H'; (try clear hc); (try simp only [nrm, splice, Value.cells, Nat.reduceAdd, Act.eval, Act.put] at H); have hc := H.cells; simp only [CellsOf, KnCells, arr_lit, knAt_cons, knAt_nil, Nat.zero_add, Nat.add_zero, Nat.reduceAdd] at hc)
    | (refine loud_ rfl ?_; refine wpList_plain rfl (fun K hK => ?_); first
      | (refine op_append_nil _ _ _ rfl elem26 rfl rfl H hlies (by rw [ints_len, hm.out]; omega) hm0 (one_ints _) (by omega) (by unfold maxLen; omega) (fun pk pcap w' H1 => hK _ _ ?_); clear hK K; replace H := H1; clear H1; (try clear hc); (try simp only [nrm, splice, Value.cells, Nat.reduceAdd, Act.eval, Act.put] at H); have hc := H.cells; simp only [CellsOf, KnCells, arr_lit, knAt_cons, knAt_nil, Nat.zero_add, Nat.add_zero, Nat.reduceAdd] at hc)
      | (refine op_box _ _ rfl H (fun b w' H1 => hK _ _ ?_); clear hK K; replace H := H1; clear H1; (try clear hc); (try simp only [nrm, splice, Value.cells, Nat.reduceAdd, Act.eval, Act.put] at H); have hc := H.cells; simp only [CellsOf, KnCells, arr_lit, knAt_cons, knAt_nil, Nat.zero_add, Nat.add_zero, Nat.reduceAdd] at hc)
      | (refine op_alloc _ rfl (zero_of _ _ rfl) H (fun b w' H1 => hK _ _ ?_); clear hK K; replace H := H1; clear H1; (try clear hc); (try simp only [nrm, splice, Value.cells, Nat.reduceAdd, Act.eval, Act.put] at H); have hc := H.cells; simp only [CellsOf, KnCells, arr_lit, knAt_cons, knAt_nil, Nat.zero_add, Nat.add_zero, Nat.reduceAdd] at hc)
      | (refine op_store _ _ _ rfl rfl rfl H (by repeat (first | exact Split.here _ _ | apply Split.there)) (by kernel_rfl) (by kernel_rfl) (by kernel_rfl) (fun w' H1 => hK _ _ ?_); clear hK K; replace H := H1; clear H1; (try clear hc); (try simp only [nrm, splice, Value.cells, Nat.reduceAdd, Act.eval, Act.put] at H); have hc := H.cells; simp only [CellsOf, KnCells, arr_lit, knAt_cons, knAt_nil, Nat.zero_add, Nat.add_zero, Nat.reduceAdd] at hc)
      | (refine op_buildSlice_all _ _ _ rfl (by first | exact elem22 | exact elem25 | exact elem26 | exact elem29) (by kernel_rfl) (by kernel_rfl) (by kernel_rfl) H (fun b w' H1 => hK _ _ ?_); clear hK K; replace H := H1; clear H1; (try clear hc); (try simp only [nrm, splice, Value.cells, Nat.reduceAdd, Act.eval, Act.put] at H); have hc := H.cells; simp only [CellsOf, KnCells, arr_lit, knAt_cons, knAt_nil, Nat.zero_add, Nat.add_zero, Nat.reduceAdd] at hc)))
  exact bodyPost_ret (v := .agg #[.bool true, .int .i64 0, sl pk m pcap]) (by simp [results, Try.results14, go_sem, hc, Act.put]; try rfl) rfl ⟨pk, m, pcap, hm.out, rfl, H.sel (by repeat (first | exact Sel.nil _ | (apply Sel.cons; focus (repeat (first | exact Split.here _ _ | apply Split.there)))))⟩

set_option maxHeartbeats 2000000 in
theorem fixed_rest (r : FR) (hr : r.Ok) (br kb : Nat) (kind : Int) (k1 : ¬ kind = 1) (k5 : ¬ kind = 5) (src : Option Addr) (n cap : Nat) (v : List Int) (S : List Nat) (w : World)
    (H : St S w w [(true, .is br (rf kb r.N r.c r.t)), (true, .row (some kb) 3 1 r.N r.N (ints r.data))]) :
    Calls Try.prog 14 #[.pointer (some ⟨br, 0, none⟩), .agg #[.int .i64 kind, .slice src n cap]] w (Told r br kb kind v S w) := by
  have hr2 := hr.small
  by_cases k3 : kind = 3
  · subst k3
    clear k1 k5
    go_enter Try.func14, Try.ntmps14
    go_wp2_with (first
    | (go_at_call 22; refine Calls.mono (flen_calls _ _ _ _ _ _ (H.obj (by repeat (first | exact Split.here _ _ | apply Split.there))) hr.small hr.few) ?_; rintro e w' ⟨rfl, H'⟩; replace H := H.of_ext H'; clear H'; (try clear hc); (try simp only [nrm, splice, Value.cells, Nat.reduceAdd, Act.eval, Act.put] at H); have hc := H.cells; simp only [CellsOf, KnCells, arr_lit, knAt_cons, knAt_nil, Nat.zero_add, Nat.add_zero, Nat.reduceAdd] at hc)
    | (refine loud_ rfl ?_; refine wpList_plain rfl (fun K hK => ?_); first
      | (refine op_box _ _ rfl H (fun b w' H1 => hK _ _ ?_); clear hK K; replace H := H1; clear H1; (try clear hc); (try simp only [nrm, splice, Value.cells, Nat.reduceAdd, Act.eval, Act.put] at H); have hc := H.cells; simp only [CellsOf, KnCells, arr_lit, knAt_cons, knAt_nil, Nat.zero_add, Nat.add_zero, Nat.reduceAdd] at hc)
      | (refine op_alloc _ rfl (zero_of _ _ rfl) H (fun b w' H1 => hK _ _ ?_); clear hK K; replace H := H1; clear H1; (try clear hc); (try simp only [nrm, splice, Value.cells, Nat.reduceAdd, Act.eval, Act.put] at H); have hc := H.cells; simp only [CellsOf, KnCells, arr_lit, knAt_cons, knAt_nil, Nat.zero_add, Nat.add_zero, Nat.reduceAdd] at hc)
      | (refine op_store _ _ _ rfl rfl rfl H (by repeat (first | exact Split.here _ _ | apply Split.there)) (by kernel_rfl) (by kernel_rfl) (by kernel_rfl) (fun w' H1 => hK _ _ ?_); clear hK K; replace H := H1; clear H1; (try clear hc); (try simp only [nrm, splice, Value.cells, Nat.reduceAdd, Act.eval, Act.put] at H); have hc := H.cells; simp only [CellsOf, KnCells, arr_lit, knAt_cons, knAt_nil, Nat.zero_add, Nat.add_zero, Nat.reduceAdd] at hc)
      | (refine op_buildSlice_all _ _ _ rfl (by first | exact elem22 | exact elem25 | exact elem26 | exact elem29) (by kernel_rfl) (by kernel_rfl) (by kernel_rfl) H (fun b w' H1 => hK _ _ ?_); clear hK K; replace H := H1; clear H1; (try clear hc); (try simp only [nrm, splice, Value.cells, Nat.reduceAdd, Act.eval, Act.put] at H); have hc := H.cells; simp only [CellsOf, KnCells, arr_lit, knAt_cons, knAt_nil, Nat.zero_add, Nat.add_zero, Nat.reduceAdd] at hc)))
    exact bodyPost_ret (v := .agg #[.bool true, .int .i64 ((min r.t r.N : Nat) : Int), .slice none 0 0]) (by simp [results, Try.results14, go_sem, hc, Act.put]; try rfl) rfl (told_plain (by simp [FR.ans, *]) (by simp [FR.next, *]) (H.sel (by repeat (first | exact Sel.nil _ | (apply Sel.cons; focus (repeat (first | exact Split.here _ _ | apply Split.there)))))))
  by_cases k4 : kind = 4
  · subst k4
    clear k1 k5 k3
    go_enter Try.func14, Try.ntmps14
    go_wp2_with (first
    | (go_at_call 23; refine Calls.mono (fsize_calls _ _ _ _ _ _ (H.obj (by repeat (first | exact Split.here _ _ | apply Split.there)))) ?_; rintro e w' ⟨rfl, H'⟩; replace H := H.of_ext H'; clear H'; (try clear hc); (try simp only [nrm, splice, Value.cells, Nat.reduceAdd, Act.eval, Act.put] at H); have hc := H.cells; simp only [CellsOf, KnCells, arr_lit, knAt_cons, knAt_nil, Nat.zero_add, Nat.add_zero, Nat.reduceAdd] at hc)
    | (refine loud_ rfl ?_; refine wpList_plain rfl (fun K hK => ?_); first
      | (refine op_box _ _ rfl H (fun b w' H1 => hK _ _ ?_); clear hK K; replace H := H1; clear H1; (try clear hc); (try simp only [nrm, splice, Value.cells, Nat.reduceAdd, Act.eval, Act.put] at H); have hc := H.cells; simp only [CellsOf, KnCells, arr_lit, knAt_cons, knAt_nil, Nat.zero_add, Nat.add_zero, Nat.reduceAdd] at hc)
      | (refine op_alloc _ rfl (zero_of _ _ rfl) H (fun b w' H1 => hK _ _ ?_); clear hK K; replace H := H1; clear H1; (try clear hc); (try simp only [nrm, splice, Value.cells, Nat.reduceAdd, Act.eval, Act.put] at H); have hc := H.cells; simp only [CellsOf, KnCells, arr_lit, knAt_cons, knAt_nil, Nat.zero_add, Nat.add_zero, Nat.reduceAdd] at hc)
      | (refine op_store _ _ _ rfl rfl rfl H (by repeat (first | exact Split.here _ _ | apply Split.there)) (by kernel_rfl) (by kernel_rfl) (by kernel_rfl) (fun w' H1 => hK _ _ ?_); clear hK K; replace H := H1; clear H1; (try clear hc); (try simp only [nrm, splice, Value.cells, Nat.reduceAdd, Act.eval, Act.put] at H); have hc := H.cells; simp only [CellsOf, KnCells, arr_lit, knAt_cons, knAt_nil, Nat.zero_add, Nat.add_zero, Nat.reduceAdd] at hc)
      | (refine op_buildSlice_all _ _ _ rfl (by first | exact elem22 | exact elem25 | exact elem26 | exact elem29) (by kernel_rfl) (by kernel_rfl) (by kernel_rfl) H (fun b w' H1 => hK _ _ ?_); clear hK K; replace H := H1; clear H1; (try clear hc); (try simp only [nrm, splice, Value.cells, Nat.reduceAdd, Act.eval, Act.put] at H); have hc := H.cells; simp only [CellsOf, KnCells, arr_lit, knAt_cons, knAt_nil, Nat.zero_add, Nat.add_zero, Nat.reduceAdd] at hc)))
    exact bodyPost_ret (v := .agg #[.bool true, .int .i64 r.N, .slice none 0 0]) (by simp [results, Try.results14, go_sem, hc, Act.put]; try rfl) rfl (told_plain (by simp [FR.ans, *]) (by simp [FR.next, *]) (H.sel (by repeat (first | exact Sel.nil _ | (apply Sel.cons; focus (repeat (first | exact Split.here _ _ | apply Split.there)))))))
  by_cases k6 : kind = 6
  · subst k6
    clear k1 k5 k3 k4
    go_enter Try.func14, Try.ntmps14
    go_wp2_with (first
    | (go_at_call 25; refine Calls.mono (ftotal_calls _ _ _ _ _ _ (H.obj (by repeat (first | exact Split.here _ _ | apply Split.there)))) ?_; rintro e w' ⟨rfl, H'⟩; replace H := H.of_ext H'; clear H'; (try clear hc); (try simp only [nrm, splice, Value.cells, Nat.reduceAdd, Act.eval, Act.put] at H); have hc := H.cells; simp only [CellsOf, KnCells, arr_lit, knAt_cons, knAt_nil, Nat.zero_add, Nat.add_zero, Nat.reduceAdd] at hc)
    | (refine loud_ rfl ?_; refine wpList_plain rfl (fun K hK => ?_); first
      | (refine op_box _ _ rfl H (fun b w' H1 => hK _ _ ?_); clear hK K; replace H := H1; clear H1; (try clear hc); (try simp only [nrm, splice, Value.cells, Nat.reduceAdd, Act.eval, Act.put] at H); have hc := H.cells; simp only [CellsOf, KnCells, arr_lit, knAt_cons, knAt_nil, Nat.zero_add, Nat.add_zero, Nat.reduceAdd] at hc)
      | (refine op_alloc _ rfl (zero_of _ _ rfl) H (fun b w' H1 => hK _ _ ?_); clear hK K; replace H := H1; clear H1; (try clear hc); (try simp only [nrm, splice, Value.cells, Nat.reduceAdd, Act.eval, Act.put] at H); have hc := H.cells; simp only [CellsOf, KnCells, arr_lit, knAt_cons, knAt_nil, Nat.zero_add, Nat.add_zero, Nat.reduceAdd] at hc)
      | (refine op_store _ _ _ rfl rfl rfl H (by repeat (first | exact Split.here _ _ | apply Split.there)) (by kernel_rfl) (by kernel_rfl) (by kernel_rfl) (fun w' H1 => hK _ _ ?_); clear hK K; replace H := H1; clear H1; (try clear hc); (try simp only [nrm, splice, Value.cells, Nat.reduceAdd, Act.eval, Act.put] at H); have hc := H.cells; simp only [CellsOf, KnCells, arr_lit, knAt_cons, knAt_nil, Nat.zero_add, Nat.add_zero, Nat.reduceAdd] at hc)
      | (refine op_buildSlice_all _ _ _ rfl (by first | exact elem22 | exact elem25 | exact elem26 | exact elem29) (by kernel_rfl) (by kernel_rfl) (by kernel_rfl) H (fun b w' H1 => hK _ _ ?_); clear hK K; replace H := H1; clear H1; (try clear hc); (try simp only [nrm, splice, Value.cells, Nat.reduceAdd, Act.eval, Act.put] at H); have hc := H.cells; simp only [CellsOf, KnCells, arr_lit, knAt_cons, knAt_nil, Nat.zero_add, Nat.add_zero, Nat.reduceAdd] at hc)))
    exact bodyPost_ret (v := .agg #[.bool true, .int .i64 r.t, .slice none 0 0]) (by simp [results, Try.results14, go_sem, hc, Act.put]; try rfl) rfl (told_plain (by simp [FR.ans, *]) (by simp [FR.next, *]) (H.sel (by repeat (first | exact Sel.nil _ | (apply Sel.cons; focus (repeat (first | exact Split.here _ _ | apply Split.there)))))))
  by_cases k7 : kind = 7
  · subst k7
    clear k1 k5 k3 k4 k6
    go_enter Try.func14, Try.ntmps14
    go_wp2_with (first
    | (go_at_call 26; refine Calls.mono (freset_calls _ _ _ _ _ _ _ (H.pick (by repeat (first | exact Picks.nil _ | (apply Picks.wr; focus (repeat (first | exact Split.here _ _ | apply Split.there))) | (apply Picks.rd; focus (repeat (first | exact Split.here _ _ | apply Split.there))))))) ?_; rintro e w' ⟨rfl, H'⟩; replace H := H.merge (by first | exact Strikes.nil _ | (repeat (first | exact Strikes.nil _ | (apply Strikes.cons; focus (repeat (first | exact Split.here _ _ | apply Split.there)))))) H' rfl; clear H'; (try clear hc); (try simp only [nrm, splice, Value.cells, Nat.reduceAdd, Act.eval, Act.put] at H); have hc := H.cells; simp only [CellsOf, KnCells, arr_lit, knAt_cons, knAt_nil, Nat.zero_add, Nat.add_zero, Nat.reduceAdd] at hc)
    | (refine loud_ rfl ?_; refine wpList_plain rfl (fun K hK => ?_); first
      | (refine op_box _ _ rfl H (fun b w' H1 => hK _ _ ?_); clear hK K; replace H := H1; clear H1; (try clear hc); (try simp only [nrm, splice, Value.cells, Nat.reduceAdd, Act.eval, Act.put] at H); have hc := H.cells; simp only [CellsOf, KnCells, arr_lit, knAt_cons, knAt_nil, Nat.zero_add, Nat.add_zero, Nat.reduceAdd] at hc)
      | (refine op_alloc _ rfl (zero_of _ _ rfl) H (fun b w' H1 => hK _ _ ?_); clear hK K; replace H := H1; clear H1; (try clear hc); (try simp only [nrm, splice, Value.cells, Nat.reduceAdd, Act.eval, Act.put] at H); have hc := H.cells; simp only [CellsOf, KnCells, arr_lit, knAt_cons, knAt_nil, Nat.zero_add, Nat.add_zero, Nat.reduceAdd] at hc)
      | (refine op_store _ _ _ rfl rfl rfl H (by repeat (first | exact Split.here _ _ | apply Split.there)) (by kernel_rfl) (by kernel_rfl) (by kernel_rfl) (fun w' H1 => hK _ _ ?_); clear hK K; replace H := H1; clear H1; (try clear hc); (try simp only [nrm, splice, Value.cells, Nat.reduceAdd, Act.eval, Act.put] at H); have hc := H.cells; simp only [CellsOf, KnCells, arr_lit, knAt_cons, knAt_nil, Nat.zero_add, Nat.add_zero, Nat.reduceAdd] at hc)
      | (refine op_buildSlice_all _ _ _ rfl (by first | exact elem22 | exact elem25 | exact elem26 | exact elem29) (by kernel_rfl) (by kernel_rfl) (by kernel_rfl) H (fun b w' H1 => hK _ _ ?_); clear hK K; replace H := H1; clear H1; (try clear hc); (try simp only [nrm, splice, Value.cells, Nat.reduceAdd, Act.eval, Act.put] at H); have hc := H.cells; simp only [CellsOf, KnCells, arr_lit, knAt_cons, knAt_nil, Nat.zero_add, Nat.add_zero, Nat.reduceAdd] at hc)))
    exact bodyPost_ret (v := .agg #[.bool true, .int .i64 0, .slice none 0 0]) (by simp [results, Try.results14, go_sem, hc, Act.put]; try rfl) rfl ⟨none, 0, 0, rfl, rfl, (H.nilRow _ _).sel (by repeat (first | exact Sel.nil _ | (apply Sel.cons; focus (repeat (first | exact Split.here _ _ | apply Split.there)))))⟩
  · go_enter Try.func14, Try.ntmps14
    go_wp2_with (first
    | (refine loud_ rfl ?_; refine wpList_plain rfl (fun K hK => ?_); first
      | (refine op_box _ _ rfl H (fun b w' H1 => hK _ _ ?_); clear hK K; replace H := H1; clear H1; (try clear hc); (try simp only [nrm, splice, Value.cells, Nat.reduceAdd, Act.eval, Act.put] at H); have hc := H.cells; simp only [CellsOf, KnCells, arr_lit, knAt_cons, knAt_nil, Nat.zero_add, Nat.add_zero, Nat.reduceAdd] at hc)
      | (refine op_alloc _ rfl (zero_of _ _ rfl) H (fun b w' H1 => hK _ _ ?_); clear hK K; replace H := H1; clear H1; (try clear hc); (try simp only [nrm, splice, Value.cells, Nat.reduceAdd, Act.eval, Act.put] at H); have hc := H.cells; simp only [CellsOf, KnCells, arr_lit, knAt_cons, knAt_nil, Nat.zero_add, Nat.add_zero, Nat.reduceAdd] at hc)
      | (refine op_store _ _ _ rfl rfl rfl H (by repeat (first | exact Split.here _ _ | apply Split.there)) (by kernel_rfl) (by kernel_rfl) (by kernel_rfl) (fun w' H1 => hK _ _ ?_); clear hK K; replace H := H1; clear H1; (try clear hc); (try simp only [nrm, splice, Value.cells, Nat.reduceAdd, Act.eval, Act.put] at H); have hc := H.cells; simp only [CellsOf, KnCells, arr_lit, knAt_cons, knAt_nil, Nat.zero_add, Nat.add_zero, Nat.reduceAdd] at hc)
      | (refine op_buildSlice_all _ _ _ rfl (by first | exact elem22 | exact elem25 | exact elem26 | exact elem29) (by kernel_rfl) (by kernel_rfl) (by kernel_rfl) H (fun b w' H1 => hK _ _ ?_); clear hK K; replace H := H1; clear H1; (try clear hc); (try simp only [nrm, splice, Value.cells, Nat.reduceAdd, Act.eval, Act.put] at H); have hc := H.cells; simp only [CellsOf, KnCells, arr_lit, knAt_cons, knAt_nil, Nat.zero_add, Nat.add_zero, Nat.reduceAdd] at hc)))
    exact bodyPost_ret (v := .agg #[.bool false, .int .i64 0, .slice none 0 0]) (by simp [results, Try.results14, go_sem, hc, Act.put]; try rfl) rfl (told_plain (by simp [FR.ans, *]) (by simp [FR.next, *]) (H.sel (by repeat (first | exact Sel.nil _ | (apply Sel.cons; focus (repeat (first | exact Split.here _ _ | apply Split.there)))))))
end Go.Proofs.Ytlikpgidjdjgnaa
