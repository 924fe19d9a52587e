import Derived.Test.YtlikpgidjdjgnaaRingG
import Derived.Test.YtlikpgidjdjgnaaRingE
-- MORE
namespace Go.Proofs.Ytlikpgidjdjgnaa
set_option linter.unusedVariables false
set_option linter.unusedSimpArgs false
set_option linter.unnecessarySimpa false
open Go.RowKit Go.V

/-- The places behind some writes. -/
def moreAll (n : Nat) (q : List Int) : List Int → Nat
  | [] => n
  | v :: l => moreAll (more n q) (q ++ [v]) l

theorem more_le (n : Nat) (q : List Int) : more n q ≤ n + 2 * q.length + 16 ∧ n ≤ more n q := by
  unfold more
  split <;> (try split) <;> omega
theorem moreAll_snoc (n : Nat) (q l : List Int) (v : Int) : moreAll n q (l ++ [v]) = more (moreAll n q l) (q ++ l) := by
  induction l generalizing n q with
  | nil => simp [moreAll]
  | cons x l ih =>
    rw [List.cons_append]
    show moreAll (more n q) (q ++ [x]) (l ++ [v]) = more (moreAll (more n q) (q ++ [x]) l) (q ++ x :: l)
    rw [ih]
    simp
theorem moreAll_le (n : Nat) (q : List Int) : ∀ (l : List Int), moreAll n q l ≤ max n (2 * (q.length + l.length) + 16) := by
  intro l
  induction l generalizing n q with
  | nil => simp [moreAll]; omega
  | cons x l ih =>
    have h1 := ih (more n q) (q ++ [x])
    have h2 : more n q ≤ max n (2 * q.length + 16) := by
      unfold more
      split <;> (try split) <;> omega
    show moreAll (more n q) (q ++ [x]) l ≤ _
    simp only [List.length_append, List.length_cons, List.length_nil] at h1 ⊢
    omega
theorem lies_cell {w : World} {b o : Nat} {v : List Int} (h : Lies w (some ⟨b, o, none⟩) (ints v)) (j : Nat) (hj : j < v.length) : w.cell? ⟨b, o + j, none⟩ = some (.int .i64 v[j]) := by
  have h1 := h.2 _ rfl j (.int .i64 v[j]) (by simp [ints, hj])
  rw [← h1]
  congr 1
  unfold Addr.add
  split
  · simp_all
  · rfl
theorem gwrite_at (o : Option Int) (br kb n beg : Nat) (data q : List Int) (v : Int) (S : List Nat) (w : World) (rd : Nat) (hl : q.length = rd) (h : GInv n beg data q) (hn : n ≤ 1000000) (H : St S w w (gents o br kb n beg rd data)) :
    Calls Try.prog 46 #[.pointer (some ⟨br, 0, none⟩), .int .i64 v] w fun e w' => ∃ kb' beg' data', Hid (GInv (more n q) beg' data' (q ++ [v])) ∧ e = .returned (.tuple #[]) ∧ St S w w' (gents o br kb' (more n q) beg' (rd + 1) data') := by
  subst hl
  exact gwrite_calls o br kb n beg data q v S w h hn H
/-- One cell of what came in. -/
theorem _root_.Go.V.St.cellAt {S : List Nat} {w0 w : World} {L A B : List Ent} {b o j : Nat} {v : List Int} {u : Value} (H : St S w0 w L) (hs : Split L (false, soft (some ⟨b, o, none⟩) (ints v)) A B) (hj : j < v.length) (hx : ∀ w : World, Lies w (some ⟨b, o, none⟩) (ints v) → w.cell? ⟨b, o + j, none⟩ = some u) :
    St S w0 w ((false, .arr (some ⟨b, o + j, none⟩) [u]) :: L) := by
  have hl := H.lies hs
  have h1 := hx w hl
  have hb : b < w.heap.size := by
    unfold World.cell? at h1
    split at h1
    · rename_i hb
      exact lt_of_get hb
    · cases h1
  refine H.sub hs _ ⟨rfl, hb, fun i hi => ?_⟩ ?_
  · have : i = 0 := by simp at hi; omega
    subst this
    simpa using h1
  · intro c hc
    simp only [Kn.fp, Option.toList_some, List.map_cons, List.map_nil, List.mem_singleton] at hc ⊢
    subst hc
    cases v with
    | nil => simp at hj
    | cons x v => simp [softFp, ints]
theorem lies_some {w : World} {src : Option Addr} {v : List Int} (h : Lies w src (ints v)) (hv : 0 < v.length) : ∃ b o, src = some ⟨b, o, none⟩ := by
  cases src with
  | none =>
    have h0 : ints v = [] := h.1 rfl
    have := ints_len v
    rw [h0] at this
    simp at this
    omega
  | some a =>
    obtain ⟨b, o, sp⟩ := a
    have h1 := h.2 _ rfl 0 (.int .i64 v[0]) (by simp [ints, hv])
    have h2 : w.cell? ⟨b, o, sp⟩ = _ := h1
    unfold World.cell? at h2
    split at h2
    · split at h2
      · cases h2
      · rename_i hs
        have h3 : sp = none := by simpa using hs
        subst h3
        exact ⟨b, o, rfl⟩
    · cases h2

set_option maxHeartbeats 2000000 in
theorem rung_write (br kb n beg : Nat) (data q : List Int) (src : Option Addr) (k cap : Nat) (v : List Int) (S : List Nat) (w : World) (h : GInv n beg data q) (hn : n ≤ 100000) (hv : Hid (v.length = k)) (hk : k ≤ 10000) (hq : q.length ≤ 10000)
    (H : St S w w ((false, soft src (ints v)) :: gents none br kb n beg q.length data)) :
    Calls Try.prog 17 #[.iface 49 (.pointer (some ⟨br, 0, none⟩)), .agg #[.int .i64 1, .slice src k cap]] w fun e w' => ∃ kb' beg' data', GInv (moreAll n q v) beg' data' (q ++ v) ∧ e = .returned (.agg #[.bool true, .int .i64 0, .slice none 0 0]) ∧ St S w w' (gents none br kb' (moreAll n q v) beg' (q ++ v).length data') := by
  have hmeWriteOne : ∀ (w : World), (method 193 49 (.pointer (some ⟨br, 0, none⟩)) "WriteOne").run Try.prog w = .ok (46, .pointer (some ⟨br, 0, none⟩)) w := fun w => by kernel_rfl
  have hna : ∀ (w : World), (nilAhead 193 49 (.pointer (some ⟨br, 0, none⟩)) "WriteOne").run Try.prog w = .ok (some false) w := fun w => by kernel_rfl
  have hq' := Lib.hid hq
  have h' := Lib.hid h
  clear h hq
  go_enter Try.func17, Try.ntmps17
  go_wp2_with (first
    | (refine loud_ rfl ?_; refine wpList_plain rfl (fun K hK => ?_); first
      | (refine op_box _ _ rfl H (fun b w' H1 => hK _ _ ?_); clear hK K; replace H := H1; clear H1; (try clear hc); (try simp only [nrm, splice, Value.cells, Nat.reduceAdd, Act.eval, Act.put] at H); have hc := H.cells; simp only [CellsOf, KnCells, arr_lit, knAt_cons, knAt_nil, Nat.zero_add, Nat.add_zero, Nat.reduceAdd] at hc)
      | (refine op_alloc _ rfl (zero_of _ _ rfl) H (fun b w' H1 => hK _ _ ?_); clear hK K; replace H := H1; clear H1; (try clear hc); (try simp only [nrm, splice, Value.cells, Nat.reduceAdd, Act.eval, Act.put] at H); have hc := H.cells; simp only [CellsOf, KnCells, arr_lit, knAt_cons, knAt_nil, Nat.zero_add, Nat.add_zero, Nat.reduceAdd] at hc)
      | (refine op_store _ _ _ rfl rfl rfl H (by repeat (first | exact Split.here _ _ | apply Split.there)) (by kernel_rfl) (by kernel_rfl) (by kernel_rfl) (fun w' H1 => hK _ _ ?_); clear hK K; replace H := H1; clear H1; (try clear hc); (try simp only [nrm, splice, Value.cells, Nat.reduceAdd, Act.eval, Act.put] at H); have hc := H.cells; simp only [CellsOf, KnCells, arr_lit, knAt_cons, knAt_nil, Nat.zero_add, Nat.add_zero, Nat.reduceAdd] at hc)
      | (refine op_buildSlice_all _ _ _ rfl (by first | exact elem22 | exact elem25 | exact elem26 | exact elem29) (by kernel_rfl) (by kernel_rfl) (by kernel_rfl) H (fun b w' H1 => hK _ _ ?_); clear hK K; replace H := H1; clear H1; (try clear hc); (try simp only [nrm, splice, Value.cells, Nat.reduceAdd, Act.eval, Act.put] at H); have hc := H.cells; simp only [CellsOf, KnCells, arr_lit, knAt_cons, knAt_nil, Nat.zero_add, Nat.add_zero, Nat.reduceAdd] at hc)))
  rename_i bo w1 bx w2 w3 K1 a1 K2 a2
  go_loopw [6] (fun i wr => ∃ (j kb' beg' : Nat) (data' : List Int), j ≤ k ∧ i = .int .i64 j ∧ Hid (GInv (moreAll n q (v.take j)) beg' data' (q ++ v.take j)) ∧
      St S w wr ([(true, .is b (.cells #[.bool false, .int .i64 0, .slice none 0 0] 34 (0, 0))), (true, .is bx (.cells #[.bool false, .int .i64 0, .slice none 0 0] 34 (0, 0))),
        (true, .is bo (.cells #[.int .i64 1, .slice src k cap] 28 (0, 0))), (false, soft src (ints v))] ++ gents none br kb' (moreAll n q (v.take j)) beg' (q.length + j) data')) (fun i _ => k - (intOf i).toNat)
  case atStart => exact ⟨0, kb, beg, data, Nat.zero_le _, rfl, (by simp only [List.take_zero, List.append_nil]; exact h'.out), H.sel (by repeat (first | exact Sel.nil _ | (apply Sel.cons; focus (repeat (first | exact Split.here _ _ | apply Split.there)))))⟩
  case round =>
    clear H hc
    obtain ⟨j, kb', beg', data', hj, rfl, hg, H⟩ := hrel
    have hnl : moreAll n q (v.take j) ≤ 1000000 := by
      have h1 := moreAll_le n q (v.take j)
      have h2 := hq'.out
      have h3 : (v.take j).length ≤ k := by rw [List.length_take, hv.out]; omega
      omega
    by_cases hlt : j < k
    · have hjv : j < v.length := by rw [hv.out]; exact hlt
      obtain ⟨sb, so, rfl⟩ := lies_some (H.lies (Split.there _ (Split.there _ (Split.there _ (Split.here _ _))))) (by omega)
      have hs1 : Hid (v.take (j + 1) = v.take j ++ [v[j]]) := (List.take_append_getElem hjv).symm
      have hcell := lies_cell (H.lies (Split.there _ (Split.there _ (Split.there _ (Split.here _ _))))) j hjv
      have hx : ∀ w : World, Lies w (some ⟨sb, so, none⟩) (ints v) → w.cell? ⟨sb, so + j, none⟩ = some (.int .i64 v[j]) := fun w h => lies_cell h j hjv
      generalize v[j] = x at *
      have hlq : Hid ((q ++ v.take j).length = q.length + j) := (by simp; omega : (q ++ v.take j).length = q.length + j)
      generalize hmm : moreAll n q (v.take j) = nn at *
      have hmm' := Lib.hid hmm
      clear hmm
      simp only [List.cons_append, List.nil_append] at H
      replace H := H.cellAt (Split.there _ (Split.there _ (Split.there _ (Split.here _ _)))) hjv hx
      have hc := H.cells; simp only [CellsOf, KnCells, arr_lit, knAt_cons, knAt_nil, Nat.zero_add, Nat.add_zero, Nat.reduceAdd] at hc
      repeat' (first | (go_big_may; (first
    | (refine loud_ rfl ?_; refine wpList_plain rfl (fun K hK => ?_); first
      | (refine op_box _ _ rfl H (fun b w' H1 => hK _ _ ?_); clear hK K; replace H := H1; clear H1; (try clear hc); (try simp only [nrm, splice, Value.cells, Nat.reduceAdd, Act.eval, Act.put] at H); have hc := H.cells; simp only [CellsOf, KnCells, arr_lit, knAt_cons, knAt_nil, Nat.zero_add, Nat.add_zero, Nat.reduceAdd] at hc)
      | (refine op_alloc _ rfl (zero_of _ _ rfl) H (fun b w' H1 => hK _ _ ?_); clear hK K; replace H := H1; clear H1; (try clear hc); (try simp only [nrm, splice, Value.cells, Nat.reduceAdd, Act.eval, Act.put] at H); have hc := H.cells; simp only [CellsOf, KnCells, arr_lit, knAt_cons, knAt_nil, Nat.zero_add, Nat.add_zero, Nat.reduceAdd] at hc)
      | (refine op_store _ _ _ rfl rfl rfl H (by repeat (first | exact Split.here _ _ | apply Split.there)) (by kernel_rfl) (by kernel_rfl) (by kernel_rfl) (fun w' H1 => hK _ _ ?_); clear hK K; replace H := H1; clear H1; (try clear hc); (try simp only [nrm, splice, Value.cells, Nat.reduceAdd, Act.eval, Act.put] at H); have hc := H.cells; simp only [CellsOf, KnCells, arr_lit, knAt_cons, knAt_nil, Nat.zero_add, Nat.add_zero, Nat.reduceAdd] at hc)
      | (refine op_buildSlice_all _ _ _ rfl (by first | exact elem22 | exact elem25 | exact elem26 | exact elem29) (by kernel_rfl) (by kernel_rfl) (by kernel_rfl) H (fun b w' H1 => hK _ _ ?_); clear hK K; replace H := H1; clear H1; (try clear hc); (try simp only [nrm, splice, Value.cells, Nat.reduceAdd, Act.eval, Act.put] at H); have hc := H.cells; simp only [CellsOf, KnCells, arr_lit, knAt_cons, knAt_nil, Nat.zero_add, Nat.add_zero, Nat.reduceAdd] at hc)))) | go_values | go_skip | go_guarded | go_step | go_upon | go_back | dsimp only)
      (try simp only [Act.put, slt])
      refine wp_region_plan (.p [0, 1] (.q [2] (.p [3, 4] (.q [5] (.e 6 (.p [7, 8] (.e 9 .done))))))) [9] (by kernel_rfl) (by kernel_rfl) (fun _ _ d _ _ h => by cases d <;> exact h) H ?_
      clear H
      (try clear hc)
      intro X nX fX wd hcf hS H
      simp only [CellsOf, KnCells, arr_lit, knAt_cons, knAt_nil, Nat.zero_add, Nat.add_zero, Nat.reduceAdd] at hcf
      have hc := H.cells
      simp only [CellsOf, KnCells, arr_lit, knAt_cons, knAt_nil, Nat.zero_add, Nat.add_zero, Nat.reduceAdd] at hc
      iterate 2 (refine plan_p (o := ⟨_, _, _, _, _, _⟩) rfl (fun N hN => ?_); go_big_quiet_step (fail); refine wpQuiet_nil (hN _ ?_); clear hN N)
      refine plan_p0 ?_
      iterate 1 (refine plan_q (o := ⟨_, _, _, _, _, _⟩) rfl (fun N hN => ?_); go_big_quiet_step (fail); refine wpQuiet_nil (hN _ ?_); clear hN N)
      refine plan_q0 ?_
      iterate 2 (refine plan_p (o := ⟨_, _, _, _, _, _⟩) rfl (fun N hN => ?_); go_big_quiet_step (fail); refine wpQuiet_nil (hN _ ?_); clear hN N)
      refine plan_p0 ?_
      iterate 1 (refine plan_q (o := ⟨_, _, _, _, _, _⟩) rfl (fun N hN => ?_); go_big_quiet_step (fail); refine wpQuiet_nil (hN _ ?_); clear hN N)
      refine plan_q0 ?_
      refine plan_e (o := ⟨_, _, _, _, _, _⟩) rfl rfl (fun K hK => ?_)
      first
        | (go_step; refine Calls.mono (gwrite_at none _ _ _ _ _ (q ++ v.take j) x _ _ _ hlq.out hg.out (by omega) (H.pick (by repeat (first | exact Picks.nil _ | (apply Picks.wr; focus (repeat (first | exact Split.here _ _ | apply Split.there))) | (apply Picks.rd; focus (repeat (first | exact Split.here _ _ | apply Split.there))))))) ?_; rintro e w' ⟨kb2, beg2, data2, hg2, rfl, H'⟩; replace H := H.merge (by first | exact Strikes.nil _ | (repeat (first | exact Strikes.nil _ | (apply Strikes.cons; focus (repeat (first | exact Split.here _ _ | apply Split.there)))))) H' rfl; clear H'; (try clear hc); (try simp only [nrm, splice, Value.cells, Nat.reduceAdd, Act.eval, Act.put] at H); have hc := H.cells; simp only [CellsOf, KnCells, arr_lit, knAt_cons, knAt_nil, Nat.zero_add, Nat.add_zero, Nat.reduceAdd] at hc; refine hK _ _ (fun _ _ => hS _ (H.sublist (by repeat (first | exact List.Sublist.refl _ | apply List.Sublist.cons))).all) ?_; clear hK K; (try simp only [Act.put, slt]))
        | (go_step; refine hK _ _ (fun _ _ => hS _ (H.sublist (by repeat (first | exact List.Sublist.refl _ | apply List.Sublist.cons))).all) ?_; clear hK K; (try simp only [Act.put, slt]))
        | (refine op_box _ _ rfl H (fun b w' H1 => ?_); replace H := H1; clear H1; (try clear hc); (try simp only [nrm, splice, Value.cells, Nat.reduceAdd, Act.eval, Act.put] at H); have hc := H.cells; simp only [CellsOf, KnCells, arr_lit, knAt_cons, knAt_nil, Nat.zero_add, Nat.add_zero, Nat.reduceAdd] at hc; refine hK _ _ (fun _ _ => hS _ (H.sublist (by repeat (first | exact List.Sublist.refl _ | apply List.Sublist.cons))).all) ?_; clear hK K; (try simp only [Act.put, slt]))
        | (refine op_alloc _ rfl (zero_of _ _ rfl) H (fun b w' H1 => ?_); replace H := H1; clear H1; (try clear hc); (try simp only [nrm, splice, Value.cells, Nat.reduceAdd, Act.eval, Act.put] at H); have hc := H.cells; simp only [CellsOf, KnCells, arr_lit, knAt_cons, knAt_nil, Nat.zero_add, Nat.add_zero, Nat.reduceAdd] at hc; refine hK _ _ (fun _ _ => hS _ (H.sublist (by repeat (first | exact List.Sublist.refl _ | apply List.Sublist.cons))).all) ?_; clear hK K; (try simp only [Act.put, slt]))
        | (refine op_store _ _ _ rfl rfl rfl H (by repeat (first | exact Split.here _ _ | apply Split.there)) (by kernel_rfl) (by kernel_rfl) (by kernel_rfl) (fun w' H1 => ?_); replace H := H1; clear H1; (try clear hc); (try simp only [nrm, splice, Value.cells, Nat.reduceAdd, Act.eval, Act.put] at H); have hc := H.cells; simp only [CellsOf, KnCells, arr_lit, knAt_cons, knAt_nil, Nat.zero_add, Nat.add_zero, Nat.reduceAdd] at hc; refine hK _ _ (fun _ _ => hS _ (H.sublist (by repeat (first | exact List.Sublist.refl _ | apply List.Sublist.cons))).all) ?_; clear hK K; (try simp only [Act.put, slt]))
        | (refine op_buildSlice_all _ _ _ rfl (by first | exact elem22 | exact elem25 | exact elem26 | exact elem29) (by kernel_rfl) (by kernel_rfl) (by kernel_rfl) H (fun b w' H1 => ?_); replace H := H1; clear H1; (try clear hc); (try simp only [nrm, splice, Value.cells, Nat.reduceAdd, Act.eval, Act.put] at H); have hc := H.cells; simp only [CellsOf, KnCells, arr_lit, knAt_cons, knAt_nil, Nat.zero_add, Nat.add_zero, Nat.reduceAdd] at hc; refine hK _ _ (fun _ _ => hS _ (H.sublist (by repeat (first | exact List.Sublist.refl _ | apply List.Sublist.cons))).all) ?_; clear hK K; (try simp only [Act.put, slt]))
      iterate 2 (refine plan_p (o := ⟨_, _, _, _, _, _⟩) rfl (fun N hN => ?_); go_big_quiet_step (fail); refine wpQuiet_nil (hN _ ?_); clear hN N)
      refine plan_p0 ?_
      refine plan_e (o := ⟨_, _, _, _, _, _⟩) rfl rfl (fun K hK => ?_)
      first
        | (go_step; refine Calls.mono (gwrite_at none _ _ _ _ _ (q ++ v.take j) x _ _ _ hlq.out hg.out (by omega) (H.pick (by repeat (first | exact Picks.nil _ | (apply Picks.wr; focus (repeat (first | exact Split.here _ _ | apply Split.there))) | (apply Picks.rd; focus (repeat (first | exact Split.here _ _ | apply Split.there))))))) ?_; rintro e w' ⟨kb2, beg2, data2, hg2, rfl, H'⟩; replace H := H.merge (by first | exact Strikes.nil _ | (repeat (first | exact Strikes.nil _ | (apply Strikes.cons; focus (repeat (first | exact Split.here _ _ | apply Split.there)))))) H' rfl; clear H'; (try clear hc); (try simp only [nrm, splice, Value.cells, Nat.reduceAdd, Act.eval, Act.put] at H); have hc := H.cells; simp only [CellsOf, KnCells, arr_lit, knAt_cons, knAt_nil, Nat.zero_add, Nat.add_zero, Nat.reduceAdd] at hc; refine hK _ _ (fun h => (h (by decide)).elim) ?_; clear hK K; (try simp only [Act.put, slt]))
        | (go_step; refine hK _ _ (fun h => (h (by decide)).elim) ?_; clear hK K; (try simp only [Act.put, slt]))
        | (refine op_box _ _ rfl H (fun b w' H1 => ?_); replace H := H1; clear H1; (try clear hc); (try simp only [nrm, splice, Value.cells, Nat.reduceAdd, Act.eval, Act.put] at H); have hc := H.cells; simp only [CellsOf, KnCells, arr_lit, knAt_cons, knAt_nil, Nat.zero_add, Nat.add_zero, Nat.reduceAdd] at hc; refine hK _ _ (fun h => (h (by decide)).elim) ?_; clear hK K; (try simp only [Act.put, slt]))
        | (refine op_alloc _ rfl (zero_of _ _ rfl) H (fun b w' H1 => ?_); replace H := H1; clear H1; (try clear hc); (try simp only [nrm, splice, Value.cells, Nat.reduceAdd, Act.eval, Act.put] at H); have hc := H.cells; simp only [CellsOf, KnCells, arr_lit, knAt_cons, knAt_nil, Nat.zero_add, Nat.add_zero, Nat.reduceAdd] at hc; refine hK _ _ (fun h => (h (by decide)).elim) ?_; clear hK K; (try simp only [Act.put, slt]))
        | (refine op_store _ _ _ rfl rfl rfl H (by repeat (first | exact Split.here _ _ | apply Split.there)) (by kernel_rfl) (by kernel_rfl) (by kernel_rfl) (fun w' H1 => ?_); replace H := H1; clear H1; (try clear hc); (try simp only [nrm, splice, Value.cells, Nat.reduceAdd, Act.eval, Act.put] at H); have hc := H.cells; simp only [CellsOf, KnCells, arr_lit, knAt_cons, knAt_nil, Nat.zero_add, Nat.add_zero, Nat.reduceAdd] at hc; refine hK _ _ (fun h => (h (by decide)).elim) ?_; clear hK K; (try simp only [Act.put, slt]))
        | (refine op_buildSlice_all _ _ _ rfl (by first | exact elem22 | exact elem25 | exact elem26 | exact elem29) (by kernel_rfl) (by kernel_rfl) (by kernel_rfl) H (fun b w' H1 => ?_); replace H := H1; clear H1; (try clear hc); (try simp only [nrm, splice, Value.cells, Nat.reduceAdd, Act.eval, Act.put] at H); have hc := H.cells; simp only [CellsOf, KnCells, arr_lit, knAt_cons, knAt_nil, Nat.zero_add, Nat.add_zero, Nat.reduceAdd] at hc; refine hK _ _ (fun h => (h (by decide)).elim) ?_; clear hK K; (try simp only [Act.put, slt]))
      refine plan_done ?_
      repeat' (first | (go_big_may; (first
    | (refine loud_ rfl ?_; refine wpList_plain rfl (fun K hK => ?_); first
      | (refine op_box _ _ rfl H (fun b w' H1 => hK _ _ ?_); clear hK K; replace H := H1; clear H1; (try clear hc); (try simp only [nrm, splice, Value.cells, Nat.reduceAdd, Act.eval, Act.put] at H); have hc := H.cells; simp only [CellsOf, KnCells, arr_lit, knAt_cons, knAt_nil, Nat.zero_add, Nat.add_zero, Nat.reduceAdd] at hc)
      | (refine op_alloc _ rfl (zero_of _ _ rfl) H (fun b w' H1 => hK _ _ ?_); clear hK K; replace H := H1; clear H1; (try clear hc); (try simp only [nrm, splice, Value.cells, Nat.reduceAdd, Act.eval, Act.put] at H); have hc := H.cells; simp only [CellsOf, KnCells, arr_lit, knAt_cons, knAt_nil, Nat.zero_add, Nat.add_zero, Nat.reduceAdd] at hc)
      | (refine op_store _ _ _ rfl rfl rfl H (by repeat (first | exact Split.here _ _ | apply Split.there)) (by kernel_rfl) (by kernel_rfl) (by kernel_rfl) (fun w' H1 => hK _ _ ?_); clear hK K; replace H := H1; clear H1; (try clear hc); (try simp only [nrm, splice, Value.cells, Nat.reduceAdd, Act.eval, Act.put] at H); have hc := H.cells; simp only [CellsOf, KnCells, arr_lit, knAt_cons, knAt_nil, Nat.zero_add, Nat.add_zero, Nat.reduceAdd] at hc)
      | (refine op_buildSlice_all _ _ _ rfl (by first | exact elem22 | exact elem25 | exact elem26 | exact elem29) (by kernel_rfl) (by kernel_rfl) (by kernel_rfl) H (fun b w' H1 => hK _ _ ?_); clear hK K; replace H := H1; clear H1; (try clear hc); (try simp only [nrm, splice, Value.cells, Nat.reduceAdd, Act.eval, Act.put] at H); have hc := H.cells; simp only [CellsOf, KnCells, arr_lit, knAt_cons, knAt_nil, Nat.zero_add, Nat.add_zero, Nat.reduceAdd] at hc)))) | go_values | go_skip | go_guarded | go_step | go_upon | go_back | dsimp only)
      have e : moreAll n q (v.take (j + 1)) = more nn (q ++ v.take j) := by rw [hs1.out, moreAll_snoc, hmm'.out]
      refine ⟨⟨j + 1, kb2, beg2, data2, by omega, by go_num, ?_, ?_⟩, by simp [intOf]; omega⟩
      · show GInv _ _ _ _
        rw [e, hs1.out, ← List.append_assoc]
        exact hg2.out
      · rw [e, show q.length + (j + 1) = q.length + j + 1 from rfl]
        exact H.sel (by repeat (first | exact Sel.nil _ | (apply Sel.cons; focus (repeat (first | exact Split.here _ _ | apply Split.there)))))
    · obtain rfl : j = k := by omega
      rw [List.take_of_length_le (by rw [hv.out]; omega)] at hg H
      simp only [List.cons_append, List.nil_append] at H
      have hc := H.cells; simp only [CellsOf, KnCells, arr_lit, knAt_cons, knAt_nil, Nat.zero_add, Nat.add_zero, Nat.reduceAdd] at hc
      repeat' (first | (go_big_may; (first
    | (refine loud_ rfl ?_; refine wpList_plain rfl (fun K hK => ?_); first
      | (refine op_box _ _ rfl H (fun b w' H1 => hK _ _ ?_); clear hK K; replace H := H1; clear H1; (try clear hc); (try simp only [nrm, splice, Value.cells, Nat.reduceAdd, Act.eval, Act.put] at H); have hc := H.cells; simp only [CellsOf, KnCells, arr_lit, knAt_cons, knAt_nil, Nat.zero_add, Nat.add_zero, Nat.reduceAdd] at hc)
      | (refine op_alloc _ rfl (zero_of _ _ rfl) H (fun b w' H1 => hK _ _ ?_); clear hK K; replace H := H1; clear H1; (try clear hc); (try simp only [nrm, splice, Value.cells, Nat.reduceAdd, Act.eval, Act.put] at H); have hc := H.cells; simp only [CellsOf, KnCells, arr_lit, knAt_cons, knAt_nil, Nat.zero_add, Nat.add_zero, Nat.reduceAdd] at hc)
      | (refine op_store _ _ _ rfl rfl rfl H (by repeat (first | exact Split.here _ _ | apply Split.there)) (by kernel_rfl) (by kernel_rfl) (by kernel_rfl) (fun w' H1 => hK _ _ ?_); clear hK K; replace H := H1; clear H1; (try clear hc); (try simp only [nrm, splice, Value.cells, Nat.reduceAdd, Act.eval, Act.put] at H); have hc := H.cells; simp only [CellsOf, KnCells, arr_lit, knAt_cons, knAt_nil, Nat.zero_add, Nat.add_zero, Nat.reduceAdd] at hc)
      | (refine op_buildSlice_all _ _ _ rfl (by first | exact elem22 | exact elem25 | exact elem26 | exact elem29) (by kernel_rfl) (by kernel_rfl) (by kernel_rfl) H (fun b w' H1 => hK _ _ ?_); clear hK K; replace H := H1; clear H1; (try clear hc); (try simp only [nrm, splice, Value.cells, Nat.reduceAdd, Act.eval, Act.put] at H); have hc := H.cells; simp only [CellsOf, KnCells, arr_lit, knAt_cons, knAt_nil, Nat.zero_add, Nat.add_zero, Nat.reduceAdd] at hc)))) | go_values | go_skip | go_guarded | go_step | go_upon | go_back | dsimp only)
      have hl2 : (q ++ v).length = q.length + j := by rw [List.length_append, hv.out]
      exact bodyPost_ret (v := .agg #[.bool true, .int .i64 0, .slice none 0 0]) (by simp [results, Try.results17, go_sem, hc, Act.put]; try rfl) rfl ⟨kb', beg', data', hg.out, rfl, by rw [hl2]; exact H.sel (by repeat (first | exact Sel.nil _ | (apply Sel.cons; focus (repeat (first | exact Split.here _ _ | apply Split.there)))))⟩
end Go.Proofs.Ytlikpgidjdjgnaa
