import Derived.Test.YtlikpgidjdjgnaaRingJ
-- MORE
namespace Go.Proofs.Ytlikpgidjdjgnaa
set_option linter.unusedVariables false
set_option linter.unusedSimpArgs false
set_option linter.unnecessarySimpa false
open Go.RowKit Go.V

theorem rung_any (o : Option Nat) (g : GR) (br kb beg : Nat) (data : List Int) (kind : Int) (src : Option Addr) (n cap : Nat) (v : List Int) (S : List Nat) (w : World) (h : GInv g.n beg data g.q) (hm : ∀ m, o = some m → m ≤ 65536) (hv : Hid (v.length = n)) (hk : kind = 1 → n ≤ 10000) (hq : g.q.length ≤ 10000) (hn : g.n ≤ 100000)
    (H : St S w w ((false, soft src (ints v)) :: gents (oInt o) br kb g.n beg g.q.length data)) :
    Calls Try.prog 17 #[rv o br, .agg #[.int .i64 kind, .slice src n cap]] w (GTold o g br kind v S w) := by
  obtain ⟨gn, q⟩ := g
  have H2 : St S w w (gents (oInt o) br kb gn beg q.length data) := H.sublist (.cons _ (.refl _))
  cases o with
  | none =>
    by_cases k1 : kind = 1
    · subst k1
      refine (rung_write br kb gn beg data q src n cap v S w h hn hv (hk rfl) hq H).mono ?_
      rintro e w' ⟨kb', beg', data', hg, rfl, H'⟩
      exact ⟨none, 0, 0, kb', beg', data', rfl, hg, rfl, H'.nilRow _ _⟩
    by_cases k2 : kind = 2
    · subst k2
      cases q with
      | nil =>
        refine (rung_read0 br kb gn beg data src n cap S w h H2).mono ?_
        rintro e w' ⟨rfl, H'⟩
        exact ⟨none, 0, 0, kb, beg, data, rfl, h, rfl, H'.nilRow _ _⟩
      | cons x q =>
        refine (rung_read br kb gn beg data q x src n cap S w h (by show gn ≤ _; simp only at hn; omega) H2).mono ?_
        rintro e w' ⟨b, beg', data', hg, rfl, H'⟩
        exact ⟨some b, 1, 1, kb, beg', data', rfl, hg, rfl, H'⟩
    by_cases k3 : kind = 3
    · subst k3
      exact rung_len br kb gn beg data q src n cap v S w h H2
    by_cases k4 : kind = 4
    · subst k4
      exact rung_cap br kb gn beg data q src n cap v S w h H2
    · exact rung_rest br kb gn beg data q kind k1 k2 k3 k4 src n cap v S w h H2
  | some m =>
    by_cases k1 : kind = 1
    · subst k1
      refine (rung2_write m br kb gn beg data q src n cap v S w h hn hv (hk rfl) hq H).mono ?_
      rintro e w' ⟨kb', beg', data', hg, rfl, H'⟩
      exact ⟨none, 0, 0, kb', beg', data', rfl, hg, rfl, H'.nilRow _ _⟩
    by_cases k2 : kind = 2
    · subst k2
      cases q with
      | nil => exact rung2_read0 m br kb gn beg data src n cap v S w h (by simp only at hn; omega) (hm m rfl) H2
      | cons x q => exact rung2_read m br kb gn beg data q x src n cap v S w h (by simp only at hn; omega) (hm m rfl) H2
    by_cases k3 : kind = 3
    · subst k3
      exact rung2_len m br kb gn beg data q src n cap v S w h H2
    by_cases k4 : kind = 4
    · subst k4
      exact rung2_cap m br kb gn beg data q src n cap v S w h H2
    · exact rung2_rest m br kb gn beg data q kind k1 k2 k3 k4 src n cap v S w h H2

def GR.runs (o : Option Nat) (g : GR) : List ROp → GR
  | [] => g
  | x :: l => (g.next o x.kind x.vals).runs o l
def GR.tells (o : Option Nat) (g : GR) : List ROp → List (Bool × Int × List Int)
  | [] => []
  | x :: l => g.ans x.kind :: (g.next o x.kind x.vals).tells o l
theorem GR.runs_snoc (o : Option Nat) (g : GR) (l : List ROp) (x : ROp) : g.runs o (l ++ [x]) = (g.runs o l).next o x.kind x.vals := by
  induction l generalizing g with
  | nil => rfl
  | cons y l ih => exact ih _
theorem GR.tells_snoc (o : Option Nat) (g : GR) (l : List ROp) (x : ROp) : g.tells o (l ++ [x]) = g.tells o l ++ [(g.runs o l).ans x.kind] := by
  induction l generalizing g with
  | nil => rfl
  | cons y l ih =>
    show g.ans y.kind :: (g.next o y.kind y.vals).tells o (l ++ [x]) = _
    rw [ih]
    rfl
/-- How much is written. -/
def wl (l : List ROp) : Nat := (l.map fun x => if x.kind = 1 then x.vals.length else 0).sum
theorem wl_cons (x : ROp) (l : List ROp) : wl (x :: l) = (if x.kind = 1 then x.vals.length else 0) + wl l := by simp [wl]
theorem wl_take (l : List ROp) (k : Nat) : wl (l.take k) ≤ wl l := by
  induction l generalizing k with
  | nil => simp
  | cons x l ih =>
    cases k with
    | zero => simp [wl]
    | succ k =>
      rw [List.take_succ_cons, wl_cons, wl_cons]
      have := ih k
      omega
theorem wl_mem (l : List ROp) (x : ROp) (hx : x ∈ l) (h1 : x.kind = 1) : x.vals.length ≤ wl l := by
  induction l with
  | nil => cases hx
  | cons y l ih =>
    rw [wl_cons]
    rcases List.mem_cons.1 hx with rfl | hx
    · rw [if_pos h1]
      omega
    · have := ih hx
      omega
theorem less_le (m n : Nat) (q : List Int) : less m n q ≤ n := by
  unfold less
  split <;> omega
theorem lessO_le (o : Option Nat) (n : Nat) (q : List Int) : lessO o n q ≤ n := by
  cases o with
  | none => exact Nat.le_refl _
  | some m => exact less_le m n q
theorem GR.next_le (o : Option Nat) (g : GR) (x : ROp) : (g.next o x.kind x.vals).q.length ≤ g.q.length + (if x.kind = 1 then x.vals.length else 0) ∧ (g.next o x.kind x.vals).n ≤ max g.n (2 * (g.q.length + (if x.kind = 1 then x.vals.length else 0)) + 16) := by
  unfold GR.next
  split
  · refine ⟨by simp, ?_⟩
    exact moreAll_le g.n g.q x.vals
  · split
    · refine ⟨by simp, ?_⟩
      have := lessO_le o g.n g.q.tail
      simp only
      omega
    · exact ⟨by omega, by omega⟩
theorem GR.runs_le (o : Option Nat) (l : List ROp) : ∀ g : GR, (g.runs o l).q.length ≤ g.q.length + wl l ∧ (g.runs o l).n ≤ max g.n (2 * (g.q.length + wl l) + 16) := by
  induction l with
  | nil => intro g; exact ⟨by simp [GR.runs], by simp [GR.runs]; omega⟩
  | cons x l ih =>
    intro g
    obtain ⟨h1, h2⟩ := GR.next_le o g x
    obtain ⟨h3, h4⟩ := ih (g.next o x.kind x.vals)
    rw [wl_cons]
    show ((g.next o x.kind x.vals).runs o l).q.length ≤ _ ∧ ((g.next o x.kind x.vals).runs o l).n ≤ _
    omega

theorem newRing_calls (n m : Nat) (w : World) (hn : n ≤ 65536) :
    Calls Try.prog 16 #[.agg #[.int .i64 n, .int .i64 m]] w fun e w' => ∃ br kb, e = .returned (.pointer (some ⟨br, 0, none⟩)) ∧ St [] w w' (gents (some (m : Int)) br kb n 0 0 (List.replicate n 0)) := by
  have H := St.init [] w
  go_enter Try.func16, Try.ntmps16
  go_wp2_with (first
    | (refine loud_ rfl ?_; refine wpList_plain rfl (fun K hK => ?_); first
      | (refine op_box _ _ rfl H (fun b w' H1 => hK _ _ ?_); clear hK K; replace H := H1; clear H1; (try clear hc); (try simp only [nrm, splice, Value.cells, Nat.reduceAdd, Act.eval, Act.put] at H); have hc := H.cells; simp only [CellsOf, KnCells, arr_lit, knAt_cons, knAt_nil, Nat.zero_add, Nat.add_zero, Nat.reduceAdd] at hc)
      | (refine op_alloc _ rfl (zero_of _ _ rfl) H (fun b w' H1 => hK _ _ ?_); clear hK K; replace H := H1; clear H1; (try clear hc); (try simp only [nrm, splice, Value.cells, Nat.reduceAdd, Act.eval, Act.put] at H); have hc := H.cells; simp only [CellsOf, KnCells, arr_lit, knAt_cons, knAt_nil, Nat.zero_add, Nat.add_zero, Nat.reduceAdd] at hc)
      | (refine op_store _ _ _ rfl rfl rfl H (by repeat (first | exact Split.here _ _ | apply Split.there)) (by kernel_rfl) (by kernel_rfl) (by kernel_rfl) (fun w' H1 => hK _ _ ?_); clear hK K; replace H := H1; clear H1; (try clear hc); (try simp only [nrm, splice, Value.cells, Nat.reduceAdd, Act.eval, Act.put] at H); have hc := H.cells; simp only [CellsOf, KnCells, arr_lit, knAt_cons, knAt_nil, Nat.zero_add, Nat.add_zero, Nat.reduceAdd] at hc)
      | (refine op_buildSlice_all _ _ _ rfl (by first | exact elem22 | exact elem25 | exact elem26 | exact elem29) (by kernel_rfl) (by kernel_rfl) (by kernel_rfl) H (fun b w' H1 => hK _ _ ?_); clear hK K; replace H := H1; clear H1; (try clear hc); (try simp only [nrm, splice, Value.cells, Nat.reduceAdd, Act.eval, Act.put] at H); have hc := H.cells; simp only [CellsOf, KnCells, arr_lit, knAt_cons, knAt_nil, Nat.zero_add, Nat.add_zero, Nat.reduceAdd] at hc)))
  (try simp only [Act.put, slt])
  refine wp_region_plan (.p [0] (.q [1] (.p [2, 6] (.q [7] (.e 3 (.p [4] (.e 5 (.p [8] (.e 9 (.p [10] .done)))))))))) [9] (by kernel_rfl) (by kernel_rfl) (fun _ _ d _ _ h => by cases d <;> exact h) H ?_
  clear H
  (try clear hc)
  intro X nX fX wd hcf hS H
  simp only [CellsOf, KnCells, arr_lit, knAt_cons, knAt_nil, Nat.zero_add, Nat.add_zero, Nat.reduceAdd] at hcf
  have hc := H.cells
  simp only [CellsOf, KnCells, arr_lit, knAt_cons, knAt_nil, Nat.zero_add, Nat.add_zero, Nat.reduceAdd] at hc
  iterate 1 (refine plan_p (o := ⟨_, _, _, _, _, _⟩) rfl (fun N hN => ?_); go_big_quiet_step (fail); refine wpQuiet_nil (hN _ ?_); clear hN N)
  refine plan_p0 ?_
  iterate 1 (refine plan_q (o := ⟨_, _, _, _, _, _⟩) rfl (fun N hN => ?_); go_big_quiet_step (fail); refine wpQuiet_nil (hN _ ?_); clear hN N)
  refine plan_q0 ?_
  iterate 2 (refine plan_p (o := ⟨_, _, _, _, _, _⟩) rfl (fun N hN => ?_); go_big_quiet_step (fail); refine wpQuiet_nil (hN _ ?_); clear hN N)
  refine plan_p0 ?_
  iterate 1 (refine plan_q (o := ⟨_, _, _, _, _, _⟩) rfl (fun N hN => ?_); go_big_quiet_step (fail); refine wpQuiet_nil (hN _ ?_); clear hN N)
  refine plan_q0 ?_
  refine plan_e (o := ⟨_, _, _, _, _, _⟩) rfl rfl (fun K hK => ?_)
  first
    | (go_step; refine Calls.mono (newGrow_calls n _ hn) ?_; rintro e w' ⟨br, kb, rfl, H'⟩; replace H := H.merge (by first | exact Strikes.nil _ | (repeat (first | exact Strikes.nil _ | (apply Strikes.cons; focus (repeat (first | exact Split.here _ _ | apply Split.there)))))) H' rfl; clear H'; (try clear hc); (try simp only [nrm, splice, Value.cells, Nat.reduceAdd, Act.eval, Act.put] at H); have hc := H.cells; simp only [CellsOf, KnCells, arr_lit, knAt_cons, knAt_nil, Nat.zero_add, Nat.add_zero, Nat.reduceAdd] at hc; simp only [gents, gobj, List.cons_append, List.nil_append] at H hc; refine hK _ _ (fun _ _ => hS _ (H.sublist (by repeat (first | exact List.Sublist.refl _ | apply List.Sublist.cons))).all) ?_; clear hK K; (try simp only [Act.put, slt]))
    | (go_step; refine hK _ _ (fun _ _ => hS _ (H.sublist (by repeat (first | exact List.Sublist.refl _ | apply List.Sublist.cons))).all) ?_; clear hK K; (try simp only [Act.put, slt]))
    | (refine op_box _ _ rfl H (fun b w' H1 => ?_); replace H := H1; clear H1; (try clear hc); (try simp only [nrm, splice, Value.cells, Nat.reduceAdd, Act.eval, Act.put] at H); have hc := H.cells; simp only [CellsOf, KnCells, arr_lit, knAt_cons, knAt_nil, Nat.zero_add, Nat.add_zero, Nat.reduceAdd] at hc; refine hK _ _ (fun _ _ => hS _ (H.sublist (by repeat (first | exact List.Sublist.refl _ | apply List.Sublist.cons))).all) ?_; clear hK K; (try simp only [Act.put, slt]))
    | (refine op_alloc _ rfl (zero_of _ _ rfl) H (fun b w' H1 => ?_); replace H := H1; clear H1; (try clear hc); (try simp only [nrm, splice, Value.cells, Nat.reduceAdd, Act.eval, Act.put] at H); have hc := H.cells; simp only [CellsOf, KnCells, arr_lit, knAt_cons, knAt_nil, Nat.zero_add, Nat.add_zero, Nat.reduceAdd] at hc; refine hK _ _ (fun _ _ => hS _ (H.sublist (by repeat (first | exact List.Sublist.refl _ | apply List.Sublist.cons))).all) ?_; clear hK K; (try simp only [Act.put, slt]))
    | (refine op_store _ _ _ rfl rfl rfl H (by repeat (first | exact Split.here _ _ | apply Split.there)) (by kernel_rfl) (by kernel_rfl) (by kernel_rfl) (fun w' H1 => ?_); replace H := H1; clear H1; (try clear hc); (try simp only [nrm, splice, Value.cells, Nat.reduceAdd, Act.eval, Act.put] at H); have hc := H.cells; simp only [CellsOf, KnCells, arr_lit, knAt_cons, knAt_nil, Nat.zero_add, Nat.add_zero, Nat.reduceAdd] at hc; refine hK _ _ (fun _ _ => hS _ (H.sublist (by repeat (first | exact List.Sublist.refl _ | apply List.Sublist.cons))).all) ?_; clear hK K; (try simp only [Act.put, slt]))
    | (refine op_buildSlice_all _ _ _ rfl (by first | exact elem22 | exact elem25 | exact elem26 | exact elem29) (by kernel_rfl) (by kernel_rfl) (by kernel_rfl) H (fun b w' H1 => ?_); replace H := H1; clear H1; (try clear hc); (try simp only [nrm, splice, Value.cells, Nat.reduceAdd, Act.eval, Act.put] at H); have hc := H.cells; simp only [CellsOf, KnCells, arr_lit, knAt_cons, knAt_nil, Nat.zero_add, Nat.add_zero, Nat.reduceAdd] at hc; refine hK _ _ (fun _ _ => hS _ (H.sublist (by repeat (first | exact List.Sublist.refl _ | apply List.Sublist.cons))).all) ?_; clear hK K; (try simp only [Act.put, slt]))
  iterate 1 (refine plan_p (o := ⟨_, _, _, _, _, _⟩) rfl (fun N hN => ?_); go_big_quiet_step (fail); refine wpQuiet_nil (hN _ ?_); clear hN N)
  refine plan_p0 ?_
  refine plan_e (o := ⟨_, _, _, _, _, _⟩) rfl rfl (fun K hK => ?_)
  first
    | (go_step; refine Calls.mono (newGrow_calls n _ hn) ?_; rintro e w' ⟨br, kb, rfl, H'⟩; replace H := H.merge (by first | exact Strikes.nil _ | (repeat (first | exact Strikes.nil _ | (apply Strikes.cons; focus (repeat (first | exact Split.here _ _ | apply Split.there)))))) H' rfl; clear H'; (try clear hc); (try simp only [nrm, splice, Value.cells, Nat.reduceAdd, Act.eval, Act.put] at H); have hc := H.cells; simp only [CellsOf, KnCells, arr_lit, knAt_cons, knAt_nil, Nat.zero_add, Nat.add_zero, Nat.reduceAdd] at hc; simp only [gents, gobj, List.cons_append, List.nil_append] at H hc; refine hK _ _ (fun _ _ => hS _ (H.sublist (by repeat (first | exact List.Sublist.refl _ | apply List.Sublist.cons))).all) ?_; clear hK K; (try simp only [Act.put, slt]))
    | (go_step; refine hK _ _ (fun _ _ => hS _ (H.sublist (by repeat (first | exact List.Sublist.refl _ | apply List.Sublist.cons))).all) ?_; clear hK K; (try simp only [Act.put, slt]))
    | (refine op_box _ _ rfl H (fun b w' H1 => ?_); replace H := H1; clear H1; (try clear hc); (try simp only [nrm, splice, Value.cells, Nat.reduceAdd, Act.eval, Act.put] at H); have hc := H.cells; simp only [CellsOf, KnCells, arr_lit, knAt_cons, knAt_nil, Nat.zero_add, Nat.add_zero, Nat.reduceAdd] at hc; refine hK _ _ (fun _ _ => hS _ (H.sublist (by repeat (first | exact List.Sublist.refl _ | apply List.Sublist.cons))).all) ?_; clear hK K; (try simp only [Act.put, slt]))
    | (refine op_alloc _ rfl (zero_of _ _ rfl) H (fun b w' H1 => ?_); replace H := H1; clear H1; (try clear hc); (try simp only [nrm, splice, Value.cells, Nat.reduceAdd, Act.eval, Act.put] at H); have hc := H.cells; simp only [CellsOf, KnCells, arr_lit, knAt_cons, knAt_nil, Nat.zero_add, Nat.add_zero, Nat.reduceAdd] at hc; refine hK _ _ (fun _ _ => hS _ (H.sublist (by repeat (first | exact List.Sublist.refl _ | apply List.Sublist.cons))).all) ?_; clear hK K; (try simp only [Act.put, slt]))
    | (refine op_store _ _ _ rfl rfl rfl H (by repeat (first | exact Split.here _ _ | apply Split.there)) (by kernel_rfl) (by kernel_rfl) (by kernel_rfl) (fun w' H1 => ?_); replace H := H1; clear H1; (try clear hc); (try simp only [nrm, splice, Value.cells, Nat.reduceAdd, Act.eval, Act.put] at H); have hc := H.cells; simp only [CellsOf, KnCells, arr_lit, knAt_cons, knAt_nil, Nat.zero_add, Nat.add_zero, Nat.reduceAdd] at hc; refine hK _ _ (fun _ _ => hS _ (H.sublist (by repeat (first | exact List.Sublist.refl _ | apply List.Sublist.cons))).all) ?_; clear hK K; (try simp only [Act.put, slt]))
    | (refine op_buildSlice_all _ _ _ rfl (by first | exact elem22 | exact elem25 | exact elem26 | exact elem29) (by kernel_rfl) (by kernel_rfl) (by kernel_rfl) H (fun b w' H1 => ?_); replace H := H1; clear H1; (try clear hc); (try simp only [nrm, splice, Value.cells, Nat.reduceAdd, Act.eval, Act.put] at H); have hc := H.cells; simp only [CellsOf, KnCells, arr_lit, knAt_cons, knAt_nil, Nat.zero_add, Nat.add_zero, Nat.reduceAdd] at hc; refine hK _ _ (fun _ _ => hS _ (H.sublist (by repeat (first | exact List.Sublist.refl _ | apply List.Sublist.cons))).all) ?_; clear hK K; (try simp only [Act.put, slt]))
  iterate 1 (refine plan_p (o := ⟨_, _, _, _, _, _⟩) rfl (fun N hN => ?_); go_big_quiet_step (fail); refine wpQuiet_nil (hN _ ?_); clear hN N)
  refine plan_p0 ?_
  refine plan_e (o := ⟨_, _, _, _, _, _⟩) rfl rfl (fun K hK => ?_)
  first
    | (go_step; refine Calls.mono (newGrow_calls n _ hn) ?_; rintro e w' ⟨br, kb, rfl, H'⟩; replace H := H.merge (by first | exact Strikes.nil _ | (repeat (first | exact Strikes.nil _ | (apply Strikes.cons; focus (repeat (first | exact Split.here _ _ | apply Split.there)))))) H' rfl; clear H'; (try clear hc); (try simp only [nrm, splice, Value.cells, Nat.reduceAdd, Act.eval, Act.put] at H); have hc := H.cells; simp only [CellsOf, KnCells, arr_lit, knAt_cons, knAt_nil, Nat.zero_add, Nat.add_zero, Nat.reduceAdd] at hc; simp only [gents, gobj, List.cons_append, List.nil_append] at H hc; refine hK _ _ (fun h => (h (by decide)).elim) ?_; clear hK K; (try simp only [Act.put, slt]))
    | (go_step; refine hK _ _ (fun h => (h (by decide)).elim) ?_; clear hK K; (try simp only [Act.put, slt]))
    | (refine op_box _ _ rfl H (fun b w' H1 => ?_); replace H := H1; clear H1; (try clear hc); (try simp only [nrm, splice, Value.cells, Nat.reduceAdd, Act.eval, Act.put] at H); have hc := H.cells; simp only [CellsOf, KnCells, arr_lit, knAt_cons, knAt_nil, Nat.zero_add, Nat.add_zero, Nat.reduceAdd] at hc; refine hK _ _ (fun h => (h (by decide)).elim) ?_; clear hK K; (try simp only [Act.put, slt]))
    | (refine op_alloc _ rfl (zero_of _ _ rfl) H (fun b w' H1 => ?_); replace H := H1; clear H1; (try clear hc); (try simp only [nrm, splice, Value.cells, Nat.reduceAdd, Act.eval, Act.put] at H); have hc := H.cells; simp only [CellsOf, KnCells, arr_lit, knAt_cons, knAt_nil, Nat.zero_add, Nat.add_zero, Nat.reduceAdd] at hc; refine hK _ _ (fun h => (h (by decide)).elim) ?_; clear hK K; (try simp only [Act.put, slt]))
    | (refine op_store _ _ _ rfl rfl rfl H (by repeat (first | exact Split.here _ _ | apply Split.there)) (by kernel_rfl) (by kernel_rfl) (by kernel_rfl) (fun w' H1 => ?_); replace H := H1; clear H1; (try clear hc); (try simp only [nrm, splice, Value.cells, Nat.reduceAdd, Act.eval, Act.put] at H); have hc := H.cells; simp only [CellsOf, KnCells, arr_lit, knAt_cons, knAt_nil, Nat.zero_add, Nat.add_zero, Nat.reduceAdd] at hc; refine hK _ _ (fun h => (h (by decide)).elim) ?_; clear hK K; (try simp only [Act.put, slt]))
    | (refine op_buildSlice_all _ _ _ rfl (by first | exact elem22 | exact elem25 | exact elem26 | exact elem29) (by kernel_rfl) (by kernel_rfl) (by kernel_rfl) H (fun b w' H1 => ?_); replace H := H1; clear H1; (try clear hc); (try simp only [nrm, splice, Value.cells, Nat.reduceAdd, Act.eval, Act.put] at H); have hc := H.cells; simp only [CellsOf, KnCells, arr_lit, knAt_cons, knAt_nil, Nat.zero_add, Nat.add_zero, Nat.reduceAdd] at hc; refine hK _ _ (fun h => (h (by decide)).elim) ?_; clear hK K; (try simp only [Act.put, slt]))
  iterate 1 (refine plan_p (o := ⟨_, _, _, _, _, _⟩) rfl (fun N hN => ?_); go_big_quiet_step (fail); refine wpQuiet_nil (hN _ ?_); clear hN N)
  refine plan_p0 ?_
  refine plan_done ?_
  go_wp2_with (first
    | (refine loud_ rfl ?_; refine wpList_plain rfl (fun K hK => ?_); first
      | (refine op_box _ _ rfl H (fun b w' H1 => hK _ _ ?_); clear hK K; replace H := H1; clear H1; (try clear hc); (try simp only [nrm, splice, Value.cells, Nat.reduceAdd, Act.eval, Act.put] at H); have hc := H.cells; simp only [CellsOf, KnCells, arr_lit, knAt_cons, knAt_nil, Nat.zero_add, Nat.add_zero, Nat.reduceAdd] at hc)
      | (refine op_alloc _ rfl (zero_of _ _ rfl) H (fun b w' H1 => hK _ _ ?_); clear hK K; replace H := H1; clear H1; (try clear hc); (try simp only [nrm, splice, Value.cells, Nat.reduceAdd, Act.eval, Act.put] at H); have hc := H.cells; simp only [CellsOf, KnCells, arr_lit, knAt_cons, knAt_nil, Nat.zero_add, Nat.add_zero, Nat.reduceAdd] at hc)
      | (refine op_store _ _ _ rfl rfl rfl H (by repeat (first | exact Split.here _ _ | apply Split.there)) (by kernel_rfl) (by kernel_rfl) (by kernel_rfl) (fun w' H1 => hK _ _ ?_); clear hK K; replace H := H1; clear H1; (try clear hc); (try simp only [nrm, splice, Value.cells, Nat.reduceAdd, Act.eval, Act.put] at H); have hc := H.cells; simp only [CellsOf, KnCells, arr_lit, knAt_cons, knAt_nil, Nat.zero_add, Nat.add_zero, Nat.reduceAdd] at hc)
      | (refine op_buildSlice_all _ _ _ rfl (by first | exact elem22 | exact elem25 | exact elem26 | exact elem29) (by kernel_rfl) (by kernel_rfl) (by kernel_rfl) H (fun b w' H1 => hK _ _ ?_); clear hK K; replace H := H1; clear H1; (try clear hc); (try simp only [nrm, splice, Value.cells, Nat.reduceAdd, Act.eval, Act.put] at H); have hc := H.cells; simp only [CellsOf, KnCells, arr_lit, knAt_cons, knAt_nil, Nat.zero_add, Nat.add_zero, Nat.reduceAdd] at hc)))
  go_ret
  exact ⟨_, kb, rfl, (H.alloc _).sel (by repeat (first | exact Sel.nil _ | (apply Sel.cons; focus (repeat (first | exact Split.here _ _ | apply Split.there)))))⟩
end Go.Proofs.Ytlikpgidjdjgnaa
