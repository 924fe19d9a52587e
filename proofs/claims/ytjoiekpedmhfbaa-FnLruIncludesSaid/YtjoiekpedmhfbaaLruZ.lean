import Derived.Test.YtjoiekpedmhfbaaLruY
-- MORE
-- SUB2
namespace Go.Proofs.Ytjoiekpedmhfbaa
set_option linter.unusedVariables false
set_option linter.unusedSimpArgs false
set_option linter.unnecessarySimpa false
open Go.RowKit Go.V

theorem row_key {w : World} {key : Option Nat} {T : TypeId} {s n cap : Nat} {xs : List Value} (h : holds w (.row key T s n cap xs)) (hn : 0 < n) : ∃ b, key = some b := by
  cases key with
  | some b => exact ⟨b, rfl⟩
  | none => exact absurd h.1 (by omega)
theorem lies_of_cells {w : World} {b : Nat} {cs : Array Value} {T : TypeId} (h : w.heap[b]? = some (.cells cs T (0, 0))) : Lies w (some ⟨b, 0, none⟩) cs.toList := by
  refine ⟨fun h2 => (by cases h2), ?_⟩
  intro ad had j u hu
  cases had
  have e : (⟨b, 0, none⟩ : Addr).add j = ⟨b, j, none⟩ := by
    unfold Addr.add
    split
    · rename_i h0
      simp_all
    · simp
  rw [e]
  simpa [World.cell?, h] using hu
abbrev liveOps : List LOp := [⟨1, 1, 5⟩, ⟨2, 1, 0⟩]
theorem live_of {rs : List LA} (h : Hid (rs.map LA.tell = ctells 1 [] liveOps)) : ∃ a1 a2 a3 a4, rs.flatMap LA.cells = [.bool false, .int .i64 0, a1, a2, .bool true, .int .i64 5, a3, a4] := by
  have h1 : rs.map LA.tell = [(false, 0), (true, 5)] := h.out
  match rs, h1 with
  | [⟨k1, v1, a1, a2⟩, ⟨k2, v2, a3, a4⟩], h1 =>
    simp only [LA.tell, List.map_cons, List.map_nil, List.cons.injEq, Prod.mk.injEq, and_true] at h1
    obtain ⟨⟨rfl, rfl⟩, rfl, rfl⟩ := h1
    exact ⟨a1, a2, a3, a4, rfl⟩
  | [], h1 => cases h1
  | [_], h1 => exact absurd (congrArg List.length h1) (by simp)
  | _ :: _ :: _ :: r, h1 => exact absurd (congrArg List.length h1) (by simp)
theorem liveKinds : Hid (∀ o ∈ liveOps, o.kind = 1 ∨ o.kind = 2) := by
  intro o ho
  simp only [List.mem_cons, List.not_mem_nil, or_false] at ho
  rcases ho with rfl | rfl
  · exact .inl rfl
  · exact .inr rfl
theorem lru_some (M : Nat) (hM : M ≤ 1000) (ops : List LOp) (src : Option Addr) (n c : Nat) (w : World) (hn : Hid (ops.length = n)) (hl : n ≤ 400) (h0 : 0 < n) (hk : Hid (∀ o ∈ ops, o.kind = 1 ∨ o.kind = 2)) (H : St [] w w [(false, soft src (ops.flatMap LOp.cells))]) :
    Calls Try.prog 6 #[.int .i64 M, .slice src n c] w fun e w' => ∃ kb cap, ∃ rs : List LA, Hid (rs.map LA.tell = ctells M [] ops) ∧ e = .returned (.slice (some ⟨kb, 0, none⟩) n cap) ∧
      St [] w w' [(true, .row (some kb) 33 4 n cap (rs.flatMap LA.cells))] := by
  refine (lru_calls M hM ops src n c w hn hl hk H).mono ?_
  rintro e w' ⟨key, cap, rs, hrs, rfl, H'⟩
  obtain ⟨kb, rfl⟩ := row_key (H'.get (by repeat (first | exact Split.here _ _ | apply Split.there))) h0
  exact ⟨kb, cap, rs, hrs, rfl, H'⟩
set_option maxRecDepth 8000 in
set_option maxHeartbeats 1000000 in
theorem live_calls (w : World) : Calls Try.prog 5 #[] w fun e w' => e = .returned (.bool true) ∧ Ext [] w w' := by
  have H := St.init [] w
  go_enter Try.func5, Try.ntmps5
  repeat' (first | (go_big_may; (first
    | ((first
        | (refine loud_ rfl ?_; refine wpList_plain rfl (fun K hK => ?_); (first | (refine op_box _ _ rfl H (fun b w' H1 => hK _ _ ?_)) | (refine op_alloc _ rfl (zero_of _ _ rfl) H (fun b w' H1 => hK _ _ ?_)) | (refine op_store _ _ _ rfl rfl rfl H (by repeat (first | exact Split.here _ _ | apply Split.there)) (by kernel_rfl) (by kernel_rfl) (by kernel_rfl) (fun w' H1 => hK _ _ ?_)) | (refine op_buildSlice_all _ _ _ rfl (by first | exact elem22 | exact elem25 | exact elem31 | exact elem35) (by kernel_rfl) (by kernel_rfl) (by kernel_rfl) H (fun b w' H1 => hK _ _ ?_))); clear hK K; replace H := H1; clear H1)); (try clear hc); (try simp only [nrm, splice, Value.cells, Nat.reduceAdd, Act.eval, Act.put] at H); have hc := H.cells; simp only [CellsOf, KnCells, knc, Nat.reduceAdd] at hc))) | go_values | go_skip | go_guarded | go_step | go_upon | go_back | dsimp only)
  (go_at_call 6; refine Calls.mono (lru_some 1 (by omega) liveOps (some ⟨b, 0, none⟩) 2 2 _ rfl (by omega) (by omega) liveKinds ((St.init [] _).read _ (soft_holds (lies_of_cells (H.obj (b := b) (by repeat (first | exact Split.here _ _ | apply Split.there))))) (by simp))) ?_; rintro e w' ⟨kb, cap, rs, hrs, rfl, H'⟩; obtain ⟨a1, a2, a3, a4, hx⟩ := live_of hrs; rw [hx] at H'; replace H := H.merge (Strikes.nil _) H' rfl; clear H'; (try clear hc); (try simp only [nrm, splice, Value.cells, Nat.reduceAdd, Act.eval, Act.put] at H); have hc := H.cells; simp only [CellsOf, KnCells, knc, Nat.reduceAdd] at hc)
  repeat' (first | (go_big_may; (first
    | ((first
        | (refine loud_ rfl ?_; refine wpList_plain rfl (fun K hK => ?_); (first | (refine op_box _ _ rfl H (fun b w' H1 => hK _ _ ?_)) | (refine op_alloc _ rfl (zero_of _ _ rfl) H (fun b w' H1 => hK _ _ ?_)) | (refine op_store _ _ _ rfl rfl rfl H (by repeat (first | exact Split.here _ _ | apply Split.there)) (by kernel_rfl) (by kernel_rfl) (by kernel_rfl) (fun w' H1 => hK _ _ ?_)) | (refine op_buildSlice_all _ _ _ rfl (by first | exact elem22 | exact elem25 | exact elem31 | exact elem35) (by kernel_rfl) (by kernel_rfl) (by kernel_rfl) H (fun b w' H1 => hK _ _ ?_))); clear hK K; replace H := H1; clear H1)); (try clear hc); (try simp only [nrm, splice, Value.cells, Nat.reduceAdd, Act.eval, Act.put] at H); have hc := H.cells; simp only [CellsOf, KnCells, knc, Nat.reduceAdd] at hc))) | go_values | go_skip | go_guarded | go_step | go_upon | go_back | dsimp only)
  go_ret
  exact ⟨rfl, H.ext⟩
/-- Operations of which the law speaks. -/
structure LGood (size : Int) (ops : List LOp) : Prop where
  size : 0 ≤ size ∧ size ≤ 1000
  few : ops.length ≤ 400
  kinds : ∀ o ∈ ops, o.kind = 1 ∨ o.kind = 2
def GoodPost (size : Int) (ops : List LOp) (w : World) (e : Ending) (w' : World) : Prop := ∃ t, e = .returned (.bool t) ∧ Ext [] w w' ∧ (t = true → LGood size ops)
theorem good_no {size : Int} {ops : List LOp} {w w' : World} (h : Ext [] w w') : GoodPost size ops w (.returned (.bool false)) w' := ⟨false, rfl, h, fun h => by cases h⟩
def AtGood (n : Nat) (src : Option Addr) (ops : List LOp) (w : World) (i : Value) (wr : World) : Prop := ∃ j : Nat, j ≤ n ∧ i = .int .i64 j ∧ Hid (∀ o ∈ ops.take j, o.kind = 1 ∨ o.kind = 2) ∧ St [] w wr [(false, soft src (ops.flatMap LOp.cells))]
set_option maxRecDepth 10000 in
set_option maxHeartbeats 4000000 in
theorem good_calls (size : Int) (src : Option Addr) (c : Nat) (ops : List LOp) (n : Nat) (w : World) (hn : Hid (ops.length = n)) (H : St [] w w [(false, soft src (ops.flatMap LOp.cells))]) :
    Calls Try.prog 4 #[.int .i64 size, .slice src n c, .int .i64 2] w (GoodPost size ops w) := by
  by_cases h1 : 0 ≤ size
  case neg =>
    go_enter Try.func4, Try.ntmps4
    go_wp2_with (first
    | ((first
        | (refine loud_ rfl ?_; refine wpList_plain rfl (fun K hK => ?_); (first | (refine op_box _ _ rfl H (fun b w' H1 => hK _ _ ?_)) | (refine op_alloc _ rfl (zero_of _ _ rfl) H (fun b w' H1 => hK _ _ ?_)) | (refine op_store _ _ _ rfl rfl rfl H (by repeat (first | exact Split.here _ _ | apply Split.there)) (by kernel_rfl) (by kernel_rfl) (by kernel_rfl) (fun w' H1 => hK _ _ ?_)) | (refine op_buildSlice_all _ _ _ rfl (by first | exact elem22 | exact elem25 | exact elem31 | exact elem35) (by kernel_rfl) (by kernel_rfl) (by kernel_rfl) H (fun b w' H1 => hK _ _ ?_))); clear hK K; replace H := H1; clear H1)); (try clear hc); (try simp only [nrm, splice, Value.cells, Nat.reduceAdd, Act.eval, Act.put] at H); have hc := H.cells; simp only [CellsOf, KnCells, knc, Nat.reduceAdd] at hc))
    go_ret
    exact good_no H.ext
  by_cases h2 : size ≤ 1000
  case neg =>
    go_enter Try.func4, Try.ntmps4
    go_wp2_with (first
    | ((first
        | (refine loud_ rfl ?_; refine wpList_plain rfl (fun K hK => ?_); (first | (refine op_box _ _ rfl H (fun b w' H1 => hK _ _ ?_)) | (refine op_alloc _ rfl (zero_of _ _ rfl) H (fun b w' H1 => hK _ _ ?_)) | (refine op_store _ _ _ rfl rfl rfl H (by repeat (first | exact Split.here _ _ | apply Split.there)) (by kernel_rfl) (by kernel_rfl) (by kernel_rfl) (fun w' H1 => hK _ _ ?_)) | (refine op_buildSlice_all _ _ _ rfl (by first | exact elem22 | exact elem25 | exact elem31 | exact elem35) (by kernel_rfl) (by kernel_rfl) (by kernel_rfl) H (fun b w' H1 => hK _ _ ?_))); clear hK K; replace H := H1; clear H1)); (try clear hc); (try simp only [nrm, splice, Value.cells, Nat.reduceAdd, Act.eval, Act.put] at H); have hc := H.cells; simp only [CellsOf, KnCells, knc, Nat.reduceAdd] at hc))
    go_ret
    exact good_no H.ext
  by_cases h3 : (n : Int) ≤ 400
  case neg =>
    go_enter Try.func4, Try.ntmps4
    go_wp2_with (first
    | ((first
        | (refine loud_ rfl ?_; refine wpList_plain rfl (fun K hK => ?_); (first | (refine op_box _ _ rfl H (fun b w' H1 => hK _ _ ?_)) | (refine op_alloc _ rfl (zero_of _ _ rfl) H (fun b w' H1 => hK _ _ ?_)) | (refine op_store _ _ _ rfl rfl rfl H (by repeat (first | exact Split.here _ _ | apply Split.there)) (by kernel_rfl) (by kernel_rfl) (by kernel_rfl) (fun w' H1 => hK _ _ ?_)) | (refine op_buildSlice_all _ _ _ rfl (by first | exact elem22 | exact elem25 | exact elem31 | exact elem35) (by kernel_rfl) (by kernel_rfl) (by kernel_rfl) H (fun b w' H1 => hK _ _ ?_))); clear hK K; replace H := H1; clear H1)); (try clear hc); (try simp only [nrm, splice, Value.cells, Nat.reduceAdd, Act.eval, Act.put] at H); have hc := H.cells; simp only [CellsOf, KnCells, knc, Nat.reduceAdd] at hc))
    go_ret
    exact good_no H.ext
  go_enter Try.func4, Try.ntmps4
  go_wp2_with (first
    | ((first
        | (refine loud_ rfl ?_; refine wpList_plain rfl (fun K hK => ?_); (first | (refine op_box _ _ rfl H (fun b w' H1 => hK _ _ ?_)) | (refine op_alloc _ rfl (zero_of _ _ rfl) H (fun b w' H1 => hK _ _ ?_)) | (refine op_store _ _ _ rfl rfl rfl H (by repeat (first | exact Split.here _ _ | apply Split.there)) (by kernel_rfl) (by kernel_rfl) (by kernel_rfl) (fun w' H1 => hK _ _ ?_)) | (refine op_buildSlice_all _ _ _ rfl (by first | exact elem22 | exact elem25 | exact elem31 | exact elem35) (by kernel_rfl) (by kernel_rfl) (by kernel_rfl) H (fun b w' H1 => hK _ _ ?_))); clear hK K; replace H := H1; clear H1)); (try clear hc); (try simp only [nrm, splice, Value.cells, Nat.reduceAdd, Act.eval, Act.put] at H); have hc := H.cells; simp only [CellsOf, KnCells, knc, Nat.reduceAdd] at hc))
  go_loopw [22] (AtGood n src ops w) (fun i _ => n - (intOf i).toNat)
  case atStart => exact ⟨0, Nat.zero_le _, rfl, by simp [Hid], H⟩
  case round =>
    clear H
    obtain ⟨j, hj, rfl, hlk, H⟩ := hrel
    by_cases hlt : j < n
    · have hj' : j < ops.length := by rw [hn.out]; exact hlt
      have hcat : Hid (ops.take (j + 1) = ops.take j ++ [ops[j]]) := (List.take_append_getElem hj').symm
      obtain ⟨b1, o1, rfl, H1⟩ := H.elemSoft (Split.here _ _) (j * 3) (ops[j]).cells (by show 0 < 3; omega) (by rw [lop_len]; show _ + 3 ≤ _; omega) (fun i hi => flat_at LOp.cells 3 ops (fun _ _ => rfl) j i hj' hi)
      clear H
      have H := H1
      clear H1
      have hstep : Hid ((ops[j]).kind = 1 ∨ (ops[j]).kind = 2 → ∀ o ∈ ops.take (j + 1), o.kind = 1 ∨ o.kind = 2) := by
        intro hk o ho
        rw [hcat.out] at ho
        rcases List.mem_append.1 ho with ho | ho
        · exact hlk.out o ho
        · simp only [List.mem_singleton] at ho
          subst ho
          exact hk
      clear hcat
      generalize ops[j] = oo at *
      obtain ⟨kd, ky, vl⟩ := oo
      simp only [LOp.cells] at H
      simp only at hstep
      clear hj'
      have hc := H.cells; simp only [CellsOf, KnCells, knc, Nat.reduceAdd] at hc
      by_cases k1 : kd < 1
      · go_wp2_with (first
    | ((first
        | (refine loud_ rfl ?_; refine wpList_plain rfl (fun K hK => ?_); (first | (refine op_box _ _ rfl H (fun b w' H1 => hK _ _ ?_)) | (refine op_alloc _ rfl (zero_of _ _ rfl) H (fun b w' H1 => hK _ _ ?_)) | (refine op_store _ _ _ rfl rfl rfl H (by repeat (first | exact Split.here _ _ | apply Split.there)) (by kernel_rfl) (by kernel_rfl) (by kernel_rfl) (fun w' H1 => hK _ _ ?_)) | (refine op_buildSlice_all _ _ _ rfl (by first | exact elem22 | exact elem25 | exact elem31 | exact elem35) (by kernel_rfl) (by kernel_rfl) (by kernel_rfl) H (fun b w' H1 => hK _ _ ?_))); clear hK K; replace H := H1; clear H1)); (try clear hc); (try simp only [nrm, splice, Value.cells, Nat.reduceAdd, Act.eval, Act.put] at H); have hc := H.cells; simp only [CellsOf, KnCells, knc, Nat.reduceAdd] at hc))
        go_ret
        exact good_no H.ext
      by_cases k2 : kd > 2
      · go_wp2_with (first
    | ((first
        | (refine loud_ rfl ?_; refine wpList_plain rfl (fun K hK => ?_); (first | (refine op_box _ _ rfl H (fun b w' H1 => hK _ _ ?_)) | (refine op_alloc _ rfl (zero_of _ _ rfl) H (fun b w' H1 => hK _ _ ?_)) | (refine op_store _ _ _ rfl rfl rfl H (by repeat (first | exact Split.here _ _ | apply Split.there)) (by kernel_rfl) (by kernel_rfl) (by kernel_rfl) (fun w' H1 => hK _ _ ?_)) | (refine op_buildSlice_all _ _ _ rfl (by first | exact elem22 | exact elem25 | exact elem31 | exact elem35) (by kernel_rfl) (by kernel_rfl) (by kernel_rfl) H (fun b w' H1 => hK _ _ ?_))); clear hK K; replace H := H1; clear H1)); (try clear hc); (try simp only [nrm, splice, Value.cells, Nat.reduceAdd, Act.eval, Act.put] at H); have hc := H.cells; simp only [CellsOf, KnCells, knc, Nat.reduceAdd] at hc))
        go_ret
        exact good_no H.ext
      by_cases k3 : ky < -1099511627776
      · go_wp2_with (first
    | ((first
        | (refine loud_ rfl ?_; refine wpList_plain rfl (fun K hK => ?_); (first | (refine op_box _ _ rfl H (fun b w' H1 => hK _ _ ?_)) | (refine op_alloc _ rfl (zero_of _ _ rfl) H (fun b w' H1 => hK _ _ ?_)) | (refine op_store _ _ _ rfl rfl rfl H (by repeat (first | exact Split.here _ _ | apply Split.there)) (by kernel_rfl) (by kernel_rfl) (by kernel_rfl) (fun w' H1 => hK _ _ ?_)) | (refine op_buildSlice_all _ _ _ rfl (by first | exact elem22 | exact elem25 | exact elem31 | exact elem35) (by kernel_rfl) (by kernel_rfl) (by kernel_rfl) H (fun b w' H1 => hK _ _ ?_))); clear hK K; replace H := H1; clear H1)); (try clear hc); (try simp only [nrm, splice, Value.cells, Nat.reduceAdd, Act.eval, Act.put] at H); have hc := H.cells; simp only [CellsOf, KnCells, knc, Nat.reduceAdd] at hc))
        go_ret
        exact good_no H.ext
      by_cases k4 : ky > 1099511627776
      · go_wp2_with (first
    | ((first
        | (refine loud_ rfl ?_; refine wpList_plain rfl (fun K hK => ?_); (first | (refine op_box _ _ rfl H (fun b w' H1 => hK _ _ ?_)) | (refine op_alloc _ rfl (zero_of _ _ rfl) H (fun b w' H1 => hK _ _ ?_)) | (refine op_store _ _ _ rfl rfl rfl H (by repeat (first | exact Split.here _ _ | apply Split.there)) (by kernel_rfl) (by kernel_rfl) (by kernel_rfl) (fun w' H1 => hK _ _ ?_)) | (refine op_buildSlice_all _ _ _ rfl (by first | exact elem22 | exact elem25 | exact elem31 | exact elem35) (by kernel_rfl) (by kernel_rfl) (by kernel_rfl) H (fun b w' H1 => hK _ _ ?_))); clear hK K; replace H := H1; clear H1)); (try clear hc); (try simp only [nrm, splice, Value.cells, Nat.reduceAdd, Act.eval, Act.put] at H); have hc := H.cells; simp only [CellsOf, KnCells, knc, Nat.reduceAdd] at hc))
        go_ret
        exact good_no H.ext
      have hs2 : Hid (∀ o ∈ ops.take (j + 1), o.kind = 1 ∨ o.kind = 2) := hstep.out (by omega)
      go_wp2_with (first
    | ((first
        | (refine loud_ rfl ?_; refine wpList_plain rfl (fun K hK => ?_); (first | (refine op_box _ _ rfl H (fun b w' H1 => hK _ _ ?_)) | (refine op_alloc _ rfl (zero_of _ _ rfl) H (fun b w' H1 => hK _ _ ?_)) | (refine op_store _ _ _ rfl rfl rfl H (by repeat (first | exact Split.here _ _ | apply Split.there)) (by kernel_rfl) (by kernel_rfl) (by kernel_rfl) (fun w' H1 => hK _ _ ?_)) | (refine op_buildSlice_all _ _ _ rfl (by first | exact elem22 | exact elem25 | exact elem31 | exact elem35) (by kernel_rfl) (by kernel_rfl) (by kernel_rfl) H (fun b w' H1 => hK _ _ ?_))); clear hK K; replace H := H1; clear H1)); (try clear hc); (try simp only [nrm, splice, Value.cells, Nat.reduceAdd, Act.eval, Act.put] at H); have hc := H.cells; simp only [CellsOf, KnCells, knc, Nat.reduceAdd] at hc))
      exact ⟨⟨j + 1, by omega, by go_num, hs2, H.sel (by repeat (first | exact Sel.nil _ | (apply Sel.cons; focus (repeat (first | exact Split.here _ _ | apply Split.there)))))⟩, by simp [intOf]; omega⟩
    · obtain rfl : j = n := by omega
      rw [List.take_of_length_le (by rw [hn.out]; omega)] at hlk
      have hgood := Lib.hid (LGood.mk ⟨h1, h2⟩ (by rw [hn.out]; omega) hlk.out)
      go_wp2_with (first
    | ((first
        | (refine loud_ rfl ?_; refine wpList_plain rfl (fun K hK => ?_); (first | (refine op_box _ _ rfl H (fun b w' H1 => hK _ _ ?_)) | (refine op_alloc _ rfl (zero_of _ _ rfl) H (fun b w' H1 => hK _ _ ?_)) | (refine op_store _ _ _ rfl rfl rfl H (by repeat (first | exact Split.here _ _ | apply Split.there)) (by kernel_rfl) (by kernel_rfl) (by kernel_rfl) (fun w' H1 => hK _ _ ?_)) | (refine op_buildSlice_all _ _ _ rfl (by first | exact elem22 | exact elem25 | exact elem31 | exact elem35) (by kernel_rfl) (by kernel_rfl) (by kernel_rfl) H (fun b w' H1 => hK _ _ ?_))); clear hK K; replace H := H1; clear H1)); (try clear hc); (try simp only [nrm, splice, Value.cells, Nat.reduceAdd, Act.eval, Act.put] at H); have hc := H.cells; simp only [CellsOf, KnCells, knc, Nat.reduceAdd] at hc))
      go_ret
      exact ⟨true, rfl, H.ext, fun _ => hgood.out⟩
end Go.Proofs.Ytjoiekpedmhfbaa
