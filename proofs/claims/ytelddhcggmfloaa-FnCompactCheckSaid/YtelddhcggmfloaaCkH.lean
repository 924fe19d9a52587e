import Derived.Test.YtelddhcggmfloaaCkE
-- MORE
-- SUB2
namespace Go.Proofs.Ytelddhcggmfloaa
set_option linter.unusedVariables false
set_option linter.unusedSimpArgs false
set_option linter.unnecessarySimpa false
open Go Go.RowKit Go.V

/-! Peers of which the laws speak. -/
structure PGood (own : Int) (ps : List Pr) : Prop where
  few : ps.length ≤ 12
  other : ∀ p ∈ ps, p.id ≠ own
  ids : (ps.map Pr.id).Nodup
def PgPost (own : Int) (ps : List Pr) (w : World) (e : Ending) (w' : World) : Prop := ∃ t, e = .returned (.bool t) ∧ Ext [] w w' ∧ (t = true → PGood own ps)
theorem pg_no {own : Int} {ps : List Pr} {w w' : World} (h : Ext [] w w') : PgPost own ps w (.returned (.bool false)) w' := ⟨false, rfl, h, fun h => by cases h⟩
def PgTo (own : Int) (ps : List Pr) (j : Nat) : Prop := (∀ p ∈ ps.take j, p.id ≠ own) ∧ ((ps.take j).map Pr.id).Nodup
def AtPg (n : Nat) (own : Int) (src : Option Addr) (ps : List Pr) (w : World) (i : Value) (wr : World) : Prop := ∃ j : Nat, j ≤ n ∧ i = .int .i64 j ∧ Hid (PgTo own ps j) ∧ St [] w wr [(false, soft src (ps.flatMap Pr.cells))]
abbrev prO (p : Pr) : Obj := .cells #[.int .u64 p.id, .bool p.has, .int .u32 p.hash, .int .i64 p.compact, .int .i64 p.rev, .int .i64 p.err] 29 (0, 0)
def AtPi (j : Nat) (id : Int) (b6 : Nat) (p : Pr) (src : Option Addr) (ps : List Pr) (w : World) (i : Value) (wr : World) : Prop := ∃ k : Nat, k ≤ j ∧ i = .int .i64 k ∧ Hid (∀ q ∈ ps.take k, q.id ≠ id) ∧ St [] w wr [(false, .is b6 (prO p)), (false, soft src (ps.flatMap Pr.cells))]
set_option maxRecDepth 10000 in
set_option maxHeartbeats 4000000 in
theorem pgood_calls (own : Int) (src : Option Addr) (c : Nat) (ps : List Pr) (n : Nat) (hn : Hid (ps.length = n)) (hl : n ≤ 2147483647) (hcp : n ≤ c) (w : World) (H : St [] w w [(false, soft src (ps.flatMap Pr.cells))]) :
    Calls Try.prog 7 #[.int .u64 own, .slice src n c] w (PgPost own ps w) := by
  go_enter Try.func7, Try.ntmps7
  go_wp2_with (first
    | ((first
        | (refine loud_ rfl ?_; refine wpList_plain rfl (fun K hK => ?_); (first | (refine op_box _ _ rfl H (fun b w' H1 => hK _ _ ?_)) | (refine op_alloc _ rfl (zero_of _ _ rfl) H (fun b w' H1 => hK _ _ ?_)) | (refine op_store _ _ _ rfl rfl rfl H (by repeat (first | exact Split.here _ _ | apply Split.there)) (by kernel_rfl) (by kernel_rfl) (by kernel_rfl) (fun w' H1 => hK _ _ ?_)) | (refine op_buildSlice_all _ _ _ rfl (by first | exact elem25 | exact elem32 | exact elem35 | exact elem36 | exact elem37 | exact elem38 | exact elem41 | exact elem42 | exact elem45 | exact elem57 | exact elem62 | exact elem74 | exact elem98 | exact elem100 | exact elem137 | exact elem178 | exact elem179) (by kernel_rfl) (by kernel_rfl) (by kernel_rfl) H (fun b w' H1 => hK _ _ ?_))); clear hK K; replace H := H1; clear H1)); (try clear hc); (try simp only [nrm, splice, Value.cells, Nat.reduceAdd, Act.eval, Act.put] at H); have hc := H.cells; simp only [CellsOf, KnCells, knc, Nat.reduceAdd] at hc))
  go_loopw [11] (AtPg n own src ps w) (fun i _ => n - (intOf i).toNat)
  case atStart => exact ⟨0, Nat.zero_le _, rfl, ⟨by simp, by simp⟩, H⟩
  case round =>
    clear H
    obtain ⟨j, hj, rfl, hlk, H⟩ := hrel
    by_cases hlt : j < n
    · have hj' : j < ps.length := by rw [hn.out]; exact hlt
      have hcat : Hid (ps.take (j + 1) = ps.take j ++ [ps[j]]) := (List.take_append_getElem hj').symm
      obtain ⟨b1, o1, rfl, H1⟩ := H.elemSoft (Split.here _ _) (j * 6) (ps[j]).cells (by show 0 < 6; omega) (by rw [pr_len]; show _ + 6 ≤ _; omega) (fun i hi => flat_at Pr.cells 6 ps (fun _ _ => rfl) j i hj' hi)
      clear H
      have H := H1
      clear H1
      generalize ps[j] = p at *
      obtain ⟨id, has, hash, compact, rev, err⟩ := p
      simp only [Pr.cells] at H
      clear hj'
      by_cases e1 : id = own
      · have hc := H.cells; simp only [CellsOf, KnCells, knc, Nat.reduceAdd] at hc
        repeat' (first | (go_big_may; (first
    | ((first
        | (refine loud_ rfl ?_; refine wpList_plain rfl (fun K hK => ?_); (first | (refine op_box _ _ rfl H (fun b w' H1 => hK _ _ ?_)) | (refine op_alloc _ rfl (zero_of _ _ rfl) H (fun b w' H1 => hK _ _ ?_)) | (refine op_store _ _ _ rfl rfl rfl H (by repeat (first | exact Split.here _ _ | apply Split.there)) (by kernel_rfl) (by kernel_rfl) (by kernel_rfl) (fun w' H1 => hK _ _ ?_)) | (refine op_buildSlice_all _ _ _ rfl (by first | exact elem25 | exact elem32 | exact elem35 | exact elem36 | exact elem37 | exact elem38 | exact elem41 | exact elem42 | exact elem45 | exact elem57 | exact elem62 | exact elem74 | exact elem98 | exact elem100 | exact elem137 | exact elem178 | exact elem179) (by kernel_rfl) (by kernel_rfl) (by kernel_rfl) H (fun b w' H1 => hK _ _ ?_))); clear hK K; replace H := H1; clear H1)); (try clear hc); (try simp only [nrm, splice, Value.cells, Nat.reduceAdd, Act.eval, Act.put] at H); have hc := H.cells; simp only [CellsOf, KnCells, knc, Nat.reduceAdd] at hc))) | go_values | go_skip | go_guarded | go_step | go_upon | go_back | dsimp only)
        go_ret
        exact pg_no H.ext
      by_cases e2 : err < 0
      · have hc := H.cells; simp only [CellsOf, KnCells, knc, Nat.reduceAdd] at hc
        repeat' (first | (go_big_may; (first
    | ((first
        | (refine loud_ rfl ?_; refine wpList_plain rfl (fun K hK => ?_); (first | (refine op_box _ _ rfl H (fun b w' H1 => hK _ _ ?_)) | (refine op_alloc _ rfl (zero_of _ _ rfl) H (fun b w' H1 => hK _ _ ?_)) | (refine op_store _ _ _ rfl rfl rfl H (by repeat (first | exact Split.here _ _ | apply Split.there)) (by kernel_rfl) (by kernel_rfl) (by kernel_rfl) (fun w' H1 => hK _ _ ?_)) | (refine op_buildSlice_all _ _ _ rfl (by first | exact elem25 | exact elem32 | exact elem35 | exact elem36 | exact elem37 | exact elem38 | exact elem41 | exact elem42 | exact elem45 | exact elem57 | exact elem62 | exact elem74 | exact elem98 | exact elem100 | exact elem137 | exact elem178 | exact elem179) (by kernel_rfl) (by kernel_rfl) (by kernel_rfl) H (fun b w' H1 => hK _ _ ?_))); clear hK K; replace H := H1; clear H1)); (try clear hc); (try simp only [nrm, splice, Value.cells, Nat.reduceAdd, Act.eval, Act.put] at H); have hc := H.cells; simp only [CellsOf, KnCells, knc, Nat.reduceAdd] at hc))) | go_values | go_skip | go_guarded | go_step | go_upon | go_back | dsimp only)
        go_ret
        exact pg_no H.ext
      by_cases e3 : 4 < err
      · have hc := H.cells; simp only [CellsOf, KnCells, knc, Nat.reduceAdd] at hc
        repeat' (first | (go_big_may; (first
    | ((first
        | (refine loud_ rfl ?_; refine wpList_plain rfl (fun K hK => ?_); (first | (refine op_box _ _ rfl H (fun b w' H1 => hK _ _ ?_)) | (refine op_alloc _ rfl (zero_of _ _ rfl) H (fun b w' H1 => hK _ _ ?_)) | (refine op_store _ _ _ rfl rfl rfl H (by repeat (first | exact Split.here _ _ | apply Split.there)) (by kernel_rfl) (by kernel_rfl) (by kernel_rfl) (fun w' H1 => hK _ _ ?_)) | (refine op_buildSlice_all _ _ _ rfl (by first | exact elem25 | exact elem32 | exact elem35 | exact elem36 | exact elem37 | exact elem38 | exact elem41 | exact elem42 | exact elem45 | exact elem57 | exact elem62 | exact elem74 | exact elem98 | exact elem100 | exact elem137 | exact elem178 | exact elem179) (by kernel_rfl) (by kernel_rfl) (by kernel_rfl) H (fun b w' H1 => hK _ _ ?_))); clear hK K; replace H := H1; clear H1)); (try clear hc); (try simp only [nrm, splice, Value.cells, Nat.reduceAdd, Act.eval, Act.put] at H); have hc := H.cells; simp only [CellsOf, KnCells, knc, Nat.reduceAdd] at hc))) | go_values | go_skip | go_guarded | go_step | go_upon | go_back | dsimp only)
        go_ret
        exact pg_no H.ext
      have hc := H.cells; simp only [CellsOf, KnCells, knc, Nat.reduceAdd] at hc
      repeat' (first | (go_big_may; (first
    | ((first
        | (refine loud_ rfl ?_; refine wpList_plain rfl (fun K hK => ?_); (first | (refine op_box _ _ rfl H (fun b w' H1 => hK _ _ ?_)) | (refine op_alloc _ rfl (zero_of _ _ rfl) H (fun b w' H1 => hK _ _ ?_)) | (refine op_store _ _ _ rfl rfl rfl H (by repeat (first | exact Split.here _ _ | apply Split.there)) (by kernel_rfl) (by kernel_rfl) (by kernel_rfl) (fun w' H1 => hK _ _ ?_)) | (refine op_buildSlice_all _ _ _ rfl (by first | exact elem25 | exact elem32 | exact elem35 | exact elem36 | exact elem37 | exact elem38 | exact elem41 | exact elem42 | exact elem45 | exact elem57 | exact elem62 | exact elem74 | exact elem98 | exact elem100 | exact elem137 | exact elem178 | exact elem179) (by kernel_rfl) (by kernel_rfl) (by kernel_rfl) H (fun b w' H1 => hK _ _ ?_))); clear hK K; replace H := H1; clear H1)); (try clear hc); (try simp only [nrm, splice, Value.cells, Nat.reduceAdd, Act.eval, Act.put] at H); have hc := H.cells; simp only [CellsOf, KnCells, knc, Nat.reduceAdd] at hc))) | go_values | go_skip | go_guarded | go_step | go_upon | go_back | dsimp only)
      obtain ⟨b6, rfl⟩ : ∃ q, q = b := ⟨_, rfl⟩
      replace H := (H.ro (k := .is b6 _) (by repeat (first | exact Split.here _ _ | apply Split.there))).sel (L' := [(false, .is b6 (prO ⟨id, has, hash, compact, rev, err⟩)), (false, soft (some ⟨b1, o1, none⟩) (ps.flatMap Pr.cells))]) (by repeat (first | exact Sel.nil _ | (apply Sel.cons; focus (repeat (first | exact Split.here _ _ | apply Split.there)))))
      clear hc
      have h9 : (id == own) = false := by simp [e1]
      (try simp only [h9])
      have e1' := Lib.hid e1
      clear e1
      go_loopw [34] (AtPi j id b6 ⟨id, has, hash, compact, rev, err⟩ (some ⟨b1, o1, none⟩) ps w) (fun i _ => j - (intOf i).toNat)
      case atStart => exact ⟨0, Nat.zero_le _, rfl, by simp [Hid], H⟩
      case round =>
        clear H
        obtain ⟨k, hk, rfl, hq, H⟩ := hrel
        by_cases hlt2 : k < j
        · have hk' : k < ps.length := by rw [hn.out]; omega
          have hcat2 : Hid (ps.take (k + 1) = ps.take k ++ [ps[k]]) := (List.take_append_getElem hk').symm
          obtain ⟨b2, o2, hs2, H1⟩ := H.elemSoft (Split.there _ (Split.here _ _)) (k * 6) (ps[k]).cells (by show 0 < 6; omega) (by rw [pr_len]; show _ + 6 ≤ _; omega) (fun i hi => flat_at Pr.cells 6 ps (fun _ _ => rfl) k i hk' hi)
          obtain ⟨rfl, rfl⟩ : b1 = b2 ∧ o1 = o2 := by simpa using hs2
          clear H hs2
          have H := H1
          clear H1
          generalize ps[k] = q at *
          obtain ⟨id2, has2, hash2, compact2, rev2, err2⟩ := q
          simp only [Pr.cells] at H
          clear hk'
          by_cases e4 : id = id2
          · subst e4
            have hc := H.cells; simp only [CellsOf, KnCells, knc, Nat.reduceAdd] at hc
            repeat' (first | (go_big_may; (first
    | ((first
        | (refine loud_ rfl ?_; refine wpList_plain rfl (fun K hK => ?_); (first | (refine op_box _ _ rfl H (fun b w' H1 => hK _ _ ?_)) | (refine op_alloc _ rfl (zero_of _ _ rfl) H (fun b w' H1 => hK _ _ ?_)) | (refine op_store _ _ _ rfl rfl rfl H (by repeat (first | exact Split.here _ _ | apply Split.there)) (by kernel_rfl) (by kernel_rfl) (by kernel_rfl) (fun w' H1 => hK _ _ ?_)) | (refine op_buildSlice_all _ _ _ rfl (by first | exact elem25 | exact elem32 | exact elem35 | exact elem36 | exact elem37 | exact elem38 | exact elem41 | exact elem42 | exact elem45 | exact elem57 | exact elem62 | exact elem74 | exact elem98 | exact elem100 | exact elem137 | exact elem178 | exact elem179) (by kernel_rfl) (by kernel_rfl) (by kernel_rfl) H (fun b w' H1 => hK _ _ ?_))); clear hK K; replace H := H1; clear H1)); (try clear hc); (try simp only [nrm, splice, Value.cells, Nat.reduceAdd, Act.eval, Act.put] at H); have hc := H.cells; simp only [CellsOf, KnCells, knc, Nat.reduceAdd] at hc))) | go_values | go_skip | go_guarded | go_step | go_upon | go_back | dsimp only)
            go_ret
            exact pg_no H.ext
          · have hc := H.cells; simp only [CellsOf, KnCells, knc, Nat.reduceAdd] at hc
            repeat' (first | (go_big_may; (first
    | ((first
        | (refine loud_ rfl ?_; refine wpList_plain rfl (fun K hK => ?_); (first | (refine op_box _ _ rfl H (fun b w' H1 => hK _ _ ?_)) | (refine op_alloc _ rfl (zero_of _ _ rfl) H (fun b w' H1 => hK _ _ ?_)) | (refine op_store _ _ _ rfl rfl rfl H (by repeat (first | exact Split.here _ _ | apply Split.there)) (by kernel_rfl) (by kernel_rfl) (by kernel_rfl) (fun w' H1 => hK _ _ ?_)) | (refine op_buildSlice_all _ _ _ rfl (by first | exact elem25 | exact elem32 | exact elem35 | exact elem36 | exact elem37 | exact elem38 | exact elem41 | exact elem42 | exact elem45 | exact elem57 | exact elem62 | exact elem74 | exact elem98 | exact elem100 | exact elem137 | exact elem178 | exact elem179) (by kernel_rfl) (by kernel_rfl) (by kernel_rfl) H (fun b w' H1 => hK _ _ ?_))); clear hK K; replace H := H1; clear H1)); (try clear hc); (try simp only [nrm, splice, Value.cells, Nat.reduceAdd, Act.eval, Act.put] at H); have hc := H.cells; simp only [CellsOf, KnCells, knc, Nat.reduceAdd] at hc))) | go_values | go_skip | go_guarded | go_step | go_upon | go_back | dsimp only)
            refine ⟨⟨k + 1, by omega, by go_num, ?_, H.sel (by repeat (first | exact Sel.nil _ | (apply Sel.cons; focus (repeat (first | exact Split.here _ _ | apply Split.there)))))⟩, by simp [intOf]; omega⟩
            intro q hq2
            rw [hcat2.out] at hq2
            rcases List.mem_append.1 hq2 with hq2 | hq2
            · exact hq.out q hq2
            · simp only [List.mem_singleton] at hq2
              subst hq2
              exact fun h => e4 h.symm
        · obtain rfl : k = j := by omega
          have hc := H.cells; simp only [CellsOf, KnCells, knc, Nat.reduceAdd] at hc
          repeat' (first | (go_big_may; (first
    | ((first
        | (refine loud_ rfl ?_; refine wpList_plain rfl (fun K hK => ?_); (first | (refine op_box _ _ rfl H (fun b w' H1 => hK _ _ ?_)) | (refine op_alloc _ rfl (zero_of _ _ rfl) H (fun b w' H1 => hK _ _ ?_)) | (refine op_store _ _ _ rfl rfl rfl H (by repeat (first | exact Split.here _ _ | apply Split.there)) (by kernel_rfl) (by kernel_rfl) (by kernel_rfl) (fun w' H1 => hK _ _ ?_)) | (refine op_buildSlice_all _ _ _ rfl (by first | exact elem25 | exact elem32 | exact elem35 | exact elem36 | exact elem37 | exact elem38 | exact elem41 | exact elem42 | exact elem45 | exact elem57 | exact elem62 | exact elem74 | exact elem98 | exact elem100 | exact elem137 | exact elem178 | exact elem179) (by kernel_rfl) (by kernel_rfl) (by kernel_rfl) H (fun b w' H1 => hK _ _ ?_))); clear hK K; replace H := H1; clear H1)); (try clear hc); (try simp only [nrm, splice, Value.cells, Nat.reduceAdd, Act.eval, Act.put] at H); have hc := H.cells; simp only [CellsOf, KnCells, knc, Nat.reduceAdd] at hc))) | go_values | go_skip | go_guarded | go_step | go_upon | go_back | dsimp only)
          refine ⟨⟨k + 1, by omega, by go_num, ?_, H.sel (by repeat (first | exact Sel.nil _ | (apply Sel.cons; focus (repeat (first | exact Split.here _ _ | apply Split.there)))))⟩, by simp [intOf]; omega⟩
          unfold PgTo
          rw [hcat.out]
          refine ⟨?_, ?_⟩
          · intro p hp
            rcases List.mem_append.1 hp with hp | hp
            · exact hlk.out.1 p hp
            · simp only [List.mem_singleton] at hp
              subst hp
              exact e1'.out
          · rw [List.map_append, List.nodup_append]
            refine ⟨hlk.out.2, by simp, ?_⟩
            intro a ha b hb e
            simp only [List.map_cons, List.map_nil, List.mem_singleton] at hb
            obtain ⟨q, hq3, rfl⟩ := List.mem_map.1 ha
            exact hq.out q hq3 (e.trans hb)
    · obtain rfl : j = n := by omega
      unfold PgTo at hlk
      rw [List.take_of_length_le (by rw [hn.out]; omega)] at hlk
      by_cases e1 : (j : Int) ≤ 12
      · have hc := H.cells; simp only [CellsOf, KnCells, knc, Nat.reduceAdd] at hc
        repeat' (first | (go_big_may; (first
    | ((first
        | (refine loud_ rfl ?_; refine wpList_plain rfl (fun K hK => ?_); (first | (refine op_box _ _ rfl H (fun b w' H1 => hK _ _ ?_)) | (refine op_alloc _ rfl (zero_of _ _ rfl) H (fun b w' H1 => hK _ _ ?_)) | (refine op_store _ _ _ rfl rfl rfl H (by repeat (first | exact Split.here _ _ | apply Split.there)) (by kernel_rfl) (by kernel_rfl) (by kernel_rfl) (fun w' H1 => hK _ _ ?_)) | (refine op_buildSlice_all _ _ _ rfl (by first | exact elem25 | exact elem32 | exact elem35 | exact elem36 | exact elem37 | exact elem38 | exact elem41 | exact elem42 | exact elem45 | exact elem57 | exact elem62 | exact elem74 | exact elem98 | exact elem100 | exact elem137 | exact elem178 | exact elem179) (by kernel_rfl) (by kernel_rfl) (by kernel_rfl) H (fun b w' H1 => hK _ _ ?_))); clear hK K; replace H := H1; clear H1)); (try clear hc); (try simp only [nrm, splice, Value.cells, Nat.reduceAdd, Act.eval, Act.put] at H); have hc := H.cells; simp only [CellsOf, KnCells, knc, Nat.reduceAdd] at hc))) | go_values | go_skip | go_guarded | go_step | go_upon | go_back | dsimp only)
        go_ret
        exact ⟨_, rfl, H.ext, fun _ => ⟨by rw [hn.out]; omega, hlk.out.1, hlk.out.2⟩⟩
      · have hc := H.cells; simp only [CellsOf, KnCells, knc, Nat.reduceAdd] at hc
        repeat' (first | (go_big_may; (first
    | ((first
        | (refine loud_ rfl ?_; refine wpList_plain rfl (fun K hK => ?_); (first | (refine op_box _ _ rfl H (fun b w' H1 => hK _ _ ?_)) | (refine op_alloc _ rfl (zero_of _ _ rfl) H (fun b w' H1 => hK _ _ ?_)) | (refine op_store _ _ _ rfl rfl rfl H (by repeat (first | exact Split.here _ _ | apply Split.there)) (by kernel_rfl) (by kernel_rfl) (by kernel_rfl) (fun w' H1 => hK _ _ ?_)) | (refine op_buildSlice_all _ _ _ rfl (by first | exact elem25 | exact elem32 | exact elem35 | exact elem36 | exact elem37 | exact elem38 | exact elem41 | exact elem42 | exact elem45 | exact elem57 | exact elem62 | exact elem74 | exact elem98 | exact elem100 | exact elem137 | exact elem178 | exact elem179) (by kernel_rfl) (by kernel_rfl) (by kernel_rfl) H (fun b w' H1 => hK _ _ ?_))); clear hK K; replace H := H1; clear H1)); (try clear hc); (try simp only [nrm, splice, Value.cells, Nat.reduceAdd, Act.eval, Act.put] at H); have hc := H.cells; simp only [CellsOf, KnCells, knc, Nat.reduceAdd] at hc))) | go_values | go_skip | go_guarded | go_step | go_upon | go_back | dsimp only)
        go_ret
        exact ⟨_, rfl, H.ext, fun h => by simp at h⟩
end Go.Proofs.Ytelddhcggmfloaa
