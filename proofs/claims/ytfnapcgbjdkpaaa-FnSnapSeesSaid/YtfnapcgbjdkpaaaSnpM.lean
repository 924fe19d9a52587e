import Derived.Test.YtfnapcgbjdkpaaaSnpL
-- MORE
-- SUB2
namespace Go.Proofs.Ytfnapcgbjdkpaaa
set_option linter.unusedVariables false
set_option linter.unusedSimpArgs false
set_option linter.unnecessarySimpa false
open Go Go.RowKit Go.V Go.Lib Go.Sort

/-- A map's entries, with these keys. -/
def Keys (es : Array MapEntry) (clock : Nat) (ks : List (List UInt8)) : Prop := es.toList.map (·.key) = ks.map encStr ∧ (∀ e ∈ es.toList, e.born < clock) ∧ (es.toList.map (·.born)).Nodup
def AtNames (w : World) (fo m r clock : Nat) (es : Array MapEntry) (b : Value) (wr : World) : Prop := ∃ (key : Option Nat) (n cap : Nat) (seen : Array Nat) (gs : List MapEntry) (vs : List Value), b = sl key n cap ∧ Hid (SeenIs es seen gs ∧ vs = gs.map (·.key) ∧ n = gs.length) ∧ n ≤ es.size ∧
  St [] w wr [(true, .row key 9 1 n cap vs), (true, .is r (.mapIter (some m) clock seen clock)), (false, .is fo (foldObj m)), (false, .is m (.map es clock))]
def NamesPost (w : World) (ks : List (List UInt8)) (e : Ending) (w' : World) : Prop := ∃ (b n cap : Nat) (gs : List (List UInt8)), Hid (gs.Perm ks ∧ n = ks.length) ∧ e = .returned (.slice (some ⟨b, 0, none⟩) n cap) ∧ St [] w w' [(true, .row (some b) 9 1 n cap ((gs.mergeSort fun x y => decide (x ≤ y)).map encStr))]
theorem one_key {e : MapEntry} {ks : List (List UInt8)} {es : Array MapEntry} (h : es.toList.map (·.key) = ks.map encStr) (he : e ∈ es.toList) : ∃ s : ByteArray, e.key = .string s := by
  have : e.key ∈ es.toList.map (·.key) := List.mem_map.2 ⟨e, he, rfl⟩
  rw [h] at this
  obtain ⟨k, _, hk⟩ := List.mem_map.1 this
  exact ⟨_, hk.symm⟩
def strOf : Value → List UInt8
  | .string s => s.data.toList
  | _ => []
theorem strOf_enc (k : List UInt8) : strOf (encStr k) = k := rfl
theorem names_perm {es : Array MapEntry} {ks : List (List UInt8)} {gs : List MapEntry} (h : es.toList.map (·.key) = ks.map encStr) (hp : gs.Perm es.toList) : ∃ zs : List (List UInt8), gs.map (·.key) = zs.map encStr ∧ zs.Perm ks := by
  refine ⟨gs.map fun e => strOf e.key, ?_, ?_⟩
  · rw [List.map_map]
    apply List.map_congr_left
    intro e he
    obtain ⟨s, hs⟩ := one_key h (hp.mem_iff.1 he)
    simp [hs, strOf]
  · have h1 := (hp.map fun e => strOf e.key)
    have h2 : es.toList.map (fun e => strOf e.key) = ks := by
      have := congrArg (List.map strOf) h
      simpa [List.map_map, Function.comp_def, strOf] using this
    rwa [h2] at h1
set_option maxHeartbeats 400000 in
set_option maxRecDepth 8000 in
theorem names_calls (fo m clock : Nat) (es : Array MapEntry) (ks : List (List UInt8)) (hk : Hid (Keys es clock ks)) (h0 : 0 < es.size) (hsz : es.size ≤ 1000000) (w : World) (H : St [] w w [(false, .is fo (foldObj m)), (false, .is m (.map es clock))]) :
    Calls Try.prog 18 #[.pointer (some ⟨fo, 0, none⟩)] w (NamesPost w ks) := by
  have hc := H.cells; simp only [CellsOf, KnCells, knc, Nat.reduceAdd] at hc
  go_enter Try.func18, Try.ntmps18
  go_wp2_with (first
    | go_skip
    | (refine wpList_plain rfl (fun K hK => ?_); (refine op_range _ _ _ _ rfl Try.underlying55 (es := es) (clock := clock) rfl H (H.obj (by repeat (first | exact Split.here _ _ | apply Split.there))) (fun r w' H1 => hK _ _ ?_); clear hK K; replace H := H1; clear H1; (try clear hc); (try simp only [nrm, splice, Value.cells, Nat.reduceAdd, Act.eval, Act.put] at H); have hc := H.cells; simp only [CellsOf, KnCells, knc, Nat.reduceAdd] at hc))
    | ((first
        | (refine loud_ rfl ?_; refine wpList_plain rfl (fun K hK => ?_); (first | (refine op_box _ _ rfl H (fun b w' H1 => hK _ _ ?_)) | (refine op_alloc _ rfl (zero_of _ _ rfl) H (fun b w' H1 => hK _ _ ?_)) | (refine op_store _ _ _ rfl rfl rfl H (by repeat (first | exact Split.here _ _ | apply Split.there)) (by kernel_rfl) (by kernel_rfl) (by kernel_rfl) (fun w' H1 => hK _ _ ?_)) | (refine op_buildSlice_all _ _ _ rfl (by first | exact elem23 | exact elem34 | exact elem51 | exact elem148) (by kernel_rfl) (by kernel_rfl) (by kernel_rfl) H (fun b w' H1 => hK _ _ ?_))); clear hK K; replace H := H1; clear H1)); (try clear hc); (try simp only [nrm, splice, Value.cells, Nat.reduceAdd, Act.eval, Act.put] at H); have hc := H.cells; simp only [CellsOf, KnCells, knc, Nat.reduceAdd] at hc))
  have hA0 : AtNames w fo m r clock es (.slice none 0 0) w' := ⟨none, 0, 0, #[], [], [], rfl, ⟨seen_nil _, rfl, rfl⟩, Nat.zero_le _, (H.nilRow _ _).sel (by repeat (first | exact Sel.nil _ | (apply Sel.cons; focus (repeat (first | exact Split.here _ _ | apply Split.there)))))⟩
  clear H hc
  (try simp only [Act.put, slt])
  go_loopw [3] (AtNames w fo m r clock es) (fun _ wr => wr.rangeLeft m r)
  case atStart => exact hA0
  case round =>
    clear hA0
    obtain ⟨key, n, cap, seen, gs, vs, rfl, hs, hn, H⟩ := hrel
    have hleft := Lib.hid (range_left (H.obj (b := m) (Split.there _ (Split.there _ (Split.there _ (Split.here _ _))))) (H.obj (b := r) (Split.there _ (Split.here _ _))))
    have hl := hk.out.2.1
    by_cases hlf : (leftOf es seen).size = 0
    · have hc := H.cells; simp only [CellsOf, KnCells, knc, Nat.reduceAdd] at hc
      repeat' (first | (go_big_may; (first
    | go_skip
    | (refine wpList_plain rfl (fun K hK => ?_); refine op_next_done _ rfl rfl H (by repeat (first | exact Split.here _ _ | apply Split.there)) (H.obj (by repeat (first | exact Split.here _ _ | apply Split.there))) hl (Nat.le_refl _) hlf (hK _ _ ?_); clear hK K)
    | ((first
        | (refine loud_ rfl ?_; refine wpList_plain rfl (fun K hK => ?_); (first | (refine op_box _ _ rfl H (fun b w' H1 => hK _ _ ?_)) | (refine op_alloc _ rfl (zero_of _ _ rfl) H (fun b w' H1 => hK _ _ ?_)) | (refine op_store _ _ _ rfl rfl rfl H (by repeat (first | exact Split.here _ _ | apply Split.there)) (by kernel_rfl) (by kernel_rfl) (by kernel_rfl) (fun w' H1 => hK _ _ ?_)) | (refine op_buildSlice_all _ _ _ rfl (by first | exact elem23 | exact elem34 | exact elem51 | exact elem148) (by kernel_rfl) (by kernel_rfl) (by kernel_rfl) H (fun b w' H1 => hK _ _ ?_))); clear hK K; replace H := H1; clear H1)); (try clear hc); (try simp only [nrm, splice, Value.cells, Nat.reduceAdd, Act.eval, Act.put] at H); have hc := H.cells; simp only [CellsOf, KnCells, knc, Nat.reduceAdd] at hc))) | go_values | go_skip | go_guarded | go_step | go_upon | go_back | dsimp only)
      obtain ⟨zs, hz1, hz2⟩ := names_perm hk.out.1 (seen_all hs.out.1 hlf hk.out.2.2)
      have hlen : n = zs.length := by
        have h1 := congrArg List.length hz1
        rw [List.length_map, List.length_map] at h1
        rw [hs.out.2.2, h1]
      have hel : zs.length = es.size := by
        have h1 := (seen_all hs.out.1 hlf hk.out.2.2).length_eq
        rw [← hlen, hs.out.2.2, h1, Array.length_toList]
      have hv := hs.out.2.1
      rw [hz1] at hv
      subst hv
      subst hlen
      obtain ⟨kb, rfl⟩ := row_some (H.get (Split.here _ _)) (by omega)
      refine Calls.mono (Try.sort_Strings kb 0 cap zs _ (row_Holds encStr (H.get (Split.here _ _))) (H.lt (Split.here _ _).mem (by simp [Kn.fp])) (by omega)) ?_
      rintro e w' ⟨rfl, q, os, rfl⟩
      replace H := H.sorted encStr (ys := zs.mergeSort fun x y => decide (x ≤ y)) q os (by repeat (first | exact Split.here _ _ | apply Split.there)) (List.length_mergeSort _)
      (try simp only [nrm, splice, Value.cells, Nat.reduceAdd, Act.eval, Act.put] at H); have hc := H.cells; simp only [CellsOf, KnCells, knc, Nat.reduceAdd] at hc
      have hfin : Hid (zs.Perm ks ∧ zs.length = ks.length) := ⟨hz2, hz2.length_eq⟩
      clear hz1 hz2 hs hl
      repeat' (first | (go_big_may; (first
    | ((first
        | (refine loud_ rfl ?_; refine wpList_plain rfl (fun K hK => ?_); (first | (refine op_box _ _ rfl H (fun b w' H1 => hK _ _ ?_)) | (refine op_alloc _ rfl (zero_of _ _ rfl) H (fun b w' H1 => hK _ _ ?_)) | (refine op_store _ _ _ rfl rfl rfl H (by repeat (first | exact Split.here _ _ | apply Split.there)) (by kernel_rfl) (by kernel_rfl) (by kernel_rfl) (fun w' H1 => hK _ _ ?_)) | (refine op_buildSlice_all _ _ _ rfl (by first | exact elem23 | exact elem34 | exact elem51 | exact elem148) (by kernel_rfl) (by kernel_rfl) (by kernel_rfl) H (fun b w' H1 => hK _ _ ?_))); clear hK K; replace H := H1; clear H1)); (try clear hc); (try simp only [nrm, splice, Value.cells, Nat.reduceAdd, Act.eval, Act.put] at H); have hc := H.cells; simp only [CellsOf, KnCells, knc, Nat.reduceAdd] at hc))) | go_values | go_skip | go_guarded | go_step | go_upon | go_back | dsimp only)
      go_ret
      exact ⟨kb, _, cap, zs, hfin, rfl, H.top1⟩
    · have hnd := hk.out.2.2
      have hc := H.cells; simp only [CellsOf, KnCells, knc, Nat.reduceAdd] at hc
      have hnum : n + 1 ≤ 1000001 := by omega
      go_upto_region 4 with (first
    | go_skip
    | (refine wpList_plain rfl (fun K hK => ?_); (refine op_next_more _ rfl rfl H (by repeat (first | exact Split.here _ _ | apply Split.there)) (H.obj (by repeat (first | exact Split.here _ _ | apply Split.there))) hl (Nat.le_refl _) hlf (fun en w' he H1 => hK _ _ ?_); clear hK K; replace H := H1; clear H1; (try clear hc); (try simp only [nrm, splice, Value.cells, Nat.reduceAdd, Act.eval, Act.put] at H); have hc := H.cells; simp only [CellsOf, KnCells, knc, Nat.reduceAdd] at hc))
    | ((first
        | (refine loud_ rfl ?_; refine wpList_plain rfl (fun K hK => ?_); (first | (refine op_box _ _ rfl H (fun b w' H1 => hK _ _ ?_)) | (refine op_alloc _ rfl (zero_of _ _ rfl) H (fun b w' H1 => hK _ _ ?_)) | (refine op_store _ _ _ rfl rfl rfl H (by repeat (first | exact Split.here _ _ | apply Split.there)) (by kernel_rfl) (by kernel_rfl) (by kernel_rfl) (fun w' H1 => hK _ _ ?_)) | (refine op_buildSlice_all _ _ _ rfl (by first | exact elem23 | exact elem34 | exact elem51 | exact elem148) (by kernel_rfl) (by kernel_rfl) (by kernel_rfl) H (fun b w' H1 => hK _ _ ?_))); clear hK K; replace H := H1; clear H1)); (try clear hc); (try simp only [nrm, splice, Value.cells, Nat.reduceAdd, Act.eval, Act.put] at H); have hc := H.cells; simp only [CellsOf, KnCells, knc, Nat.reduceAdd] at hc))
      have hlt := Lib.hid (left_shrinks es seen en he)
      have hsp := Lib.hid (seen_push hs.out.1 he)
      have hle := seen_len hsp.out
      obtain ⟨sk, hsk⟩ := one_key hk.out.1 (mem_left he).1
      have hmem := Lib.hid (mem_left he).1
      clear he
      obtain ⟨ky, vl, bo⟩ := en
      simp only at hsk
      subst hsk
      have hl9 : Hid (n + 1 ≤ es.size ∧ vs ++ [Value.string sk] = (gs ++ [(⟨.string sk, vl, bo⟩ : MapEntry)]).map (·.key) ∧ n + 1 = (gs ++ [(⟨.string sk, vl, bo⟩ : MapEntry)]).length) := by
        rw [List.length_append] at hle
        have := hs.out.2.2
        refine ⟨by simp at hle; omega, by rw [hs.out.2.1]; simp, by simp; omega⟩
      clear hle
      have hc := H.cells; simp only [CellsOf, KnCells, knc, Nat.reduceAdd] at hc
      repeat' (first | (go_big_may; (first
    | go_skip
    | (refine wpList_plain rfl (fun K hK => ?_); refine op_entry _ rfl rfl H (by repeat (first | exact Split.here _ _ | apply Split.there)) (H.obj (by repeat (first | exact Split.here _ _ | apply Split.there))) hmem.out hnd (hK _ _ ?_); clear hK K)
    | ((first
        | (refine loud_ rfl ?_; refine wpList_plain rfl (fun K hK => ?_); (first | (refine op_append_lit _ _ _ rfl elem51 rfl rfl H (by repeat (first | exact Split.here _ _ | apply Split.there)) (by repeat (first | exact Split.here _ _ | apply Split.there)) (by kernel_rfl) (by kernel_rfl) (by omega) (by unfold maxLen; omega) (fun key cap' w' H1 => hK _ _ ?_)) | (refine op_box _ _ rfl H (fun b w' H1 => hK _ _ ?_)) | (refine op_alloc _ rfl (zero_of _ _ rfl) H (fun b w' H1 => hK _ _ ?_)) | (refine op_store _ _ _ rfl rfl rfl H (by repeat (first | exact Split.here _ _ | apply Split.there)) (by kernel_rfl) (by kernel_rfl) (by kernel_rfl) (fun w' H1 => hK _ _ ?_)) | (refine op_buildSlice_all _ _ _ rfl (by first | exact elem23 | exact elem34 | exact elem51 | exact elem148) (by kernel_rfl) (by kernel_rfl) (by kernel_rfl) H (fun b w' H1 => hK _ _ ?_))); clear hK K; replace H := H1; clear H1)); (try clear hc); (try simp only [nrm, splice, Value.cells, Nat.reduceAdd, Act.eval, Act.put] at H); have hc := H.cells; simp only [CellsOf, KnCells, knc, Nat.reduceAdd] at hc))) | go_values | go_skip | go_guarded | go_step | go_upon | go_back | dsimp only)
      have hleft2 := range_left (H.obj (b := m) (Split.there _ (Split.there _ (Split.there _ (Split.here _ _))))) (H.obj (b := r) (Split.there _ (Split.here _ _)))
      exact ⟨⟨key, n + 1, cap', _, _, _, rfl, ⟨hsp.out, hl9.out.2.1, hl9.out.2.2⟩, hl9.out.1, H⟩, by rw [hleft2, hleft.out]; exact hlt.out⟩
end Go.Proofs.Ytfnapcgbjdkpaaa
