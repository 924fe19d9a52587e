import Derived.Test.YtikaldcoakpfoaaGreatDoorSetC
import Derived.Test.YtikaldcoakpfoaaGreatDoorCpuD
import Derived.Shelf.GgSortMore.SortSort
import Derived.Deep.QuietTactic
import Derived.RegionTactic
import Derived.Deep.DeepCutAuto
-- MORE
-- SUB2
namespace Go.Proofs.YtikaldcoakpfoaaGreatDoor
set_option linter.unusedVariables false
set_option linter.unusedSimpArgs false
set_option linter.unnecessarySimpa false
open Go Go.Shelf Go.RowKit Go.V Go.Lib Go.Sort

abbrev SsT : TypeId := 54
theorem elemSs : Elem Tryz.prog SsT 3 1 8 (.int .i64 0) := ⟨Tryz.underlying54, by kernel_rfl, rfl⟩
theorem ssLen_reached (p : Option Addr) (n c : Nat) : Reaches Tryz.prog SsT (.slice p n c) "Len" 143 := ⟨fun _ => by kernel_rfl, enters_of Tryz.func143 (by kernel_rfl) rfl⟩
theorem ssLess_reached (p : Option Addr) (n c : Nat) : Reaches Tryz.prog SsT (.slice p n c) "Less" 144 := ⟨fun _ => by kernel_rfl, enters_of Tryz.func144 (by kernel_rfl) rfl⟩
theorem ssSwap_reached (p : Option Addr) (n c : Nat) : Reaches Tryz.prog SsT (.slice p n c) "Swap" 145 := ⟨fun _ => by kernel_rfl, enters_of Tryz.func145 (by kernel_rfl) rfl⟩
theorem ss_Len (p : Option Addr) (n c : Nat) (W : World) : LenM Tryz.prog 143 (.slice p n c) n W := by
  unfold LenM
  go_enter Tryz.func143, Tryz.ntmps143
  go_wp2
  go_ret
  exact ⟨rfl, 0, rfl⟩
set_option maxHeartbeats 2000000 in
theorem ss_Less (blk off c size : Nat) (W : World) (G : Nat → Int) (hc : ∀ t, t < size → W.cell? ⟨blk, off + t, none⟩ = some (.int .i64 (G t))) (i j : Nat) (hi : i < size) (hj : j < size) (_hsz : size < 4611686018427387904) :
    Calls Tryz.prog 144 #[.slice (some ⟨blk, off, none⟩) size c, .int .i64 i, .int .i64 j] W fun e w' => e = .returned (.bool (decide (G i < G j))) ∧ ∃ q, w' = W.drewN q := by
  have ci := hc i hi
  have cj := hc j hj
  go_enter Tryz.func144, Tryz.ntmps144
  go_wp2
  go_quiet (fail)
  go_wp2
  go_ret
  exact ⟨rfl, nq, rfl⟩
set_option maxHeartbeats 2000000 in
theorem ss_Swap (blk off c size : Nat) (W : World) (x y : Int) (i j : Nat) (hi : i < size) (hj : j < size) (_hsz : size < 4611686018427387904)
    (ci : W.cell? ⟨blk, off + i, none⟩ = some (.int .i64 x)) (cj : W.cell? ⟨blk, off + j, none⟩ = some (.int .i64 y)) (fi : W.frozen? ⟨blk, off + i, none⟩ = false) (fj : W.frozen? ⟨blk, off + j, none⟩ = false) :
    Calls Tryz.prog 145 #[.slice (some ⟨blk, off, none⟩) size c, .int .i64 i, .int .i64 j] W fun e w' => e = .returned (.tuple #[]) ∧ ∃ q, w' = ((W.setCell ⟨blk, off + i, none⟩ (.int .i64 y)).setCell ⟨blk, off + j, none⟩ (.int .i64 x)).drewN q := by
  obtain ⟨v', hy'⟩ := cell?_setCell_some (w := W) (p := ⟨blk, off + i, none⟩) (x := .int .i64 y) (q := ⟨blk, off + j, none⟩) cj
  go_enter Tryz.func145, Tryz.ntmps145
  go_wp2
  go_region
  all_goals (try go_wp2)
  all_goals go_end0
  all_goals exact ⟨rfl, 1, rfl⟩
theorem ss_LessM (blk off c : Nat) (d : Array Int) (w : World) (hH : Holds (Value.int .i64) w blk off d) (hblk : blk < w.heap.size) (hsz : d.size < 4611686018427387904) :
    LessM Tryz.prog 144 (.slice (some ⟨blk, off, none⟩) d.size c) (Value.int .i64) ltInt blk off d.size w := fun m os dk hs i j hi hj =>
  ss_Less blk off c d.size _ (fun t => dk[t]!) (fun t ht => ((holds_sortWorld (Value.int .i64) w blk off m d dk os hblk hH hs) t (by omega)).1) i j hi hj hsz
theorem ss_SwapM (blk off c size : Nat) (hsz : size < 4611686018427387904) : SwapM Tryz.prog 145 (.slice (some ⟨blk, off, none⟩) size c) (Value.int .i64) blk off size := fun W dk hH hs i j hi hj =>
  ss_Swap blk off c size W dk[i]! dk[j]! i j hi hj hsz (hH i (by omega)).1 (hH j (by omega)).1 (hH i (by omega)).2 (hH j (by omega)).2
theorem sortI_of_in {zs : List Int} {d' : Array Int} (hp : PermIn 0 zs.toArray.size zs.toArray d') (hs : SortedIn ltInt 0 zs.toArray.size d') : d' = (sortI zs).toArray := by
  have := sorted_unique_holds (lt := ltInt) swo_ltInt (by intro x y h1 h2; unfold ltInt at h1 h2; simp at h1 h2; omega) zs.toArray d' hp hs
  apply Array.toList_inj.1
  rw [this]
  unfold sortI
  simp only
  congr 1
  funext x y
  unfold ltInt
  rw [Bool.eq_iff_iff]
  simp
/-- sort.Sort of a row. -/
theorem ssort_calls (S : List Nat) (key : Option Nat) (n cap : Nat) (zs : List Int) (hn : Hid (n = zs.length)) (hnn : n ≤ 1000000000) (w : World) (H : St S w w [(true, .row key 3 1 n cap (intsN zs))]) :
    Calls Tryz.prog 41 #[.iface SsT (sl key n cap)] w fun e w' => e = .returned (.tuple #[]) ∧ St S w w' [(true, .row key 3 1 n cap (intsN (sortI zs)))] := by
  have hn' := hn.out
  subst hn'
  by_cases h1 : zs.length ≤ 1
  · refine (Tryz.sort_Sort_tiny (α := Int) SsT (sl key zs.length cap) 143 (ssLen_reached _ _ _) zs.length h1 w (ss_Len _ _ _ _)).mono ?_
    rintro e w' ⟨rfl, q, rfl⟩
    refine ⟨rfl, ?_⟩
    have e : sortI zs = zs := by
      match zs, h1 with
      | [], _ => simp [sortI]
      | [z], _ => simp [sortI]
    rw [e]
    exact H.drewN q
  · obtain ⟨kb, rfl⟩ := row_some (H.get (Split.here _ _)) (by omega)
    have hH := row_Holds (Value.int .i64) (H.get (Split.here _ _))
    have hb : kb < w.heap.size := H.lt (Split.here _ _).mem (by simp [Kn.fp])
    have hsz : zs.toArray.size < 4611686018427387904 := by simp; omega
    refine (Tryz.sort_Sort_sorted SsT (.slice (some ⟨kb, 0, none⟩) zs.toArray.size cap) 143 144 145 (ssLen_reached _ _ _) (ssLess_reached _ _ _) (ssSwap_reached _ _ _) (Value.int .i64) ltInt swo_ltInt kb 0 zs.toArray (by simp; omega) hsz w (ss_Len _ _ _ _) (ss_LessM kb 0 cap zs.toArray w hH hb hsz) (ss_SwapM kb 0 cap zs.toArray.size hsz) hH hb).mono ?_
    rintro e w' ⟨rfl, d', q, os, hp, hs, rfl⟩
    rw [sortI_of_in hp hs]
    exact ⟨rfl, H.sorted (Value.int .i64) (ys := sortI zs) q os (Split.here _ _) (sortI_len _)⟩
def AtSl (w : World) (m r clock : Nat) (es : Array MapEntry) (b : Value) (wr : World) : Prop := ∃ (key : Option Nat) (n cap : Nat) (seen : Array Nat) (gs : List MapEntry) (vs : List Value), b = sl key n cap ∧ Hid (SeenIs es seen gs) ∧ Hid (vs = gs.map (·.key) ∧ n = gs.length) ∧ n ≤ es.size ∧
  St [] w wr [(true, .row key 3 1 n cap vs), (true, .is r (.mapIter (some m) clock seen clock)), (false, .is m (.map es clock))]
set_option maxHeartbeats 800000 in
set_option maxRecDepth 8000 in
theorem slist_calls (m clock : Nat) (es : Array MapEntry) (l : List Int) (hl : Hid (SetI es clock l)) (hln : l.length ≤ 100000000) (w : World) (H : St [] w w [(false, .is m (.map es clock))]) :
    Calls Tryz.prog 15 #[.map (some m)] w fun e w' => ∃ key n cap, Hid (n = (sortI l).length) ∧ e = .returned (sl key n cap) ∧ St [] w w' [(true, .row key 3 1 n cap (intsN (sortI l)))] := by
  have hes : l.length ≤ 100000000 := hln
  have hsz : Hid (es.size = l.length) := setM_size hl.out
  go_enter Tryz.func15, Tryz.ntmps15
  repeat' (first | (go_big_may; (first
    | go_skip
    | (refine wpList_plain rfl (fun K hK => ?_); (refine op_range _ _ _ _ rfl setU (es := es) (clock := clock) rfl H (H.obj (b := m) (by repeat (first | exact Split.here _ _ | apply Split.there))) (fun r w' H1 => hK _ _ ?_); clear hK K; replace H := H1; clear H1; (try clear hc); (try simp only [nrm, splice, Value.cells, Nat.reduceAdd, Act.eval, Act.put] at H); have hc := H.cells; simp only [CellsOf, KnCells, knc, Nat.reduceAdd] at hc))
    | ((first
        | (go_at_call 40; refine Calls.mono (slen_calls m clock es l hl _ (H.obj (b := m) (by repeat (first | exact Split.here _ _ | apply Split.there)))) ?_; rintro e w' ⟨rfl, H'⟩; replace H := H.of_ext H'; clear H')
        | (refine loud_ rfl ?_; refine wpList_plain rfl (fun K hK => ?_); (first | (refine op_make0 _ _ _ rfl elemSs rfl rfl H (by omega) (by unfold maxLen; omega) (fun kb w' H1 => hK _ _ ?_)) | (refine op_box _ _ rfl H (fun b w' H1 => hK _ _ ?_)) | (refine op_alloc _ rfl (zero_of _ _ rfl) H (fun b w' H1 => hK _ _ ?_)) | (refine op_store _ _ _ rfl rfl rfl H (by repeat (first | exact Split.here _ _ | apply Split.there)) (by kernel_rfl) (by kernel_rfl) (by kernel_rfl) (fun w' H1 => hK _ _ ?_)) | (refine op_buildSlice_all _ _ _ rfl (by first | exact elem22 | exact elem60 | exact elem66 | exact elem72 | exact elem74) (by kernel_rfl) (by kernel_rfl) (by kernel_rfl) H (fun b w' H1 => hK _ _ ?_))); clear hK K; replace H := H1; clear H1)); (try clear hc); (try simp only [nrm, splice, Value.cells, Nat.reduceAdd, Act.eval, Act.put] at H); have hc := H.cells; simp only [CellsOf, KnCells, knc, Nat.reduceAdd] at hc))) | go_values | go_skip | go_guarded | go_step | go_upon | go_back | dsimp only)
  (try simp only [Act.put, slt])
  have hA0 : AtSl w m r clock es (sl (some kb) 0 l.length) w' := ⟨some kb, 0, l.length, #[], [], [], rfl, seen_nil _, ⟨rfl, rfl⟩, Nat.zero_le _, H.sel (by repeat (first | exact Sel.nil _ | (apply Sel.cons; focus (repeat (first | exact Split.here _ _ | apply Split.there)))))⟩
  clear H hc
  go_loopw [3] (AtSl w m r clock es) (fun _ wr => wr.rangeLeft m r)
  case atStart => exact hA0
  case round =>
    clear hA0
    obtain ⟨key, n, cap, seen, gs, vs, rfl, hs, hv, hn, H⟩ := hrel
    rw [hsz.out] at hn
    have hleft := Lib.hid (range_left (H.obj (b := m) (by repeat (first | exact Split.here _ _ | apply Split.there))) (H.obj (b := r) (by repeat (first | exact Split.here _ _ | apply Split.there))))
    have hborn := hl.out.2.1
    have hnd := hl.out.2.2.1
    have hkeys := Lib.hid (setM_keys hl.out)
    by_cases hlf : (leftOf es seen).size = 0
    · have hall := Lib.hid (keyIn_all hkeys.out (seen_all hs.out hlf hnd))
      have hgl := Lib.hid (seen_all hs.out hlf hnd).length_eq
      have hc := H.cells; simp only [CellsOf, KnCells, knc, Nat.reduceAdd] at hc
      repeat' (first | (go_big_may; (first
    | go_skip
    | (refine wpList_plain rfl (fun K hK => ?_); refine op_next_done _ rfl rfl H (by repeat (first | exact Split.here _ _ | apply Split.there)) (H.obj (by repeat (first | exact Split.here _ _ | apply Split.there))) hborn (Nat.le_refl _) hlf (hK _ _ ?_); clear hK K)
    | ((first
        | (refine loud_ rfl ?_; refine wpList_plain rfl (fun K hK => ?_); (first | (refine op_box _ _ rfl H (fun b w' H1 => hK _ _ ?_)) | (refine op_alloc _ rfl (zero_of _ _ rfl) H (fun b w' H1 => hK _ _ ?_)) | (refine op_store _ _ _ rfl rfl rfl H (by repeat (first | exact Split.here _ _ | apply Split.there)) (by kernel_rfl) (by kernel_rfl) (by kernel_rfl) (fun w' H1 => hK _ _ ?_)) | (refine op_buildSlice_all _ _ _ rfl (by first | exact elem22 | exact elem60 | exact elem66 | exact elem72 | exact elem74) (by kernel_rfl) (by kernel_rfl) (by kernel_rfl) H (fun b w' H1 => hK _ _ ?_))); clear hK K; replace H := H1; clear H1)); (try clear hc); (try simp only [nrm, splice, Value.cells, Nat.reduceAdd, Act.eval, Act.put] at H); have hc := H.cells; simp only [CellsOf, KnCells, knc, Nat.reduceAdd] at hc))) | go_values | go_skip | go_guarded | go_step | go_upon | go_back | dsimp only)
      obtain ⟨zs, hz1, hz2⟩ := ints_perm hkeys.out (seen_all hs.out hlf hnd)
      have hvv := hv.out.1
      rw [hz1] at hvv
      subst hvv
      have hfin : Hid (n = zs.length) := by
        have h1 := congrArg List.length hz1
        rw [List.length_map, intsN_len] at h1
        show n = _
        rw [hv.out.2, h1]
      have hfin2 : Hid (sortI zs = sortI l ∧ n = (sortI l).length) := by
        refine ⟨sortI_of_perm hz2, ?_⟩
        rw [sortI_len, ← hz2.length_eq]
        exact hfin.out
      replace hz1 := Lib.hid hz1
      replace hz2 := Lib.hid hz2
      go_at_call 41
      refine Calls.mono (ssort_calls _ key n cap zs hfin (by omega) _ (H.pick (by repeat (first | exact Picks.nil _ | (apply Picks.wr; focus (repeat (first | exact Split.here _ _ | apply Split.there))) | (apply Picks.rd; focus (repeat (first | exact Split.here _ _ | apply Split.there))))))) ?_
      rintro e9 w' ⟨rfl, H'⟩
      replace H := H.merge (by first | exact Strikes.nil _ | (repeat (first | exact Strikes.nil _ | (apply Strikes.cons; focus (repeat (first | exact Split.here _ _ | apply Split.there)))))) H' rfl
      clear H'
      (try clear hc)
      (try simp only [nrm, splice, Value.cells, Nat.reduceAdd, Act.eval, Act.put] at H); have hc := H.cells; simp only [CellsOf, KnCells, knc, Nat.reduceAdd] at hc
      rw [hfin2.out.1] at H
      repeat' (first | (go_big_may; (first
    | ((first
        | (refine loud_ rfl ?_; refine wpList_plain rfl (fun K hK => ?_); (first | (refine op_box _ _ rfl H (fun b w' H1 => hK _ _ ?_)) | (refine op_alloc _ rfl (zero_of _ _ rfl) H (fun b w' H1 => hK _ _ ?_)) | (refine op_store _ _ _ rfl rfl rfl H (by repeat (first | exact Split.here _ _ | apply Split.there)) (by kernel_rfl) (by kernel_rfl) (by kernel_rfl) (fun w' H1 => hK _ _ ?_)) | (refine op_buildSlice_all _ _ _ rfl (by first | exact elem22 | exact elem60 | exact elem66 | exact elem72 | exact elem74) (by kernel_rfl) (by kernel_rfl) (by kernel_rfl) H (fun b w' H1 => hK _ _ ?_))); clear hK K; replace H := H1; clear H1)); (try clear hc); (try simp only [nrm, splice, Value.cells, Nat.reduceAdd, Act.eval, Act.put] at H); have hc := H.cells; simp only [CellsOf, KnCells, knc, Nat.reduceAdd] at hc))) | go_values | go_skip | go_guarded | go_step | go_upon | go_back | dsimp only)
      go_ret
      exact ⟨key, n, cap, hfin2.out.2, rfl, H.top1⟩
    · have hc := H.cells; simp only [CellsOf, KnCells, knc, Nat.reduceAdd] at hc
      go_upto_region 4 with (first
    | go_skip
    | (refine wpList_plain rfl (fun K hK => ?_); (refine op_next_more _ rfl rfl H (by repeat (first | exact Split.here _ _ | apply Split.there)) (H.obj (by repeat (first | exact Split.here _ _ | apply Split.there))) hborn (Nat.le_refl _) hlf (fun en w' he H1 => hK _ _ ?_); clear hK K; replace H := H1; clear H1; (try clear hc); (try simp only [nrm, splice, Value.cells, Nat.reduceAdd, Act.eval, Act.put] at H); have hc := H.cells; simp only [CellsOf, KnCells, knc, Nat.reduceAdd] at hc))
    | ((first
        | (refine loud_ rfl ?_; refine wpList_plain rfl (fun K hK => ?_); (first | (refine op_box _ _ rfl H (fun b w' H1 => hK _ _ ?_)) | (refine op_alloc _ rfl (zero_of _ _ rfl) H (fun b w' H1 => hK _ _ ?_)) | (refine op_store _ _ _ rfl rfl rfl H (by repeat (first | exact Split.here _ _ | apply Split.there)) (by kernel_rfl) (by kernel_rfl) (by kernel_rfl) (fun w' H1 => hK _ _ ?_)) | (refine op_buildSlice_all _ _ _ rfl (by first | exact elem22 | exact elem60 | exact elem66 | exact elem72 | exact elem74) (by kernel_rfl) (by kernel_rfl) (by kernel_rfl) H (fun b w' H1 => hK _ _ ?_))); clear hK K; replace H := H1; clear H1)); (try clear hc); (try simp only [nrm, splice, Value.cells, Nat.reduceAdd, Act.eval, Act.put] at H); have hc := H.cells; simp only [CellsOf, KnCells, knc, Nat.reduceAdd] at hc))
      have hlt := Lib.hid (left_shrinks es seen en he)
      have hsp := Lib.hid (seen_push hs.out he)
      have hmem := Lib.hid (mem_left he).1
      obtain ⟨sk, hsk⟩ : ∃ k, en.key = ki k := by
        have : en.key ∈ es.toList.map (·.key) := List.mem_map.2 ⟨en, hmem.out, rfl⟩
        rw [hkeys.out] at this
        obtain ⟨k, _, hk⟩ := List.mem_map.1 this
        exact ⟨k, hk.symm⟩
      clear he
      obtain ⟨ky, vl, bo⟩ := en
      simp only at hsk
      subst hsk
      have hle := seen_len hsp.out
      have hl9 : Hid (n + 1 ≤ es.size ∧ vs ++ [ki sk] = (gs ++ [(⟨ki sk, vl, bo⟩ : MapEntry)]).map (·.key) ∧ n + 1 = (gs ++ [(⟨ki sk, vl, bo⟩ : MapEntry)]).length) := by
        rw [List.length_append] at hle
        have := hv.out.2
        refine ⟨by simp at hle; omega, by rw [hv.out.1]; simp, by simp; omega⟩
      clear hle
      have hnum : n + 1 ≤ 100000001 := by omega
      have hc := H.cells; simp only [CellsOf, KnCells, knc, Nat.reduceAdd] at hc
      repeat' (first | (go_big_may; (first
    | go_skip
    | (refine wpList_plain rfl (fun K hK => ?_); refine op_entry _ rfl rfl H (by repeat (first | exact Split.here _ _ | apply Split.there)) (H.obj (by repeat (first | exact Split.here _ _ | apply Split.there))) hmem.out hnd (hK _ _ ?_); clear hK K)
    | ((first
        | (refine loud_ rfl ?_; refine wpList_plain rfl (fun K hK => ?_); (first | (refine op_buildSlice_all _ _ _ rfl elemSs (by kernel_rfl) (by kernel_rfl) (by kernel_rfl) H (fun b w' H1 => hK _ _ ?_)) | (refine op_append_lit _ _ _ rfl elemSs rfl rfl H (by repeat (first | exact Split.here _ _ | apply Split.there)) (by repeat (first | exact Split.here _ _ | apply Split.there)) (by kernel_rfl) (by kernel_rfl) (by omega) (by unfold maxLen; omega) (fun key cap' w' H1 => hK _ _ ?_)) | (refine op_box _ _ rfl H (fun b w' H1 => hK _ _ ?_)) | (refine op_alloc _ rfl (zero_of _ _ rfl) H (fun b w' H1 => hK _ _ ?_)) | (refine op_store _ _ _ rfl rfl rfl H (by repeat (first | exact Split.here _ _ | apply Split.there)) (by kernel_rfl) (by kernel_rfl) (by kernel_rfl) (fun w' H1 => hK _ _ ?_)) | (refine op_buildSlice_all _ _ _ rfl (by first | exact elem22 | exact elem60 | exact elem66 | exact elem72 | exact elem74) (by kernel_rfl) (by kernel_rfl) (by kernel_rfl) H (fun b w' H1 => hK _ _ ?_))); clear hK K; replace H := H1; clear H1)); (try clear hc); (try simp only [nrm, splice, Value.cells, Nat.reduceAdd, Act.eval, Act.put] at H); have hc := H.cells; simp only [CellsOf, KnCells, knc, Nat.reduceAdd] at hc))) | go_values | go_skip | go_guarded | go_step | go_upon | go_back | dsimp only)
      exact ⟨⟨key, n + 1, cap', _, _, _, rfl, hsp.out, ⟨hl9.out.2.1, hl9.out.2.2⟩, hl9.out.1, H.sel (by repeat (first | exact Sel.nil _ | (apply Sel.cons; focus (repeat (first | exact Split.here _ _ | apply Split.there)))))⟩, by have hleft2 := range_left (H.obj (b := m) (by repeat (first | exact Split.here _ _ | apply Split.there))) (H.obj (b := r) (by repeat (first | exact Split.here _ _ | apply Split.there))); rw [hleft2, hleft.out]; exact hlt.out⟩
end Go.Proofs.YtikaldcoakpfoaaGreatDoor
