import Derived.Test.YtdcijhdjddiboaaDoorVerM
import Derived.Maps.Range
import Derived.Deep.DeepCutAuto
-- MORE
namespace Go.Proofs.YtdcijhdjddiboaaDoor
set_option linter.unusedVariables false
set_option linter.unusedSimpArgs false
set_option linter.unnecessarySimpa false
open Go.RowKit Go.V

/-- The texts ts read as os. -/
def Reads (ts : List ByteArray) (os : List (Option Vr)) : Prop := os.length = ts.length ∧ ∀ (i : Nat) (t : ByteArray), ts[i]? = some t → ∃ x, os[i]? = some x ∧ VOpt t x
theorem memAt_entry {bs : List Nat} {ts : List ByteArray} {es : Array MapEntry} {w : World} (h : MemAt bs ts es w) {e : MapEntry} (he : e ∈ es.toList) :
    ∃ i t, ts[i]? = some t ∧ es[i]? = some e ∧ e.born = i ∧ MemVal w bs t e.val := by
  obtain ⟨h1, h2⟩ := h
  obtain ⟨i, hi, rfl⟩ := List.mem_iff_getElem.1 he
  simp only [Array.length_toList] at hi
  obtain ⟨v, h3, h4⟩ := h2 i (ts[i]'(by omega)) (by simp)
  have h5 := Array.getElem?_eq_getElem hi
  refine ⟨i, _, List.getElem?_eq_getElem (by omega), by simp, ?_, ?_⟩
  · rw [h5] at h3
    injection h3 with h3
    simp [h3]
  · rw [h5] at h3
    injection h3 with h3
    simpa [h3] using h4
theorem memAt_hold {bs : List Nat} {ts : List ByteArray} {es : Array MapEntry} {w : World} (h : MemAt bs ts es w) : ∀ x ∈ es.toList, x.born < ts.length := by
  intro x hx
  obtain ⟨i, t, h1, _, h3, _⟩ := memAt_entry h hx
  have := (List.getElem?_eq_some_iff.1 h1).1
  omega
theorem memAt_nodup {bs : List Nat} {ts : List ByteArray} {es : Array MapEntry} {w : World} (h : MemAt bs ts es w) : (es.toList.map (·.born)).Nodup := by
  have : es.toList.map (·.born) = List.range ts.length := by
    apply List.ext_getElem?
    intro i
    by_cases hi : i < ts.length
    · obtain ⟨v, h3, _⟩ := h.2 i ts[i] (by simp)
      simp [h3, hi]
    · rw [List.getElem?_eq_none (by simp [h.1]; omega), List.getElem?_eq_none (by simp; omega)]
  rw [this]
  exact List.nodup_range
theorem memAt_all {bs : List Nat} {ts : List ByteArray} {es : Array MapEntry} {w : World} (h : MemAt bs ts es w) {seen : Array Nat} (h0 : (leftOf es seen).size = 0) : ∀ i, i < ts.length → i ∈ seen.toList := by
  intro i hi
  obtain ⟨v, h3, _⟩ := h.2 i ts[i] (by simp)
  have hm := List.mem_of_getElem? (l := es.toList) (i := i) (by simpa using h3)
  have h1 := Array.eq_empty_of_size_eq_zero h0
  unfold leftOf at h1
  rw [Array.filter_eq_empty_iff] at h1
  have := h1 _ (by simpa using hm)
  simpa using this

abbrev mon (g : Nat) : Obj := .cells #[.pointer none, .iface 45 (.pointer (some ⟨g, 0, none⟩))] 70 (0, 0)
/-- Every member's version is the target, as far as major and minor go. -/
def okAt (os : List (Option Vr)) (x : Vr) (i : Nat) : Bool := match os[i]? with
  | some (some y) => veq (vbase x) (vbase y)
  | _ => false
def matchAll (os : List (Option Vr)) (x : Vr) : Bool := (List.range os.length).all (okAt os x)
theorem matchAll_no {os : List (Option Vr)} {x : Vr} {i : Nat} (hi : i < os.length) (h : okAt os x i = false) : matchAll os x = false := by
  unfold matchAll
  rw [Bool.eq_false_iff]
  intro hc
  rw [List.all_eq_true] at hc
  have := hc i (List.mem_range.2 hi)
  rw [h] at this
  cases this
theorem matchAll_yes {os : List (Option Vr)} {x : Vr} (h : ∀ i, i < os.length → okAt os x i = true) : matchAll os x = true := by
  unfold matchAll
  rw [List.all_eq_true]
  exact fun i hi => h i (List.mem_range.1 hi)
theorem vopt_empty {t : ByteArray} {ox : Option Vr} (ht : t.size = 0) (h : VOpt t ox) : ox = none := by
  cases ox with
  | none => rfl
  | some y =>
    have h1 := h.2
    have h2 : t.data.toList.length = 0 := by simpa using ht
    rw [h1] at h2
    simp [vtext] at h2
theorem rangeLeft_at {w : World} {m r clock a c : Nat} {es : Array MapEntry} {seen : Array Nat} {q : Option Nat} (h1 : w.heap[m]? = some (.map es clock)) (h2 : w.heap[r]? = some (.mapIter q a seen c)) : w.rangeLeft m r = (leftOf es seen).size := by
  unfold World.rangeLeft
  rw [h1, h2]
theorem equal_at (x y : Vr) (d : Bool) (hd : Hid (veq x y = d)) (w : World) :
    Calls Tryd.prog 53 #[x.val, y.val] w fun e w' => e = .returned (.bool d) ∧ Ext [] w w' := by
  have := equal_calls x y w
  rw [hd.out] at this
  exact this
def MatchR (w : World) (m r bx : Nat) (bs : List Nat) (ts : List ByteArray) (es : Array MapEntry) (os : List (Option Vr)) (x : Vr) (wr : World) : Prop :=
  ∃ seen : Array Nat, (∀ i ∈ seen.toList, okAt os x i = true) ∧ St [] w wr [(true, .is r (.mapIter (some m) ts.length seen ts.length)), (true, .is m (.map es ts.length)), (false, .rep bs (MemAt bs ts es)), (true, .is bx ((vbase x).obj 62)), genv]
set_option maxRecDepth 8000 in
theorem versMatch (p g q : Nat) (d : VD) (o : Vo) (ts : List ByteArray) (os : List (Option Vr)) (hr : Reads ts os) (hn : d.n = ts.length) (hb : ts.length ≤ 1000000) (x : Vr) (w : World)
    (H : St [] w w [(false, .is p (mon g)), (false, .is g (guard d o)), (false, .arr d.at' (strs ts)), (false, .is q (x.obj 62)), genv]) :
    Calls Tryd.prog 51 #[.pointer (some ⟨p, 0, none⟩), .pointer (some ⟨q, 0, none⟩)] w fun e w' => e = .returned (.bool (matchAll os x)) ∧ Ext [] w w' := by
  have hme : ∀ (w : World), (method 256 45 (.pointer (some ⟨g, 0, none⟩)) "GetMembersVersions").run Tryd.prog w = .ok (106, .pointer (some ⟨g, 0, none⟩)) w := fun w => by kernel_rfl
  have hna : ∀ (w : World), (nilAhead 256 45 (.pointer (some ⟨g, 0, none⟩)) "GetMembersVersions").run Tryd.prog w = .ok (some false) w := fun w => by kernel_rfl
  have hr' := Lib.hid hr
  have hb' := Lib.hid hb
  have hn' := Lib.hid hn
  clear hr hb hn
  obtain ⟨x1, x2, x3⟩ := x
  have hc := H.cells; simp only [CellsOf, KnCells, knc, Nat.reduceAdd] at hc
  go_enter Tryd.func51, Tryd.ntmps51
  go_wp2_with (first
    | go_skip
    | ((first
        | (go_at_call 106; refine Calls.mono (gMembers g d o ts hn'.out hb'.out _ (H.pick (by repeat (first | exact Picks.nil _ | (apply Picks.wr; focus (repeat (first | exact Split.here _ _ | apply Split.there))) | (apply Picks.rd; focus (repeat (first | exact Split.here _ _ | apply Split.there))))))) ?_; rintro e w' ⟨m, es, bs, rfl, H'⟩; replace H := H.merge (by first | exact Strikes.nil _ | (repeat (first | exact Strikes.nil _ | (apply Strikes.cons; focus (repeat (first | exact Split.here _ _ | apply Split.there)))))) H' rfl; clear H')
        | (refine loud_ rfl ?_; refine wpList_plain rfl (fun K hK => ?_); (first | (refine op_box _ _ rfl H (fun b w' H1 => hK _ _ ?_)) | (refine op_alloc _ rfl (zero_of _ _ rfl) H (fun b w' H1 => hK _ _ ?_)) | (refine op_store _ _ _ rfl rfl rfl H (by repeat (first | exact Split.here _ _ | apply Split.there)) (by kernel_rfl) (by kernel_rfl) (by kernel_rfl) (fun w' H1 => hK _ _ ?_)) | (refine op_buildSlice_all _ _ _ rfl (by first | exact elem22 | exact elem39 | exact elem76 | exact elem154) (by kernel_rfl) (by kernel_rfl) (by kernel_rfl) H (fun b w' H1 => hK _ _ ?_))); clear hK K; replace H := H1; clear H1)); (try clear hc); (try simp only [nrm, splice, Value.cells, Nat.reduceAdd, Act.eval, Act.put] at H); have hc := H.cells; simp only [CellsOf, KnCells, knc, Nat.reduceAdd] at hc))
  (try simp only [Act.put, slt])
  refine wp_region_plan (.p [0, 1, 2] (.q [3] (.p [4, 5, 6] (.q [7] (.p [8] (.e 9 (.p [10] .done))))))) [9] (by kernel_rfl) (by kernel_rfl) (fun _ _ d _ _ h => by cases d <;> exact h) H ?_
  clear H
  (try clear hc)
  intro X nX fX wd hcf hS H
  simp only [CellsOf, KnCells, knc, Nat.reduceAdd] at hcf
  have hc := H.cells
  simp only [CellsOf, KnCells, knc, Nat.reduceAdd] at hc
  iterate 3 (refine plan_p (o := ⟨_, _, _, _, _, _⟩) rfl (fun N hN => ?_); go_big_quiet_step (fail); refine wpQuiet_nil (hN _ ?_); clear hN N)
  refine plan_p0 ?_
  iterate 1 (refine plan_q (o := ⟨_, _, _, _, _, _⟩) rfl (fun N hN => ?_); go_big_quiet_step (fail); refine wpQuiet_nil (hN _ ?_); clear hN N)
  refine plan_q0 ?_
  iterate 3 (refine plan_p (o := ⟨_, _, _, _, _, _⟩) rfl (fun N hN => ?_); go_big_quiet_step (fail); refine wpQuiet_nil (hN _ ?_); clear hN N)
  refine plan_p0 ?_
  iterate 1 (refine plan_q (o := ⟨_, _, _, _, _, _⟩) rfl (fun N hN => ?_); go_big_quiet_step (fail); refine wpQuiet_nil (hN _ ?_); clear hN N)
  refine plan_q0 ?_
  iterate 1 (refine plan_p (o := ⟨_, _, _, _, _, _⟩) rfl (fun N hN => ?_); go_big_quiet_step (fail); refine wpQuiet_nil (hN _ ?_); clear hN N)
  refine plan_p0 ?_
  refine plan_e (o := ⟨_, _, _, _, _, _⟩) rfl rfl (fun K hK => ?_)
  (first | (refine op_box _ _ rfl H (fun b w' H1 => ?_); replace H := H1; clear H1) | (refine op_alloc _ rfl (zero_of _ _ rfl) H (fun b w' H1 => ?_); replace H := H1; clear H1) | (refine op_store _ _ _ rfl rfl rfl H (by repeat (first | exact Split.here _ _ | apply Split.there)) (by kernel_rfl) (by kernel_rfl) (by kernel_rfl) (fun w' H1 => ?_); replace H := H1; clear H1) | (refine op_buildSlice_all _ _ _ rfl (by first | exact elem22 | exact elem39 | exact elem76 | exact elem154) (by kernel_rfl) (by kernel_rfl) (by kernel_rfl) H (fun b w' H1 => ?_); replace H := H1; clear H1)); (try clear hc); (try simp only [nrm, splice, Value.cells, Nat.reduceAdd, Act.eval, Act.put] at H); have hc := H.cells; simp only [CellsOf, KnCells, knc, Nat.reduceAdd] at hc; refine hK _ _ (fun h => (h (by decide)).elim) ?_; clear hK K; (try simp only [Act.put, slt])
  iterate 1 (refine plan_p (o := ⟨_, _, _, _, _, _⟩) rfl (fun N hN => ?_); go_big_quiet_step (fail); refine wpQuiet_nil (hN _ ?_); clear hN N)
  refine plan_p0 ?_
  refine plan_done ?_
  obtain ⟨bx, rfl⟩ : ∃ q : Nat, q = b := ⟨_, rfl⟩
  go_wp2_with (first
    | go_skip
    | (refine wpList_plain rfl (fun K hK => ?_); (refine op_range _ _ _ _ rfl Tryd.underlying97 (es := es) (clock := ts.length) rfl H (H.obj (by repeat (first | exact Split.here _ _ | apply Split.there))) (fun r w' H1 => hK _ _ ?_); clear hK K; replace H := H1; clear H1; (try clear hc); (try simp only [nrm, splice, Value.cells, Nat.reduceAdd, Act.eval, Act.put] at H); have hc := H.cells; simp only [CellsOf, KnCells, knc, Nat.reduceAdd] at hc))
    | ((first
        | (refine loud_ rfl ?_; refine wpList_plain rfl (fun K hK => ?_); (first | (refine op_box _ _ rfl H (fun b w' H1 => hK _ _ ?_)) | (refine op_alloc _ rfl (zero_of _ _ rfl) H (fun b w' H1 => hK _ _ ?_)) | (refine op_store _ _ _ rfl rfl rfl H (by repeat (first | exact Split.here _ _ | apply Split.there)) (by kernel_rfl) (by kernel_rfl) (by kernel_rfl) (fun w' H1 => hK _ _ ?_)) | (refine op_buildSlice_all _ _ _ rfl (by first | exact elem22 | exact elem39 | exact elem76 | exact elem154) (by kernel_rfl) (by kernel_rfl) (by kernel_rfl) H (fun b w' H1 => hK _ _ ?_))); clear hK K; replace H := H1; clear H1)); (try clear hc); (try simp only [nrm, splice, Value.cells, Nat.reduceAdd, Act.eval, Act.put] at H); have hc := H.cells; simp only [CellsOf, KnCells, knc, Nat.reduceAdd] at hc))
  have hA0 : MatchR w m r bx bs ts es os ⟨x1, x2, x3⟩ w' := ⟨#[], by simp, (H.ro (k := .rep bs _) (by repeat (first | exact Split.here _ _ | apply Split.there))).sel (by repeat (first | exact Sel.nil _ | (apply Sel.cons; focus (repeat (first | exact Split.here _ _ | apply Split.there)))))⟩
  clear H hc
  (try simp only [Act.put, slt])
  go_loopw [] (MatchR w m r bx bs ts es os ⟨x1, x2, x3⟩) (fun wr => wr.rangeLeft m r)
  case atStart => exact hA0
  case round =>
    clear hA0
    obtain ⟨seen, hs, H⟩ := hrel
    have hs' := Lib.hid hs
    clear hs
    have hM := H.rep (R := MemAt bs ts es) (Split.there _ (Split.there _ (Split.here _ _)))
    have hl := memAt_hold hM
    have hleft := Lib.hid (rangeLeft_at (H.obj (b := m) (Split.there _ (Split.here _ _))) (H.obj (b := r) (Split.here _ _)))
    have hnd := Lib.hid (memAt_nodup hM)
    have hM' := Lib.hid hM
    clear hM
    by_cases h0 : (leftOf es seen).size = 0
    · have e : matchAll os ⟨x1, x2, x3⟩ = true := matchAll_yes (fun i hi => hs'.out i (memAt_all hM'.out h0 i (by rw [← hr'.out.1]; exact hi)))
      have e' := Lib.hid e
      clear e
      have hc := H.cells; simp only [CellsOf, KnCells, knc, Nat.reduceAdd] at hc
      repeat' (first | (go_big_may; (first
    | go_skip
    | (refine wpList_plain rfl (fun K hK => ?_); refine op_next_done _ rfl rfl H (by repeat (first | exact Split.here _ _ | apply Split.there)) (H.obj (by repeat (first | exact Split.here _ _ | apply Split.there))) hl (Nat.le_refl _) h0 (hK _ _ ?_); clear hK K)
    | ((first
        | (refine loud_ rfl ?_; refine wpList_plain rfl (fun K hK => ?_); (first | (refine op_box _ _ rfl H (fun b w' H1 => hK _ _ ?_)) | (refine op_alloc _ rfl (zero_of _ _ rfl) H (fun b w' H1 => hK _ _ ?_)) | (refine op_store _ _ _ rfl rfl rfl H (by repeat (first | exact Split.here _ _ | apply Split.there)) (by kernel_rfl) (by kernel_rfl) (by kernel_rfl) (fun w' H1 => hK _ _ ?_)) | (refine op_buildSlice_all _ _ _ rfl (by first | exact elem22 | exact elem39 | exact elem76 | exact elem154) (by kernel_rfl) (by kernel_rfl) (by kernel_rfl) H (fun b w' H1 => hK _ _ ?_))); clear hK K; replace H := H1; clear H1)); (try clear hc); (try simp only [nrm, splice, Value.cells, Nat.reduceAdd, Act.eval, Act.put] at H); have hc := H.cells; simp only [CellsOf, KnCells, knc, Nat.reduceAdd] at hc))) | go_values | go_skip | go_guarded | go_step | go_upon | go_back | dsimp only)
      go_ret
      exact ⟨by rw [e'.out]; rfl, H.ext⟩
    · have hc := H.cells; simp only [CellsOf, KnCells, knc, Nat.reduceAdd] at hc
      go_upto_region 6 with (first
    | go_skip
    | (refine wpList_plain rfl (fun K hK => ?_); (refine op_next_more _ rfl rfl H (by repeat (first | exact Split.here _ _ | apply Split.there)) (H.obj (by repeat (first | exact Split.here _ _ | apply Split.there))) hl (Nat.le_refl _) h0 (fun en w' he H1 => hK _ _ ?_); clear hK K; replace H := H1; clear H1; (try clear hc); (try simp only [nrm, splice, Value.cells, Nat.reduceAdd, Act.eval, Act.put] at H); have hc := H.cells; simp only [CellsOf, KnCells, knc, Nat.reduceAdd] at hc))
    | (refine wpList_plain rfl (fun K hK => ?_); refine op_entry _ rfl rfl H (by repeat (first | exact Split.here _ _ | apply Split.there)) (H.obj (by repeat (first | exact Split.here _ _ | apply Split.there))) (mem_left he).1 hnd.out (hK _ _ ?_); clear hK K)
    | ((first
        | (refine loud_ rfl ?_; refine wpList_plain rfl (fun K hK => ?_); (first | (refine op_box _ _ rfl H (fun b w' H1 => hK _ _ ?_)) | (refine op_alloc _ rfl (zero_of _ _ rfl) H (fun b w' H1 => hK _ _ ?_)) | (refine op_store _ _ _ rfl rfl rfl H (by repeat (first | exact Split.here _ _ | apply Split.there)) (by kernel_rfl) (by kernel_rfl) (by kernel_rfl) (fun w' H1 => hK _ _ ?_)) | (refine op_buildSlice_all _ _ _ rfl (by first | exact elem22 | exact elem39 | exact elem76 | exact elem154) (by kernel_rfl) (by kernel_rfl) (by kernel_rfl) H (fun b w' H1 => hK _ _ ?_))); clear hK K; replace H := H1; clear H1)); (try clear hc); (try simp only [nrm, splice, Value.cells, Nat.reduceAdd, Act.eval, Act.put] at H); have hc := H.cells; simp only [CellsOf, KnCells, knc, Nat.reduceAdd] at hc))
      have hlt := Lib.hid (left_shrinks es seen en he)
      have hmr := memAt_entry (H.rep (R := MemAt bs ts es) (by repeat (first | exact Split.here _ _ | apply Split.there))) (mem_left he).1
      obtain ⟨ky, vl, bo⟩ := en
      obtain ⟨i, t, h1, h2, h3, h4⟩ := hmr
      simp only at h3 h4 hlt
      subst h3
      have hil : bo < os.length := by rw [hr'.out.1]; exact (List.getElem?_eq_some_iff.1 h1).1
      obtain ⟨ox, h5, h6⟩ := hr'.out.2 bo t h1
      have h5' := Lib.hid h5
      have h6' := Lib.hid h6
      clear h1 h2 h5 h6 hl h0 he
      rcases h4 with ⟨ht, rfl⟩ | ⟨ht, bq, hbm, rfl, hblk⟩
      · have e' : Hid (matchAll os ⟨x1, x2, x3⟩ = false) := matchAll_no hil (by unfold okAt; rw [h5'.out, vopt_empty ht h6'.out])
        repeat' (first | (go_big_may; (first
    | ((first
        | (refine loud_ rfl ?_; refine wpList_plain rfl (fun K hK => ?_); (first | (refine op_box _ _ rfl H (fun b w' H1 => hK _ _ ?_)) | (refine op_alloc _ rfl (zero_of _ _ rfl) H (fun b w' H1 => hK _ _ ?_)) | (refine op_store _ _ _ rfl rfl rfl H (by repeat (first | exact Split.here _ _ | apply Split.there)) (by kernel_rfl) (by kernel_rfl) (by kernel_rfl) (fun w' H1 => hK _ _ ?_)) | (refine op_buildSlice_all _ _ _ rfl (by first | exact elem22 | exact elem39 | exact elem76 | exact elem154) (by kernel_rfl) (by kernel_rfl) (by kernel_rfl) H (fun b w' H1 => hK _ _ ?_))); clear hK K; replace H := H1; clear H1)); (try clear hc); (try simp only [nrm, splice, Value.cells, Nat.reduceAdd, Act.eval, Act.put] at H); have hc := H.cells; simp only [CellsOf, KnCells, knc, Nat.reduceAdd] at hc))) | go_values | go_skip | go_guarded | go_step | go_upon | go_back | dsimp only)
        go_ret
        exact ⟨by rw [e'.out]; rfl, H.ext⟩
      · have H1 := H.sub (k := .rep bs _) (by repeat (first | exact Split.here _ _ | apply Split.there)) (.is bq (vobj t)) hblk (by simp [Kn.fp, hbm])
        replace H := H1
        clear H1 hc hblk
        cases ox with
        | none =>
          have e' : Hid (matchAll os ⟨x1, x2, x3⟩ = false) := matchAll_no hil (by unfold okAt; rw [h5'.out])
          have hc := H.cells; simp only [CellsOf, KnCells, knc, Nat.reduceAdd] at hc
          repeat' (first | (go_big_may; (first
    | go_skip
    | ((first
        | (go_at_call 50; refine Calls.mono (newVersion_bad _ (h6'.out.1) (by have := h6'.out.2; omega) _ (H.rep (R := GEnv) (by repeat (first | exact Split.here _ _ | apply Split.there))).2) ?_; rintro e w' ⟨v, rfl, H'⟩; replace H := H.of_ext H'; clear H')
        | (refine loud_ rfl ?_; refine wpList_plain rfl (fun K hK => ?_); (first | (refine op_box _ _ rfl H (fun b w' H1 => hK _ _ ?_)) | (refine op_alloc _ rfl (zero_of _ _ rfl) H (fun b w' H1 => hK _ _ ?_)) | (refine op_store _ _ _ rfl rfl rfl H (by repeat (first | exact Split.here _ _ | apply Split.there)) (by kernel_rfl) (by kernel_rfl) (by kernel_rfl) (fun w' H1 => hK _ _ ?_)) | (refine op_buildSlice_all _ _ _ rfl (by first | exact elem22 | exact elem39 | exact elem76 | exact elem154) (by kernel_rfl) (by kernel_rfl) (by kernel_rfl) H (fun b w' H1 => hK _ _ ?_))); clear hK K; replace H := H1; clear H1)); (try clear hc); (try simp only [nrm, splice, Value.cells, Nat.reduceAdd, Act.eval, Act.put] at H); have hc := H.cells; simp only [CellsOf, KnCells, knc, Nat.reduceAdd] at hc))) | go_values | go_skip | go_guarded | go_step | go_upon | go_back | dsimp only)
          go_ret
          exact ⟨by rw [e'.out]; rfl, H.ext⟩
        | some y =>
          obtain ⟨y1, y2, y3⟩ := y
          simp only [vbase] at H
          have hc := H.cells; simp only [CellsOf, KnCells, knc, Nat.reduceAdd] at hc
          repeat' (first | (go_big_may; (first
    | go_skip
    | ((first
        | (go_at_call 50; refine Calls.mono (newVersion_ok _ ⟨y1, y2, y3⟩ h6'.out _) ?_; rintro e w' ⟨q2, rfl, H'⟩; replace H := H.merge (by first | exact Strikes.nil _ | (repeat (first | exact Strikes.nil _ | (apply Strikes.cons; focus (repeat (first | exact Split.here _ _ | apply Split.there)))))) H' rfl; clear H')
        | (refine loud_ rfl ?_; refine wpList_plain rfl (fun K hK => ?_); (first | (refine op_box _ _ rfl H (fun b w' H1 => hK _ _ ?_)) | (refine op_alloc _ rfl (zero_of _ _ rfl) H (fun b w' H1 => hK _ _ ?_)) | (refine op_store _ _ _ rfl rfl rfl H (by repeat (first | exact Split.here _ _ | apply Split.there)) (by kernel_rfl) (by kernel_rfl) (by kernel_rfl) (fun w' H1 => hK _ _ ?_)) | (refine op_buildSlice_all _ _ _ rfl (by first | exact elem22 | exact elem39 | exact elem76 | exact elem154) (by kernel_rfl) (by kernel_rfl) (by kernel_rfl) H (fun b w' H1 => hK _ _ ?_))); clear hK K; replace H := H1; clear H1)); (try clear hc); (try simp only [nrm, splice, Value.cells, Nat.reduceAdd, Act.eval, Act.put] at H); have hc := H.cells; simp only [CellsOf, KnCells, knc, Nat.reduceAdd] at hc))) | go_values | go_skip | go_guarded | go_step | go_upon | go_back | dsimp only)
          (try simp only [Act.put, slt])
          refine wp_region_plan (.p [0, 1, 2] (.q [3] (.p [4, 5, 6] (.q [7] (.p [8] (.e 9 (.p [10] .done))))))) [9] (by kernel_rfl) (by kernel_rfl) (fun _ _ d _ _ h => by cases d <;> exact h) H ?_
          clear H
          (try clear hc)
          intro X nX fX wd hcf hS H
          simp only [CellsOf, KnCells, knc, Nat.reduceAdd] at hcf
          have hc := H.cells
          simp only [CellsOf, KnCells, knc, Nat.reduceAdd] at hc
          iterate 3 (refine plan_p (o := ⟨_, _, _, _, _, _⟩) rfl (fun N hN => ?_); go_big_quiet_step (fail); refine wpQuiet_nil (hN _ ?_); clear hN N)
          refine plan_p0 ?_
          iterate 1 (refine plan_q (o := ⟨_, _, _, _, _, _⟩) rfl (fun N hN => ?_); go_big_quiet_step (fail); refine wpQuiet_nil (hN _ ?_); clear hN N)
          refine plan_q0 ?_
          iterate 3 (refine plan_p (o := ⟨_, _, _, _, _, _⟩) rfl (fun N hN => ?_); go_big_quiet_step (fail); refine wpQuiet_nil (hN _ ?_); clear hN N)
          refine plan_p0 ?_
          iterate 1 (refine plan_q (o := ⟨_, _, _, _, _, _⟩) rfl (fun N hN => ?_); go_big_quiet_step (fail); refine wpQuiet_nil (hN _ ?_); clear hN N)
          refine plan_q0 ?_
          iterate 1 (refine plan_p (o := ⟨_, _, _, _, _, _⟩) rfl (fun N hN => ?_); go_big_quiet_step (fail); refine wpQuiet_nil (hN _ ?_); clear hN N)
          refine plan_p0 ?_
          refine plan_e (o := ⟨_, _, _, _, _, _⟩) rfl rfl (fun K hK => ?_)
          (first | (refine op_box _ _ rfl H (fun b w' H1 => ?_); replace H := H1; clear H1) | (refine op_alloc _ rfl (zero_of _ _ rfl) H (fun b w' H1 => ?_); replace H := H1; clear H1) | (refine op_store _ _ _ rfl rfl rfl H (by repeat (first | exact Split.here _ _ | apply Split.there)) (by kernel_rfl) (by kernel_rfl) (by kernel_rfl) (fun w' H1 => ?_); replace H := H1; clear H1) | (refine op_buildSlice_all _ _ _ rfl (by first | exact elem22 | exact elem39 | exact elem76 | exact elem154) (by kernel_rfl) (by kernel_rfl) (by kernel_rfl) H (fun b w' H1 => ?_); replace H := H1; clear H1)); (try clear hc); (try simp only [nrm, splice, Value.cells, Nat.reduceAdd, Act.eval, Act.put] at H); have hc := H.cells; simp only [CellsOf, KnCells, knc, Nat.reduceAdd] at hc; refine hK _ _ (fun h => (h (by decide)).elim) ?_; clear hK K; (try simp only [Act.put, slt])
          iterate 1 (refine plan_p (o := ⟨_, _, _, _, _, _⟩) rfl (fun N hN => ?_); go_big_quiet_step (fail); refine wpQuiet_nil (hN _ ?_); clear hN N)
          refine plan_p0 ?_
          refine plan_done ?_
          go_upto_region 12 with (first
    | ((first
        | (refine loud_ rfl ?_; refine wpList_plain rfl (fun K hK => ?_); (first | (refine op_box _ _ rfl H (fun b w' H1 => hK _ _ ?_)) | (refine op_alloc _ rfl (zero_of _ _ rfl) H (fun b w' H1 => hK _ _ ?_)) | (refine op_store _ _ _ rfl rfl rfl H (by repeat (first | exact Split.here _ _ | apply Split.there)) (by kernel_rfl) (by kernel_rfl) (by kernel_rfl) (fun w' H1 => hK _ _ ?_)) | (refine op_buildSlice_all _ _ _ rfl (by first | exact elem22 | exact elem39 | exact elem76 | exact elem154) (by kernel_rfl) (by kernel_rfl) (by kernel_rfl) H (fun b w' H1 => hK _ _ ?_))); clear hK K; replace H := H1; clear H1)); (try clear hc); (try simp only [nrm, splice, Value.cells, Nat.reduceAdd, Act.eval, Act.put] at H); have hc := H.cells; simp only [CellsOf, KnCells, knc, Nat.reduceAdd] at hc))
          obtain ⟨dv, hdv⟩ : ∃ dv, Hid (veq ⟨x1, x2, 0⟩ ⟨y1, y2, 0⟩ = dv) := ⟨_, Lib.hid rfl⟩
          cases dv with
          | false =>
            have e' : Hid (matchAll os ⟨x1, x2, x3⟩ = false) := matchAll_no hil (by unfold okAt; rw [h5'.out]; exact hdv.out)
            (try simp only [Act.put, slt])
            refine wp_region_plan (.p [0, 1] (.q [2] (.p [3, 4] (.q [5] (.e 6 (.p [7] .done)))))) [6] (by kernel_rfl) (by kernel_rfl) (fun _ _ d _ _ h => by cases d <;> exact h) H ?_
            clear H
            (try clear hc)
            intro X nX fX wd hcf hS H
            simp only [CellsOf, KnCells, knc, Nat.reduceAdd] at hcf
            have hc := H.cells
            simp only [CellsOf, KnCells, knc, Nat.reduceAdd] at hc
            iterate 2 (refine plan_p (o := ⟨_, _, _, _, _, _⟩) rfl (fun N hN => ?_); go_big_quiet_step (fail); refine wpQuiet_nil (hN _ ?_); clear hN N)
            refine plan_p0 ?_
            iterate 1 (refine plan_q (o := ⟨_, _, _, _, _, _⟩) rfl (fun N hN => ?_); go_big_quiet_step (fail); refine wpQuiet_nil (hN _ ?_); clear hN N)
            refine plan_q0 ?_
            iterate 2 (refine plan_p (o := ⟨_, _, _, _, _, _⟩) rfl (fun N hN => ?_); go_big_quiet_step (fail); refine wpQuiet_nil (hN _ ?_); clear hN N)
            refine plan_p0 ?_
            iterate 1 (refine plan_q (o := ⟨_, _, _, _, _, _⟩) rfl (fun N hN => ?_); go_big_quiet_step (fail); refine wpQuiet_nil (hN _ ?_); clear hN N)
            refine plan_q0 ?_
            refine plan_e (o := ⟨_, _, _, _, _, _⟩) rfl rfl (fun K hK => ?_)
            (first | (go_step; refine Calls.mono (equal_at ⟨x1, x2, 0⟩ ⟨y1, y2, 0⟩ _ hdv _) ?_; rintro e w' ⟨rfl, H'⟩; replace H := H.of_ext H'; clear H') | (refine op_box _ _ rfl H (fun b w' H1 => ?_); replace H := H1; clear H1) | (refine op_alloc _ rfl (zero_of _ _ rfl) H (fun b w' H1 => ?_); replace H := H1; clear H1) | (refine op_store _ _ _ rfl rfl rfl H (by repeat (first | exact Split.here _ _ | apply Split.there)) (by kernel_rfl) (by kernel_rfl) (by kernel_rfl) (fun w' H1 => ?_); replace H := H1; clear H1) | (refine op_buildSlice_all _ _ _ rfl (by first | exact elem22 | exact elem39 | exact elem76 | exact elem154) (by kernel_rfl) (by kernel_rfl) (by kernel_rfl) H (fun b w' H1 => ?_); replace H := H1; clear H1)); (try clear hc); (try simp only [nrm, splice, Value.cells, Nat.reduceAdd, Act.eval, Act.put] at H); have hc := H.cells; simp only [CellsOf, KnCells, knc, Nat.reduceAdd] at hc; refine hK _ _ (fun h => (h (by decide)).elim) ?_; clear hK K; (try simp only [Act.put, slt])
            iterate 1 (refine plan_p (o := ⟨_, _, _, _, _, _⟩) rfl (fun N hN => ?_); go_big_quiet_step (fail); refine wpQuiet_nil (hN _ ?_); clear hN N)
            refine plan_p0 ?_
            refine plan_done ?_
            repeat' (first | (go_big_may; (first
    | ((first
        | (refine loud_ rfl ?_; refine wpList_plain rfl (fun K hK => ?_); (first | (refine op_box _ _ rfl H (fun b w' H1 => hK _ _ ?_)) | (refine op_alloc _ rfl (zero_of _ _ rfl) H (fun b w' H1 => hK _ _ ?_)) | (refine op_store _ _ _ rfl rfl rfl H (by repeat (first | exact Split.here _ _ | apply Split.there)) (by kernel_rfl) (by kernel_rfl) (by kernel_rfl) (fun w' H1 => hK _ _ ?_)) | (refine op_buildSlice_all _ _ _ rfl (by first | exact elem22 | exact elem39 | exact elem76 | exact elem154) (by kernel_rfl) (by kernel_rfl) (by kernel_rfl) H (fun b w' H1 => hK _ _ ?_))); clear hK K; replace H := H1; clear H1)); (try clear hc); (try simp only [nrm, splice, Value.cells, Nat.reduceAdd, Act.eval, Act.put] at H); have hc := H.cells; simp only [CellsOf, KnCells, knc, Nat.reduceAdd] at hc))) | go_values | go_skip | go_guarded | go_step | go_upon | go_back | dsimp only)
            go_ret
            exact ⟨by rw [e'.out]; rfl, H.ext⟩
          | true =>
            (try simp only [Act.put, slt])
            refine wp_region_plan (.p [0, 1] (.q [2] (.p [3, 4] (.q [5] (.e 6 (.p [7] .done)))))) [6] (by kernel_rfl) (by kernel_rfl) (fun _ _ d _ _ h => by cases d <;> exact h) H ?_
            clear H
            (try clear hc)
            intro X nX fX wd hcf hS H
            simp only [CellsOf, KnCells, knc, Nat.reduceAdd] at hcf
            have hc := H.cells
            simp only [CellsOf, KnCells, knc, Nat.reduceAdd] at hc
            iterate 2 (refine plan_p (o := ⟨_, _, _, _, _, _⟩) rfl (fun N hN => ?_); go_big_quiet_step (fail); refine wpQuiet_nil (hN _ ?_); clear hN N)
            refine plan_p0 ?_
            iterate 1 (refine plan_q (o := ⟨_, _, _, _, _, _⟩) rfl (fun N hN => ?_); go_big_quiet_step (fail); refine wpQuiet_nil (hN _ ?_); clear hN N)
            refine plan_q0 ?_
            iterate 2 (refine plan_p (o := ⟨_, _, _, _, _, _⟩) rfl (fun N hN => ?_); go_big_quiet_step (fail); refine wpQuiet_nil (hN _ ?_); clear hN N)
            refine plan_p0 ?_
            iterate 1 (refine plan_q (o := ⟨_, _, _, _, _, _⟩) rfl (fun N hN => ?_); go_big_quiet_step (fail); refine wpQuiet_nil (hN _ ?_); clear hN N)
            refine plan_q0 ?_
            refine plan_e (o := ⟨_, _, _, _, _, _⟩) rfl rfl (fun K hK => ?_)
            (first | (go_step; refine Calls.mono (equal_at ⟨x1, x2, 0⟩ ⟨y1, y2, 0⟩ _ hdv _) ?_; rintro e w' ⟨rfl, H'⟩; replace H := H.of_ext H'; clear H') | (refine op_box _ _ rfl H (fun b w' H1 => ?_); replace H := H1; clear H1) | (refine op_alloc _ rfl (zero_of _ _ rfl) H (fun b w' H1 => ?_); replace H := H1; clear H1) | (refine op_store _ _ _ rfl rfl rfl H (by repeat (first | exact Split.here _ _ | apply Split.there)) (by kernel_rfl) (by kernel_rfl) (by kernel_rfl) (fun w' H1 => ?_); replace H := H1; clear H1) | (refine op_buildSlice_all _ _ _ rfl (by first | exact elem22 | exact elem39 | exact elem76 | exact elem154) (by kernel_rfl) (by kernel_rfl) (by kernel_rfl) H (fun b w' H1 => ?_); replace H := H1; clear H1)); (try clear hc); (try simp only [nrm, splice, Value.cells, Nat.reduceAdd, Act.eval, Act.put] at H); have hc := H.cells; simp only [CellsOf, KnCells, knc, Nat.reduceAdd] at hc; refine hK _ _ (fun h => (h (by decide)).elim) ?_; clear hK K; (try simp only [Act.put, slt])
            iterate 1 (refine plan_p (o := ⟨_, _, _, _, _, _⟩) rfl (fun N hN => ?_); go_big_quiet_step (fail); refine wpQuiet_nil (hN _ ?_); clear hN N)
            refine plan_p0 ?_
            refine plan_done ?_
            repeat' (first | (go_big_may; (first
    | ((first
        | (refine loud_ rfl ?_; refine wpList_plain rfl (fun K hK => ?_); (first | (refine op_box _ _ rfl H (fun b w' H1 => hK _ _ ?_)) | (refine op_alloc _ rfl (zero_of _ _ rfl) H (fun b w' H1 => hK _ _ ?_)) | (refine op_store _ _ _ rfl rfl rfl H (by repeat (first | exact Split.here _ _ | apply Split.there)) (by kernel_rfl) (by kernel_rfl) (by kernel_rfl) (fun w' H1 => hK _ _ ?_)) | (refine op_buildSlice_all _ _ _ rfl (by first | exact elem22 | exact elem39 | exact elem76 | exact elem154) (by kernel_rfl) (by kernel_rfl) (by kernel_rfl) H (fun b w' H1 => hK _ _ ?_))); clear hK K; replace H := H1; clear H1)); (try clear hc); (try simp only [nrm, splice, Value.cells, Nat.reduceAdd, Act.eval, Act.put] at H); have hc := H.cells; simp only [CellsOf, KnCells, knc, Nat.reduceAdd] at hc))) | go_values | go_skip | go_guarded | go_step | go_upon | go_back | dsimp only)
            refine ⟨⟨seen.push bo, fun i hi => ?_, H.sel (by repeat (first | exact Sel.nil _ | (apply Sel.cons; focus (repeat (first | exact Split.here _ _ | apply Split.there)))))⟩, ?_⟩
            · simp only [Array.toList_push, List.mem_append, List.mem_singleton] at hi
              rcases hi with hi | rfl
              · exact hs'.out i hi
              · unfold okAt
                rw [h5'.out]
                exact hdv.out
            · rw [hleft.out, rangeLeft_at (H.obj (b := m) (by repeat (first | exact Split.here _ _ | apply Split.there))) (H.obj (b := r) (by repeat (first | exact Split.here _ _ | apply Split.there)))]
              exact hlt.out
end Go.Proofs.YtdcijhdjddiboaaDoor
