import Derived.Test.YtdcijhdjddiboaaDoorVerQ
-- MORE
namespace Go.Proofs.YtdcijhdjddiboaaDoor
set_option linter.unusedVariables false
set_option linter.unusedSimpArgs false
set_option linter.unnecessarySimpa false
open Go.RowKit Go.V

theorem new_calls (s : ByteArray) (x : Vr) (h : VText s x) (w : World) :
    Calls Tryd.prog 55 #[.string s] w fun e w' => ∃ q, e = .returned (.pointer (some ⟨q, 0, none⟩)) ∧ St [] w w' [(true, .is q (x.obj 62))] := by
  have h' := Lib.hid h
  clear h
  have H := St.init [] w
  go_enter Tryd.func55, Tryd.ntmps55
  go_wp2_with (first
    | go_skip
    | ((first
        | (go_at_call 50; refine Calls.mono (newVersion_ok _ x h'.out _) ?_; rintro e w' ⟨q, rfl, H'⟩; replace H := H.merge (by first | exact Strikes.nil _ | (repeat (first | exact Strikes.nil _ | (apply Strikes.cons; focus (repeat (first | exact Split.here _ _ | apply Split.there)))))) H' rfl; clear H')
        | (go_at_call 49; refine Calls.mono (must_calls _ _) ?_; rintro e w' ⟨rfl, H'⟩; replace H := H.of_ext H'; clear H')
        | (refine loud_ rfl ?_; refine wpList_plain rfl (fun K hK => ?_); (first | (refine op_box _ _ rfl H (fun b w' H1 => hK _ _ ?_)) | (refine op_alloc _ rfl (zero_of _ _ rfl) H (fun b w' H1 => hK _ _ ?_)) | (refine op_store _ _ _ rfl rfl rfl H (by repeat (first | exact Split.here _ _ | apply Split.there)) (by kernel_rfl) (by kernel_rfl) (by kernel_rfl) (fun w' H1 => hK _ _ ?_)) | (refine op_buildSlice_all _ _ _ rfl (by first | exact elem22 | exact elem39 | exact elem76 | exact elem154) (by kernel_rfl) (by kernel_rfl) (by kernel_rfl) H (fun b w' H1 => hK _ _ ?_))); clear hK K; replace H := H1; clear H1)); (try clear hc); (try simp only [nrm, splice, Value.cells, Nat.reduceAdd, Act.eval, Act.put] at H); have hc := H.cells; simp only [CellsOf, KnCells, knc, Nat.reduceAdd] at hc))
  go_ret
  exact ⟨_, rfl, H⟩
theorem target_calls (p : Nat) (s : ByteArray) (dn : Bool) (x : Vr) (h : VText s x) (w : World) (hp : w.heap[p]? = some (.cells #[.string s, .bool dn] 81 (0, 0))) :
    Calls Tryd.prog 56 #[.pointer (some ⟨p, 0, none⟩)] w fun e w' => ∃ q, e = .returned (.pointer (some ⟨q, 0, none⟩)) ∧ St [] w w' [(true, .is q (x.obj 62))] := by
  have h' := Lib.hid h
  have H := (St.init [] w).read (.is p _) hp (by simp)
  clear h hp
  have hc := H.cells; simp only [CellsOf, KnCells, knc, Nat.reduceAdd] at hc
  go_enter Tryd.func56, Tryd.ntmps56
  go_wp2_with (first
    | go_skip
    | ((first
        | (go_at_call 50; refine Calls.mono (newVersion_ok _ x h'.out _) ?_; rintro e w' ⟨q, rfl, H'⟩; replace H := H.merge (by first | exact Strikes.nil _ | (repeat (first | exact Strikes.nil _ | (apply Strikes.cons; focus (repeat (first | exact Split.here _ _ | apply Split.there)))))) H' rfl; clear H')
        | (go_at_call 49; refine Calls.mono (must_calls _ _) ?_; rintro e w' ⟨rfl, H'⟩; replace H := H.of_ext H'; clear H')
        | (refine loud_ rfl ?_; refine wpList_plain rfl (fun K hK => ?_); (first | (refine op_box _ _ rfl H (fun b w' H1 => hK _ _ ?_)) | (refine op_alloc _ rfl (zero_of _ _ rfl) H (fun b w' H1 => hK _ _ ?_)) | (refine op_store _ _ _ rfl rfl rfl H (by repeat (first | exact Split.here _ _ | apply Split.there)) (by kernel_rfl) (by kernel_rfl) (by kernel_rfl) (fun w' H1 => hK _ _ ?_)) | (refine op_buildSlice_all _ _ _ rfl (by first | exact elem22 | exact elem39 | exact elem76 | exact elem154) (by kernel_rfl) (by kernel_rfl) (by kernel_rfl) H (fun b w' H1 => hK _ _ ?_))); clear hK K; replace H := H1; clear H1)); (try clear hc); (try simp only [nrm, splice, Value.cells, Nat.reduceAdd, Act.eval, Act.put] at H); have hc := H.cells; simp only [CellsOf, KnCells, knc, Nat.reduceAdd] at hc))
  go_ret
  exact ⟨_, rfl, H.sel (by repeat (first | exact Sel.nil _ | (apply Sel.cons; focus (repeat (first | exact Split.here _ _ | apply Split.there)))))⟩
theorem lessThan_at (x y : Vr) (d : Bool) (hd : Hid (vless x y = d)) (w : World) :
    Calls Tryd.prog 58 #[x.val, y.val] w fun e w' => e = .returned (.bool d) ∧ Ext [] w w' := by
  have := lessThan_calls x y w
  rw [hd.out] at this
  exact this
theorem vless_iff {x y : Vr} : vless x y = true ↔ (x.a < y.a ∨ (x.a = y.a ∧ (x.b < y.b ∨ (x.b = y.b ∧ x.c < y.c)))) := by
  unfold vless
  split
  · split
    · simp only [decide_eq_true_eq]
      omega
    · simp only [decide_eq_true_eq]
      omega
  · simp only [decide_eq_true_eq]
    omega
theorem vless_no {x y : Vr} : vless x y = false ↔ ¬ (x.a < y.a ∨ (x.a = y.a ∧ (x.b < y.b ∨ (x.b = y.b ∧ x.c < y.c)))) := by
  rw [← vless_iff]
  simp
/-- The least version of all. -/
def IsMin (os : List (Option Vr)) (y : Vr) : Prop := (∀ i, i < os.length → ∃ z, os[i]? = some (some z) ∧ vless z y = false) ∧ ∃ i : Nat, os[i]? = some (some y)
def NoMin (os : List (Option Vr)) : Prop := os = [] ∨ ∃ i : Nat, os[i]? = some none
theorem isMin_one {os : List (Option Vr)} {y z : Vr} (hy : IsMin os y) (hz : IsMin os z) : y = z := by
  obtain ⟨h1, i, h2⟩ := hy
  obtain ⟨h3, j, h4⟩ := hz
  obtain ⟨u, h5, h6⟩ := h1 j (List.getElem?_eq_some_iff.1 h4).1
  obtain ⟨v, h7, h8⟩ := h3 i (List.getElem?_eq_some_iff.1 h2).1
  rw [h4] at h5
  rw [h2] at h7
  cases h5
  cases h7
  rw [vless_no] at h6 h8
  obtain ⟨y1, y2, y3⟩ := y
  obtain ⟨z1, z2, z3⟩ := z
  simp only at h6 h8
  have e1 : y1 = z1 := by omega
  have e2 : y2 = z2 := by omega
  have e3 : y3 = z3 := by omega
  rw [e1, e2, e3]
theorem isMin_not {os : List (Option Vr)} {y : Vr} (hy : IsMin os y) (hn : NoMin os) : False := by
  obtain ⟨h1, i, h2⟩ := hy
  rcases hn with rfl | ⟨j, hj⟩
  · simp at h2
  · obtain ⟨z, h3, _⟩ := h1 j (List.getElem?_eq_some_iff.1 hj).1
    rw [hj] at h3
    cases h3
def MinPost (os : List (Option Vr)) (w : World) (e : Ending) (w' : World) : Prop :=
  (∃ y q, IsMin os y ∧ e = .returned (.pointer (some ⟨q, 0, none⟩)) ∧ St [] w w' [(true, .is q (y.obj 62))]) ∨ (NoMin os ∧ e = .returned (.pointer none) ∧ Ext [] w w')
/-- How far the search for the least has come. -/
def MinSt (w : World) (m r lb : Nat) (bs : List Nat) (ts : List ByteArray) (es : Array MapEntry) (os : List (Option Vr)) (seen : Array Nat) (mv : Value) (wr : World) : Prop :=
  (seen = #[] ∧ mv = .pointer none ∧ St [] w wr [(true, .is r (.mapIter (some m) ts.length seen ts.length)), (true, .is m (.map es ts.length)), (false, .rep bs (MemAt bs ts es)), (true, .is lb ((⟨3, 7, 3⟩ : Vr).obj 62)), genv]) ∨
  (∃ q y, mv = .pointer (some ⟨q, 0, none⟩) ∧ (∀ i ∈ seen.toList, ∃ z, os[i]? = some (some z) ∧ vless z y = false) ∧ (∃ i : Nat, os[i]? = some (some y)) ∧
    St [] w wr [(true, .is q (y.obj 62)), (true, .is r (.mapIter (some m) ts.length seen ts.length)), (true, .is m (.map es ts.length)), (false, .rep bs (MemAt bs ts es)), (true, .is lb ((⟨3, 7, 3⟩ : Vr).obj 62)), genv])
def MinR (w : World) (m r lb : Nat) (bs : List Nat) (ts : List ByteArray) (es : Array MapEntry) (os : List (Option Vr)) (mv : Value) (wr : World) : Prop := ∃ seen, MinSt w m r lb bs ts es os seen mv wr
set_option maxHeartbeats 1000000 in
set_option maxRecDepth 8000 in
theorem membersMin (p g : Nat) (d : VD) (o : Vo) (ts : List ByteArray) (os : List (Option Vr)) (hr : Reads ts os) (hn : d.n = ts.length) (hb : ts.length ≤ 1000000) (w : World)
    (H : St [] w w [(false, .is p (mon g)), (false, .is g (guard d o)), (false, .arr d.at' (strs ts)), genv]) :
    Calls Tryd.prog 54 #[.pointer (some ⟨p, 0, none⟩)] w (MinPost os w) := by
  have hme : ∀ (w : World), (method 256 45 (.pointer (some ⟨g, 0, none⟩)) "GetMembersVersions").run Tryd.prog w = .ok (106, .pointer (some ⟨g, 0, none⟩)) w := fun w => by kernel_rfl
  have hna : ∀ (w : World), (nilAhead 256 45 (.pointer (some ⟨g, 0, none⟩)) "GetMembersVersions").run Tryd.prog w = .ok (some false) w := fun w => by kernel_rfl
  have hlv : Hid (VText ⟨#[51, 46, 55, 46, 51]⟩ ⟨3, 7, 3⟩) := ⟨⟨by decide, by decide, by decide⟩, rfl⟩
  have hr' := Lib.hid hr
  have hb' := Lib.hid hb
  have hn' := Lib.hid hn
  clear hr hb hn
  have hc := H.cells; simp only [CellsOf, KnCells, knc, Nat.reduceAdd] at hc
  go_enter Tryd.func54, Tryd.ntmps54
  go_wp2_with (first
    | go_skip
    | (refine wpList_plain rfl (fun K hK => ?_); (refine op_range _ _ _ _ rfl Tryd.underlying97 (es := es) (clock := ts.length) rfl H (H.obj (by repeat (first | exact Split.here _ _ | apply Split.there))) (fun r w' H1 => hK _ _ ?_); clear hK K; replace H := H1; clear H1; (try clear hc); (try simp only [nrm, splice, Value.cells, Nat.reduceAdd, Act.eval, Act.put] at H); have hc := H.cells; simp only [CellsOf, KnCells, knc, Nat.reduceAdd] at hc))
    | ((first
        | (go_at_call 106; refine Calls.mono (gMembers g d o ts hn'.out hb'.out _ (H.pick (by repeat (first | exact Picks.nil _ | (apply Picks.wr; focus (repeat (first | exact Split.here _ _ | apply Split.there))) | (apply Picks.rd; focus (repeat (first | exact Split.here _ _ | apply Split.there))))))) ?_; rintro e w' ⟨m, es, bs, rfl, H'⟩; replace H := H.merge (by first | exact Strikes.nil _ | (repeat (first | exact Strikes.nil _ | (apply Strikes.cons; focus (repeat (first | exact Split.here _ _ | apply Split.there)))))) H' rfl; clear H')
        | (go_at_call 50; refine Calls.mono (newVersion_ok _ ⟨3, 7, 3⟩ hlv.out _) ?_; rintro e w' ⟨lb, rfl, H'⟩; replace H := H.merge (by first | exact Strikes.nil _ | (repeat (first | exact Strikes.nil _ | (apply Strikes.cons; focus (repeat (first | exact Split.here _ _ | apply Split.there)))))) H' rfl; clear H')
        | (go_at_call 49; refine Calls.mono (must_calls _ _) ?_; rintro e w' ⟨rfl, H'⟩; replace H := H.of_ext H'; clear H')
        | (refine loud_ rfl ?_; refine wpList_plain rfl (fun K hK => ?_); (first | (refine op_box _ _ rfl H (fun b w' H1 => hK _ _ ?_)) | (refine op_alloc _ rfl (zero_of _ _ rfl) H (fun b w' H1 => hK _ _ ?_)) | (refine op_store _ _ _ rfl rfl rfl H (by repeat (first | exact Split.here _ _ | apply Split.there)) (by kernel_rfl) (by kernel_rfl) (by kernel_rfl) (fun w' H1 => hK _ _ ?_)) | (refine op_buildSlice_all _ _ _ rfl (by first | exact elem22 | exact elem39 | exact elem76 | exact elem154) (by kernel_rfl) (by kernel_rfl) (by kernel_rfl) H (fun b w' H1 => hK _ _ ?_))); clear hK K; replace H := H1; clear H1)); (try clear hc); (try simp only [nrm, splice, Value.cells, Nat.reduceAdd, Act.eval, Act.put] at H); have hc := H.cells; simp only [CellsOf, KnCells, knc, Nat.reduceAdd] at hc))
  have hA0 : MinR w m r lb bs ts es os (.pointer none) w' := ⟨#[], .inl ⟨rfl, rfl, (H.ro (k := .rep bs _) (by repeat (first | exact Split.here _ _ | apply Split.there))).sel (by repeat (first | exact Sel.nil _ | (apply Sel.cons; focus (repeat (first | exact Split.here _ _ | apply Split.there)))))⟩⟩
  clear H hc
  (try simp only [Act.put, slt])
  go_loopw [4] (MinR w m r lb bs ts es os) (fun _ wr => wr.rangeLeft m r)
  case atStart => exact hA0
  case round =>
    clear hA0
    obtain ⟨seen, hcase⟩ := hrel
    have hbase : ∃ L, St [] w wr L ∧ wr.heap[m]? = some (.map es ts.length) ∧ wr.heap[r]? = some (.mapIter (some m) ts.length seen ts.length) ∧ MemAt bs ts es wr := by
      rcases hcase with ⟨_, _, H⟩ | ⟨q, y, _, _, _, H⟩
      · exact ⟨_, H, H.obj (Split.there _ (Split.here _ _)), H.obj (Split.here _ _), H.rep (Split.there _ (Split.there _ (Split.here _ _)))⟩
      · exact ⟨_, H, H.obj (Split.there _ (Split.there _ (Split.here _ _))), H.obj (Split.there _ (Split.here _ _)), H.rep (Split.there _ (Split.there _ (Split.there _ (Split.here _ _))))⟩
    obtain ⟨_, _, hm0, hr0, hM⟩ := hbase
    have hl := memAt_hold hM
    have hleft := Lib.hid (rangeLeft_at hm0 hr0)
    have hnd := Lib.hid (memAt_nodup hM)
    have hM' := Lib.hid hM
    clear hM hm0 hr0
    by_cases h0 : (leftOf es seen).size = 0
    · rcases hcase with ⟨rfl, rfl, H⟩ | ⟨q, y, rfl, hy1, hy2, H⟩
      · have e' : Hid (NoMin os) := .inl (by
          cases os with
          | nil => rfl
          | cons a l => have := memAt_all hM'.out h0 0 (by rw [← hr'.out.1]; simp); simp at this)
        have hc := H.cells; simp only [CellsOf, KnCells, knc, Nat.reduceAdd] at hc
        repeat' (first | (go_big_may; (first
    | go_skip
    | (refine wpList_plain rfl (fun K hK => ?_); refine op_next_done _ rfl rfl H (by repeat (first | exact Split.here _ _ | apply Split.there)) (H.obj (by repeat (first | exact Split.here _ _ | apply Split.there))) hl (Nat.le_refl _) h0 (hK _ _ ?_); clear hK K)
    | ((first
        | (refine loud_ rfl ?_; refine wpList_plain rfl (fun K hK => ?_); (first | (refine op_box _ _ rfl H (fun b w' H1 => hK _ _ ?_)) | (refine op_alloc _ rfl (zero_of _ _ rfl) H (fun b w' H1 => hK _ _ ?_)) | (refine op_store _ _ _ rfl rfl rfl H (by repeat (first | exact Split.here _ _ | apply Split.there)) (by kernel_rfl) (by kernel_rfl) (by kernel_rfl) (fun w' H1 => hK _ _ ?_)) | (refine op_buildSlice_all _ _ _ rfl (by first | exact elem22 | exact elem39 | exact elem76 | exact elem154) (by kernel_rfl) (by kernel_rfl) (by kernel_rfl) H (fun b w' H1 => hK _ _ ?_))); clear hK K; replace H := H1; clear H1)); (try clear hc); (try simp only [nrm, splice, Value.cells, Nat.reduceAdd, Act.eval, Act.put] at H); have hc := H.cells; simp only [CellsOf, KnCells, knc, Nat.reduceAdd] at hc))) | go_values | go_skip | go_guarded | go_step | go_upon | go_back | dsimp only)
        go_ret
        exact .inr ⟨e'.out, rfl, H.ext⟩
      · have e' : Hid (IsMin os y) := ⟨fun i hi => hy1 i (memAt_all hM'.out h0 i (by rw [← hr'.out.1]; exact hi)), hy2⟩
        clear hy1 hy2
        have hc := H.cells; simp only [CellsOf, KnCells, knc, Nat.reduceAdd] at hc
        repeat' (first | (go_big_may; (first
    | go_skip
    | (refine wpList_plain rfl (fun K hK => ?_); refine op_next_done _ rfl rfl H (by repeat (first | exact Split.here _ _ | apply Split.there)) (H.obj (by repeat (first | exact Split.here _ _ | apply Split.there))) hl (Nat.le_refl _) h0 (hK _ _ ?_); clear hK K)
    | ((first
        | (refine loud_ rfl ?_; refine wpList_plain rfl (fun K hK => ?_); (first | (refine op_box _ _ rfl H (fun b w' H1 => hK _ _ ?_)) | (refine op_alloc _ rfl (zero_of _ _ rfl) H (fun b w' H1 => hK _ _ ?_)) | (refine op_store _ _ _ rfl rfl rfl H (by repeat (first | exact Split.here _ _ | apply Split.there)) (by kernel_rfl) (by kernel_rfl) (by kernel_rfl) (fun w' H1 => hK _ _ ?_)) | (refine op_buildSlice_all _ _ _ rfl (by first | exact elem22 | exact elem39 | exact elem76 | exact elem154) (by kernel_rfl) (by kernel_rfl) (by kernel_rfl) H (fun b w' H1 => hK _ _ ?_))); clear hK K; replace H := H1; clear H1)); (try clear hc); (try simp only [nrm, splice, Value.cells, Nat.reduceAdd, Act.eval, Act.put] at H); have hc := H.cells; simp only [CellsOf, KnCells, knc, Nat.reduceAdd] at hc))) | go_values | go_skip | go_guarded | go_step | go_upon | go_back | dsimp only)
        go_ret
        exact .inl ⟨y, q, e'.out, rfl, H.sel (by repeat (first | exact Sel.nil _ | (apply Sel.cons; focus (repeat (first | exact Split.here _ _ | apply Split.there)))))⟩
    · rcases hcase with ⟨rfl, rfl, H⟩ | ⟨q, ⟨y1, y2, y3⟩, rfl, hy1, hy2, H⟩
      · have hc := H.cells; simp only [CellsOf, KnCells, knc, Nat.reduceAdd] at hc
        go_upto_region 7 with (first
    | go_skip
    | (refine wpList_plain rfl (fun K hK => ?_); (refine op_next_more _ rfl rfl H (by repeat (first | exact Split.here _ _ | apply Split.there)) (H.obj (by repeat (first | exact Split.here _ _ | apply Split.there))) hl (Nat.le_refl _) h0 (fun en w' he H1 => hK _ _ ?_); clear hK K; replace H := H1; clear H1; (try clear hc); (try simp only [nrm, splice, Value.cells, Nat.reduceAdd, Act.eval, Act.put] at H); have hc := H.cells; simp only [CellsOf, KnCells, knc, Nat.reduceAdd] at hc))
    | (refine wpList_plain rfl (fun K hK => ?_); refine op_entry _ rfl rfl H (by repeat (first | exact Split.here _ _ | apply Split.there)) (H.obj (by repeat (first | exact Split.here _ _ | apply Split.there))) (mem_left he).1 hnd.out (hK _ _ ?_); clear hK K)
    | ((first
        | (refine loud_ rfl ?_; refine wpList_plain rfl (fun K hK => ?_); (first | (refine op_box _ _ rfl H (fun b w' H1 => hK _ _ ?_)) | (refine op_alloc _ rfl (zero_of _ _ rfl) H (fun b w' H1 => hK _ _ ?_)) | (refine op_store _ _ _ rfl rfl rfl H (by repeat (first | exact Split.here _ _ | apply Split.there)) (by kernel_rfl) (by kernel_rfl) (by kernel_rfl) (fun w' H1 => hK _ _ ?_)) | (refine op_buildSlice_all _ _ _ rfl (by first | exact elem22 | exact elem39 | exact elem76 | exact elem154) (by kernel_rfl) (by kernel_rfl) (by kernel_rfl) H (fun b w' H1 => hK _ _ ?_))); clear hK K; replace H := H1; clear H1)); (try clear hc); (try simp only [nrm, splice, Value.cells, Nat.reduceAdd, Act.eval, Act.put] at H); have hc := H.cells; simp only [CellsOf, KnCells, knc, Nat.reduceAdd] at hc))
        have hlt := Lib.hid (left_shrinks es #[] en he)
        have hmr := memAt_entry (H.rep (R := MemAt bs ts es) (by repeat (first | exact Split.here _ _ | apply Split.there))) (mem_left he).1
        obtain ⟨ky, vl, bo⟩ := en
        obtain ⟨i, t, h1, h2, h3, h4⟩ := hmr
        simp only at h3 h4 hlt
        subst h3
        obtain ⟨ox, h5, h6⟩ := hr'.out.2 bo t h1
        have h5' := Lib.hid h5
        have h6' := Lib.hid h6
        clear h1 h2 h5 h6 hl h0 he
        rcases h4 with ⟨ht, rfl⟩ | ⟨ht, bq, hbm, rfl, hblk⟩
        · have e' : Hid (NoMin os) := .inr ⟨bo, by rw [h5'.out, vopt_empty ht h6'.out]⟩
          repeat' (first | (go_big_may; (first
    | ((first
        | (refine loud_ rfl ?_; refine wpList_plain rfl (fun K hK => ?_); (first | (refine op_box _ _ rfl H (fun b w' H1 => hK _ _ ?_)) | (refine op_alloc _ rfl (zero_of _ _ rfl) H (fun b w' H1 => hK _ _ ?_)) | (refine op_store _ _ _ rfl rfl rfl H (by repeat (first | exact Split.here _ _ | apply Split.there)) (by kernel_rfl) (by kernel_rfl) (by kernel_rfl) (fun w' H1 => hK _ _ ?_)) | (refine op_buildSlice_all _ _ _ rfl (by first | exact elem22 | exact elem39 | exact elem76 | exact elem154) (by kernel_rfl) (by kernel_rfl) (by kernel_rfl) H (fun b w' H1 => hK _ _ ?_))); clear hK K; replace H := H1; clear H1)); (try clear hc); (try simp only [nrm, splice, Value.cells, Nat.reduceAdd, Act.eval, Act.put] at H); have hc := H.cells; simp only [CellsOf, KnCells, knc, Nat.reduceAdd] at hc))) | go_values | go_skip | go_guarded | go_step | go_upon | go_back | dsimp only)
          go_ret
          exact .inr ⟨e'.out, rfl, H.ext⟩
        · have H1 := H.sub (k := .rep bs _) (by repeat (first | exact Split.here _ _ | apply Split.there)) (.is bq (vobj t)) hblk (by simp [Kn.fp, hbm])
          replace H := H1
          clear H1 hc hblk
          cases ox with
          | none =>
            have e' : Hid (NoMin os) := .inr ⟨bo, h5'.out⟩
            have hc := H.cells; simp only [CellsOf, KnCells, knc, Nat.reduceAdd] at hc
            repeat' (first | (go_big_may; (first
    | go_skip
    | ((first
        | (go_at_call 50; refine Calls.mono (newVersion_bad _ (h6'.out.1) (by have := h6'.out.2; omega) _ (H.rep (R := GEnv) (by repeat (first | exact Split.here _ _ | apply Split.there))).2) ?_; rintro e w' ⟨v, rfl, H'⟩; replace H := H.of_ext H'; clear H')
        | (refine loud_ rfl ?_; refine wpList_plain rfl (fun K hK => ?_); (first | (refine op_box _ _ rfl H (fun b w' H1 => hK _ _ ?_)) | (refine op_alloc _ rfl (zero_of _ _ rfl) H (fun b w' H1 => hK _ _ ?_)) | (refine op_store _ _ _ rfl rfl rfl H (by repeat (first | exact Split.here _ _ | apply Split.there)) (by kernel_rfl) (by kernel_rfl) (by kernel_rfl) (fun w' H1 => hK _ _ ?_)) | (refine op_buildSlice_all _ _ _ rfl (by first | exact elem22 | exact elem39 | exact elem76 | exact elem154) (by kernel_rfl) (by kernel_rfl) (by kernel_rfl) H (fun b w' H1 => hK _ _ ?_))); clear hK K; replace H := H1; clear H1)); (try clear hc); (try simp only [nrm, splice, Value.cells, Nat.reduceAdd, Act.eval, Act.put] at H); have hc := H.cells; simp only [CellsOf, KnCells, knc, Nat.reduceAdd] at hc))) | go_values | go_skip | go_guarded | go_step | go_upon | go_back | dsimp only)
            go_ret
            exact .inr ⟨e'.out, rfl, H.ext⟩
          | some z =>
            obtain ⟨z1, z2, z3⟩ := z
            have hc := H.cells; simp only [CellsOf, KnCells, knc, Nat.reduceAdd] at hc
            repeat' (first | (go_big_may; (first
    | go_skip
    | ((first
        | (go_at_call 50; refine Calls.mono (newVersion_ok _ ⟨z1, z2, z3⟩ h6'.out _) ?_; rintro e w' ⟨q2, rfl, H'⟩; replace H := H.merge (by first | exact Strikes.nil _ | (repeat (first | exact Strikes.nil _ | (apply Strikes.cons; focus (repeat (first | exact Split.here _ _ | apply Split.there)))))) H' rfl; clear H')
        | (refine loud_ rfl ?_; refine wpList_plain rfl (fun K hK => ?_); (first | (refine op_box _ _ rfl H (fun b w' H1 => hK _ _ ?_)) | (refine op_alloc _ rfl (zero_of _ _ rfl) H (fun b w' H1 => hK _ _ ?_)) | (refine op_store _ _ _ rfl rfl rfl H (by repeat (first | exact Split.here _ _ | apply Split.there)) (by kernel_rfl) (by kernel_rfl) (by kernel_rfl) (fun w' H1 => hK _ _ ?_)) | (refine op_buildSlice_all _ _ _ rfl (by first | exact elem22 | exact elem39 | exact elem76 | exact elem154) (by kernel_rfl) (by kernel_rfl) (by kernel_rfl) H (fun b w' H1 => hK _ _ ?_))); clear hK K; replace H := H1; clear H1)); (try clear hc); (try simp only [nrm, splice, Value.cells, Nat.reduceAdd, Act.eval, Act.put] at H); have hc := H.cells; simp only [CellsOf, KnCells, knc, Nat.reduceAdd] at hc))) | go_values | go_skip | go_guarded | go_step | go_upon | go_back | dsimp only)
            obtain ⟨dl, hdl⟩ : ∃ dl, Hid (vless ⟨3, 7, 3⟩ ⟨z1, z2, z3⟩ = dl) := ⟨_, Lib.hid rfl⟩
            (try simp only [Act.put, slt])
            refine wp_region_plan (.p [0, 1] (.q [2] (.p [3, 4] (.q [5] (.e 6 .done))))) [6] (by kernel_rfl) (by kernel_rfl) (fun _ _ d _ _ h => by cases d <;> exact h) H ?_
            clear H
            (try clear hc)
            intro X nX fX wd hcf hS H
            simp only [CellsOf, KnCells, knc, Nat.reduceAdd] at hcf
            have hc := H.cells
            simp only [CellsOf, KnCells, knc, Nat.reduceAdd] at hc
            iterate 2 (refine plan_p (o := ⟨_, _, _, _, _, _⟩) rfl (fun N hN => ?_); go_big_quiet_step (fail); refine wpQuiet_nil (hN _ ?_); clear hN N)
            refine plan_p0 ?_
            iterate 1 (refine plan_q (o := ⟨_, _, _, _, _, _⟩) rfl (fun N hN => ?_); go_big_quiet_step (fail); refine wpQuiet_nil (hN _ ?_); clear hN N)
            refine plan_q0 ?_
            iterate 2 (refine plan_p (o := ⟨_, _, _, _, _, _⟩) rfl (fun N hN => ?_); go_big_quiet_step (fail); refine wpQuiet_nil (hN _ ?_); clear hN N)
            refine plan_p0 ?_
            iterate 1 (refine plan_q (o := ⟨_, _, _, _, _, _⟩) rfl (fun N hN => ?_); go_big_quiet_step (fail); refine wpQuiet_nil (hN _ ?_); clear hN N)
            refine plan_q0 ?_
            refine plan_e (o := ⟨_, _, _, _, _, _⟩) rfl rfl (fun K hK => ?_)
            (first | (go_step; refine Calls.mono (lessThan_at ⟨3, 7, 3⟩ ⟨z1, z2, z3⟩ _ hdl _) ?_; rintro e w' ⟨rfl, H'⟩; replace H := H.of_ext H'; clear H') | (refine op_box _ _ rfl H (fun b w' H1 => ?_); replace H := H1; clear H1) | (refine op_alloc _ rfl (zero_of _ _ rfl) H (fun b w' H1 => ?_); replace H := H1; clear H1) | (refine op_store _ _ _ rfl rfl rfl H (by repeat (first | exact Split.here _ _ | apply Split.there)) (by kernel_rfl) (by kernel_rfl) (by kernel_rfl) (fun w' H1 => ?_); replace H := H1; clear H1) | (refine op_buildSlice_all _ _ _ rfl (by first | exact elem22 | exact elem39 | exact elem76 | exact elem154) (by kernel_rfl) (by kernel_rfl) (by kernel_rfl) H (fun b w' H1 => ?_); replace H := H1; clear H1)); (try clear hc); (try simp only [nrm, splice, Value.cells, Nat.reduceAdd, Act.eval, Act.put] at H); have hc := H.cells; simp only [CellsOf, KnCells, knc, Nat.reduceAdd] at hc; refine hK _ _ (fun h => (h (by decide)).elim) ?_; clear hK K; (try simp only [Act.put, slt])
            refine plan_done ?_
            cases dl
            all_goals
              repeat' (first | (go_big_may; (first
    | ((first
        | (refine loud_ rfl ?_; refine wpList_plain rfl (fun K hK => ?_); (first | (refine op_box _ _ rfl H (fun b w' H1 => hK _ _ ?_)) | (refine op_alloc _ rfl (zero_of _ _ rfl) H (fun b w' H1 => hK _ _ ?_)) | (refine op_store _ _ _ rfl rfl rfl H (by repeat (first | exact Split.here _ _ | apply Split.there)) (by kernel_rfl) (by kernel_rfl) (by kernel_rfl) (fun w' H1 => hK _ _ ?_)) | (refine op_buildSlice_all _ _ _ rfl (by first | exact elem22 | exact elem39 | exact elem76 | exact elem154) (by kernel_rfl) (by kernel_rfl) (by kernel_rfl) H (fun b w' H1 => hK _ _ ?_))); clear hK K; replace H := H1; clear H1)); (try clear hc); (try simp only [nrm, splice, Value.cells, Nat.reduceAdd, Act.eval, Act.put] at H); have hc := H.cells; simp only [CellsOf, KnCells, knc, Nat.reduceAdd] at hc))) | go_values | go_skip | go_guarded | go_step | go_upon | go_back | dsimp only)
              refine ⟨⟨#[bo], .inr ⟨q2, ⟨z1, z2, z3⟩, rfl, fun i hi => ?_, ⟨bo, h5'.out⟩, H.sel (by repeat (first | exact Sel.nil _ | (apply Sel.cons; focus (repeat (first | exact Split.here _ _ | apply Split.there)))))⟩⟩, ?_⟩
              · obtain rfl : i = bo := by simpa using hi
                exact ⟨_, h5'.out, by rw [vless_no]; omega⟩
              · rw [hleft.out, rangeLeft_at (H.obj (b := m) (by repeat (first | exact Split.here _ _ | apply Split.there))) (H.obj (b := r) (by repeat (first | exact Split.here _ _ | apply Split.there)))]
                exact hlt.out
      · have hy1' := Lib.hid hy1
        have hy2' := Lib.hid hy2
        clear hy1 hy2
        have hc := H.cells; simp only [CellsOf, KnCells, knc, Nat.reduceAdd] at hc
        go_upto_region 7 with (first
    | go_skip
    | (refine wpList_plain rfl (fun K hK => ?_); (refine op_next_more _ rfl rfl H (by repeat (first | exact Split.here _ _ | apply Split.there)) (H.obj (by repeat (first | exact Split.here _ _ | apply Split.there))) hl (Nat.le_refl _) h0 (fun en w' he H1 => hK _ _ ?_); clear hK K; replace H := H1; clear H1; (try clear hc); (try simp only [nrm, splice, Value.cells, Nat.reduceAdd, Act.eval, Act.put] at H); have hc := H.cells; simp only [CellsOf, KnCells, knc, Nat.reduceAdd] at hc))
    | (refine wpList_plain rfl (fun K hK => ?_); refine op_entry _ rfl rfl H (by repeat (first | exact Split.here _ _ | apply Split.there)) (H.obj (by repeat (first | exact Split.here _ _ | apply Split.there))) (mem_left he).1 hnd.out (hK _ _ ?_); clear hK K)
    | ((first
        | (refine loud_ rfl ?_; refine wpList_plain rfl (fun K hK => ?_); (first | (refine op_box _ _ rfl H (fun b w' H1 => hK _ _ ?_)) | (refine op_alloc _ rfl (zero_of _ _ rfl) H (fun b w' H1 => hK _ _ ?_)) | (refine op_store _ _ _ rfl rfl rfl H (by repeat (first | exact Split.here _ _ | apply Split.there)) (by kernel_rfl) (by kernel_rfl) (by kernel_rfl) (fun w' H1 => hK _ _ ?_)) | (refine op_buildSlice_all _ _ _ rfl (by first | exact elem22 | exact elem39 | exact elem76 | exact elem154) (by kernel_rfl) (by kernel_rfl) (by kernel_rfl) H (fun b w' H1 => hK _ _ ?_))); clear hK K; replace H := H1; clear H1)); (try clear hc); (try simp only [nrm, splice, Value.cells, Nat.reduceAdd, Act.eval, Act.put] at H); have hc := H.cells; simp only [CellsOf, KnCells, knc, Nat.reduceAdd] at hc))
        have hlt := Lib.hid (left_shrinks es seen en he)
        have hmr := memAt_entry (H.rep (R := MemAt bs ts es) (by repeat (first | exact Split.here _ _ | apply Split.there))) (mem_left he).1
        obtain ⟨ky, vl, bo⟩ := en
        obtain ⟨i, t, h1, h2, h3, h4⟩ := hmr
        simp only at h3 h4 hlt
        subst h3
        obtain ⟨ox, h5, h6⟩ := hr'.out.2 bo t h1
        have h5' := Lib.hid h5
        have h6' := Lib.hid h6
        clear h1 h2 h5 h6 hl h0 he
        rcases h4 with ⟨ht, rfl⟩ | ⟨ht, bq, hbm, rfl, hblk⟩
        · have e' : Hid (NoMin os) := .inr ⟨bo, by rw [h5'.out, vopt_empty ht h6'.out]⟩
          repeat' (first | (go_big_may; (first
    | ((first
        | (refine loud_ rfl ?_; refine wpList_plain rfl (fun K hK => ?_); (first | (refine op_box _ _ rfl H (fun b w' H1 => hK _ _ ?_)) | (refine op_alloc _ rfl (zero_of _ _ rfl) H (fun b w' H1 => hK _ _ ?_)) | (refine op_store _ _ _ rfl rfl rfl H (by repeat (first | exact Split.here _ _ | apply Split.there)) (by kernel_rfl) (by kernel_rfl) (by kernel_rfl) (fun w' H1 => hK _ _ ?_)) | (refine op_buildSlice_all _ _ _ rfl (by first | exact elem22 | exact elem39 | exact elem76 | exact elem154) (by kernel_rfl) (by kernel_rfl) (by kernel_rfl) H (fun b w' H1 => hK _ _ ?_))); clear hK K; replace H := H1; clear H1)); (try clear hc); (try simp only [nrm, splice, Value.cells, Nat.reduceAdd, Act.eval, Act.put] at H); have hc := H.cells; simp only [CellsOf, KnCells, knc, Nat.reduceAdd] at hc))) | go_values | go_skip | go_guarded | go_step | go_upon | go_back | dsimp only)
          go_ret
          exact .inr ⟨e'.out, rfl, H.ext⟩
        · have H1 := H.sub (k := .rep bs _) (by repeat (first | exact Split.here _ _ | apply Split.there)) (.is bq (vobj t)) hblk (by simp [Kn.fp, hbm])
          replace H := H1
          clear H1 hc hblk
          cases ox with
          | none =>
            have e' : Hid (NoMin os) := .inr ⟨bo, h5'.out⟩
            have hc := H.cells; simp only [CellsOf, KnCells, knc, Nat.reduceAdd] at hc
            repeat' (first | (go_big_may; (first
    | go_skip
    | ((first
        | (go_at_call 50; refine Calls.mono (newVersion_bad _ (h6'.out.1) (by have := h6'.out.2; omega) _ (H.rep (R := GEnv) (by repeat (first | exact Split.here _ _ | apply Split.there))).2) ?_; rintro e w' ⟨v, rfl, H'⟩; replace H := H.of_ext H'; clear H')
        | (refine loud_ rfl ?_; refine wpList_plain rfl (fun K hK => ?_); (first | (refine op_box _ _ rfl H (fun b w' H1 => hK _ _ ?_)) | (refine op_alloc _ rfl (zero_of _ _ rfl) H (fun b w' H1 => hK _ _ ?_)) | (refine op_store _ _ _ rfl rfl rfl H (by repeat (first | exact Split.here _ _ | apply Split.there)) (by kernel_rfl) (by kernel_rfl) (by kernel_rfl) (fun w' H1 => hK _ _ ?_)) | (refine op_buildSlice_all _ _ _ rfl (by first | exact elem22 | exact elem39 | exact elem76 | exact elem154) (by kernel_rfl) (by kernel_rfl) (by kernel_rfl) H (fun b w' H1 => hK _ _ ?_))); clear hK K; replace H := H1; clear H1)); (try clear hc); (try simp only [nrm, splice, Value.cells, Nat.reduceAdd, Act.eval, Act.put] at H); have hc := H.cells; simp only [CellsOf, KnCells, knc, Nat.reduceAdd] at hc))) | go_values | go_skip | go_guarded | go_step | go_upon | go_back | dsimp only)
            go_ret
            exact .inr ⟨e'.out, rfl, H.ext⟩
          | some z =>
            obtain ⟨z1, z2, z3⟩ := z
            have hc := H.cells; simp only [CellsOf, KnCells, knc, Nat.reduceAdd] at hc
            repeat' (first | (go_big_may; (first
    | go_skip
    | ((first
        | (go_at_call 50; refine Calls.mono (newVersion_ok _ ⟨z1, z2, z3⟩ h6'.out _) ?_; rintro e w' ⟨q2, rfl, H'⟩; replace H := H.merge (by first | exact Strikes.nil _ | (repeat (first | exact Strikes.nil _ | (apply Strikes.cons; focus (repeat (first | exact Split.here _ _ | apply Split.there)))))) H' rfl; clear H')
        | (refine loud_ rfl ?_; refine wpList_plain rfl (fun K hK => ?_); (first | (refine op_box _ _ rfl H (fun b w' H1 => hK _ _ ?_)) | (refine op_alloc _ rfl (zero_of _ _ rfl) H (fun b w' H1 => hK _ _ ?_)) | (refine op_store _ _ _ rfl rfl rfl H (by repeat (first | exact Split.here _ _ | apply Split.there)) (by kernel_rfl) (by kernel_rfl) (by kernel_rfl) (fun w' H1 => hK _ _ ?_)) | (refine op_buildSlice_all _ _ _ rfl (by first | exact elem22 | exact elem39 | exact elem76 | exact elem154) (by kernel_rfl) (by kernel_rfl) (by kernel_rfl) H (fun b w' H1 => hK _ _ ?_))); clear hK K; replace H := H1; clear H1)); (try clear hc); (try simp only [nrm, splice, Value.cells, Nat.reduceAdd, Act.eval, Act.put] at H); have hc := H.cells; simp only [CellsOf, KnCells, knc, Nat.reduceAdd] at hc))) | go_values | go_skip | go_guarded | go_step | go_upon | go_back | dsimp only)
            obtain ⟨dl, hdl⟩ : ∃ dl, Hid (vless ⟨3, 7, 3⟩ ⟨z1, z2, z3⟩ = dl) := ⟨_, Lib.hid rfl⟩
            (try simp only [Act.put, slt])
            refine wp_region_plan (.p [0, 1] (.q [2] (.p [3, 4] (.q [5] (.e 6 .done))))) [6] (by kernel_rfl) (by kernel_rfl) (fun _ _ d _ _ h => by cases d <;> exact h) H ?_
            clear H
            (try clear hc)
            intro X nX fX wd hcf hS H
            simp only [CellsOf, KnCells, knc, Nat.reduceAdd] at hcf
            have hc := H.cells
            simp only [CellsOf, KnCells, knc, Nat.reduceAdd] at hc
            iterate 2 (refine plan_p (o := ⟨_, _, _, _, _, _⟩) rfl (fun N hN => ?_); go_big_quiet_step (fail); refine wpQuiet_nil (hN _ ?_); clear hN N)
            refine plan_p0 ?_
            iterate 1 (refine plan_q (o := ⟨_, _, _, _, _, _⟩) rfl (fun N hN => ?_); go_big_quiet_step (fail); refine wpQuiet_nil (hN _ ?_); clear hN N)
            refine plan_q0 ?_
            iterate 2 (refine plan_p (o := ⟨_, _, _, _, _, _⟩) rfl (fun N hN => ?_); go_big_quiet_step (fail); refine wpQuiet_nil (hN _ ?_); clear hN N)
            refine plan_p0 ?_
            iterate 1 (refine plan_q (o := ⟨_, _, _, _, _, _⟩) rfl (fun N hN => ?_); go_big_quiet_step (fail); refine wpQuiet_nil (hN _ ?_); clear hN N)
            refine plan_q0 ?_
            refine plan_e (o := ⟨_, _, _, _, _, _⟩) rfl rfl (fun K hK => ?_)
            (first | (go_step; refine Calls.mono (lessThan_at ⟨3, 7, 3⟩ ⟨z1, z2, z3⟩ _ hdl _) ?_; rintro e w' ⟨rfl, H'⟩; replace H := H.of_ext H'; clear H') | (refine op_box _ _ rfl H (fun b w' H1 => ?_); replace H := H1; clear H1) | (refine op_alloc _ rfl (zero_of _ _ rfl) H (fun b w' H1 => ?_); replace H := H1; clear H1) | (refine op_store _ _ _ rfl rfl rfl H (by repeat (first | exact Split.here _ _ | apply Split.there)) (by kernel_rfl) (by kernel_rfl) (by kernel_rfl) (fun w' H1 => ?_); replace H := H1; clear H1) | (refine op_buildSlice_all _ _ _ rfl (by first | exact elem22 | exact elem39 | exact elem76 | exact elem154) (by kernel_rfl) (by kernel_rfl) (by kernel_rfl) H (fun b w' H1 => ?_); replace H := H1; clear H1)); (try clear hc); (try simp only [nrm, splice, Value.cells, Nat.reduceAdd, Act.eval, Act.put] at H); have hc := H.cells; simp only [CellsOf, KnCells, knc, Nat.reduceAdd] at hc; refine hK _ _ (fun h => (h (by decide)).elim) ?_; clear hK K; (try simp only [Act.put, slt])
            refine plan_done ?_
            cases dl
            all_goals
              repeat' (first | (go_big_may; (first
    | ((first
        | (refine loud_ rfl ?_; refine wpList_plain rfl (fun K hK => ?_); (first | (refine op_box _ _ rfl H (fun b w' H1 => hK _ _ ?_)) | (refine op_alloc _ rfl (zero_of _ _ rfl) H (fun b w' H1 => hK _ _ ?_)) | (refine op_store _ _ _ rfl rfl rfl H (by repeat (first | exact Split.here _ _ | apply Split.there)) (by kernel_rfl) (by kernel_rfl) (by kernel_rfl) (fun w' H1 => hK _ _ ?_)) | (refine op_buildSlice_all _ _ _ rfl (by first | exact elem22 | exact elem39 | exact elem76 | exact elem154) (by kernel_rfl) (by kernel_rfl) (by kernel_rfl) H (fun b w' H1 => hK _ _ ?_))); clear hK K; replace H := H1; clear H1)); (try clear hc); (try simp only [nrm, splice, Value.cells, Nat.reduceAdd, Act.eval, Act.put] at H); have hc := H.cells; simp only [CellsOf, KnCells, knc, Nat.reduceAdd] at hc))) | go_values | go_skip | go_guarded | go_step | go_upon | go_back | dsimp only)
              obtain ⟨d2, hd2⟩ : ∃ d2, Hid (vless ⟨z1, z2, z3⟩ ⟨y1, y2, y3⟩ = d2) := ⟨_, Lib.hid rfl⟩
              (try simp only [Act.put, slt])
              refine wp_region_plan (.p [0, 1] (.q [2] (.p [3, 4] (.q [5] (.e 6 .done))))) [6] (by kernel_rfl) (by kernel_rfl) (fun _ _ d _ _ h => by cases d <;> exact h) H ?_
              clear H
              (try clear hc)
              intro X nX fX wd hcf hS H
              simp only [CellsOf, KnCells, knc, Nat.reduceAdd] at hcf
              have hc := H.cells
              simp only [CellsOf, KnCells, knc, Nat.reduceAdd] at hc
              iterate 2 (refine plan_p (o := ⟨_, _, _, _, _, _⟩) rfl (fun N hN => ?_); go_big_quiet_step (fail); refine wpQuiet_nil (hN _ ?_); clear hN N)
              refine plan_p0 ?_
              iterate 1 (refine plan_q (o := ⟨_, _, _, _, _, _⟩) rfl (fun N hN => ?_); go_big_quiet_step (fail); refine wpQuiet_nil (hN _ ?_); clear hN N)
              refine plan_q0 ?_
              iterate 2 (refine plan_p (o := ⟨_, _, _, _, _, _⟩) rfl (fun N hN => ?_); go_big_quiet_step (fail); refine wpQuiet_nil (hN _ ?_); clear hN N)
              refine plan_p0 ?_
              iterate 1 (refine plan_q (o := ⟨_, _, _, _, _, _⟩) rfl (fun N hN => ?_); go_big_quiet_step (fail); refine wpQuiet_nil (hN _ ?_); clear hN N)
              refine plan_q0 ?_
              refine plan_e (o := ⟨_, _, _, _, _, _⟩) rfl rfl (fun K hK => ?_)
              (first | (go_step; refine Calls.mono (lessThan_at ⟨z1, z2, z3⟩ ⟨y1, y2, y3⟩ _ hd2 _) ?_; rintro e w' ⟨rfl, H'⟩; replace H := H.of_ext H'; clear H') | (refine op_box _ _ rfl H (fun b w' H1 => ?_); replace H := H1; clear H1) | (refine op_alloc _ rfl (zero_of _ _ rfl) H (fun b w' H1 => ?_); replace H := H1; clear H1) | (refine op_store _ _ _ rfl rfl rfl H (by repeat (first | exact Split.here _ _ | apply Split.there)) (by kernel_rfl) (by kernel_rfl) (by kernel_rfl) (fun w' H1 => ?_); replace H := H1; clear H1) | (refine op_buildSlice_all _ _ _ rfl (by first | exact elem22 | exact elem39 | exact elem76 | exact elem154) (by kernel_rfl) (by kernel_rfl) (by kernel_rfl) H (fun b w' H1 => ?_); replace H := H1; clear H1)); (try clear hc); (try simp only [nrm, splice, Value.cells, Nat.reduceAdd, Act.eval, Act.put] at H); have hc := H.cells; simp only [CellsOf, KnCells, knc, Nat.reduceAdd] at hc; refine hK _ _ (fun h => (h (by decide)).elim) ?_; clear hK K; (try simp only [Act.put, slt])
              refine plan_done ?_
              cases d2
              · repeat' (first | (go_big_may; (first
    | ((first
        | (refine loud_ rfl ?_; refine wpList_plain rfl (fun K hK => ?_); (first | (refine op_box _ _ rfl H (fun b w' H1 => hK _ _ ?_)) | (refine op_alloc _ rfl (zero_of _ _ rfl) H (fun b w' H1 => hK _ _ ?_)) | (refine op_store _ _ _ rfl rfl rfl H (by repeat (first | exact Split.here _ _ | apply Split.there)) (by kernel_rfl) (by kernel_rfl) (by kernel_rfl) (fun w' H1 => hK _ _ ?_)) | (refine op_buildSlice_all _ _ _ rfl (by first | exact elem22 | exact elem39 | exact elem76 | exact elem154) (by kernel_rfl) (by kernel_rfl) (by kernel_rfl) H (fun b w' H1 => hK _ _ ?_))); clear hK K; replace H := H1; clear H1)); (try clear hc); (try simp only [nrm, splice, Value.cells, Nat.reduceAdd, Act.eval, Act.put] at H); have hc := H.cells; simp only [CellsOf, KnCells, knc, Nat.reduceAdd] at hc))) | go_values | go_skip | go_guarded | go_step | go_upon | go_back | dsimp only)
                refine ⟨⟨seen.push bo, .inr ⟨q, ⟨y1, y2, y3⟩, rfl, fun i hi => ?_, hy2'.out, H.sel (by repeat (first | exact Sel.nil _ | (apply Sel.cons; focus (repeat (first | exact Split.here _ _ | apply Split.there)))))⟩⟩, ?_⟩
                · simp only [Array.toList_push, List.mem_append, List.mem_singleton] at hi
                  rcases hi with hi | rfl
                  · exact hy1'.out i hi
                  · exact ⟨_, h5'.out, hd2.out⟩
                · rw [hleft.out, rangeLeft_at (H.obj (b := m) (by repeat (first | exact Split.here _ _ | apply Split.there))) (H.obj (b := r) (by repeat (first | exact Split.here _ _ | apply Split.there)))]
                  exact hlt.out
              · repeat' (first | (go_big_may; (first
    | ((first
        | (refine loud_ rfl ?_; refine wpList_plain rfl (fun K hK => ?_); (first | (refine op_box _ _ rfl H (fun b w' H1 => hK _ _ ?_)) | (refine op_alloc _ rfl (zero_of _ _ rfl) H (fun b w' H1 => hK _ _ ?_)) | (refine op_store _ _ _ rfl rfl rfl H (by repeat (first | exact Split.here _ _ | apply Split.there)) (by kernel_rfl) (by kernel_rfl) (by kernel_rfl) (fun w' H1 => hK _ _ ?_)) | (refine op_buildSlice_all _ _ _ rfl (by first | exact elem22 | exact elem39 | exact elem76 | exact elem154) (by kernel_rfl) (by kernel_rfl) (by kernel_rfl) H (fun b w' H1 => hK _ _ ?_))); clear hK K; replace H := H1; clear H1)); (try clear hc); (try simp only [nrm, splice, Value.cells, Nat.reduceAdd, Act.eval, Act.put] at H); have hc := H.cells; simp only [CellsOf, KnCells, knc, Nat.reduceAdd] at hc))) | go_values | go_skip | go_guarded | go_step | go_upon | go_back | dsimp only)
                refine ⟨⟨seen.push bo, .inr ⟨q2, ⟨z1, z2, z3⟩, rfl, fun i hi => ?_, ⟨bo, h5'.out⟩, H.sel (by repeat (first | exact Sel.nil _ | (apply Sel.cons; focus (repeat (first | exact Split.here _ _ | apply Split.there)))))⟩⟩, ?_⟩
                · simp only [Array.toList_push, List.mem_append, List.mem_singleton] at hi
                  rcases hi with hi | rfl
                  · obtain ⟨u, hu1, hu2⟩ := hy1'.out i hi
                    have hd2' := hd2.out
                    rw [vless_iff] at hd2'
                    rw [vless_no] at hu2
                    simp only at hd2' hu2
                    exact ⟨u, hu1, by rw [vless_no]; simp only; omega⟩
                  · exact ⟨_, h5'.out, by rw [vless_no]; omega⟩
                · rw [hleft.out, rangeLeft_at (H.obj (b := m) (by repeat (first | exact Split.here _ _ | apply Split.there))) (H.obj (b := r) (by repeat (first | exact Split.here _ _ | apply Split.there)))]
                  exact hlt.out
end Go.Proofs.YtdcijhdjddiboaaDoor
