import Derived.Test.YtdcijhdjddiboaaDoorVerN3
-- MORE
namespace Go.Proofs.YtdcijhdjddiboaaDoor
set_option linter.unusedVariables false
set_option linter.unusedSimpArgs false
set_option linter.unnecessarySimpa false
open Go.RowKit Go.V

theorem g0 : Tryd.prog.globalNamed "internal/strconv.uint64pow10" = some 0 := by kernel_rfl
theorem g1 : Tryd.prog.globalNamed "strconv.ErrSyntax" = some 1 := by kernel_rfl
theorem var_same {P : Program} {w w' : World} {name : String} {g : Nat} (hg : P.globalNamed name = some g) (h : w'.heap[g]? = w.heap[g]?) : w'.var? P name = w.var? P name := by
  unfold World.var?
  simp only [hg, Option.bind_some, h]
/-- The package-level variables that are read. -/
def GEnv (w : World) : Prop := TabAt w ∧ ErrAt w
theorem genv_local : Local [0, 1] GEnv := by
  rintro w w' hb ⟨h1, tp, p, h2⟩
  refine ⟨?_, tp, p, ?_⟩
  · show World.var? _ _ _ = _
    rw [var_same g0 (hb 0 (by simp))]
    exact h1
  · rw [var_same g1 (hb 1 (by simp))]
    exact h2
abbrev genv : Ent := (false, .rep [0, 1] GEnv)
/-- What a monitor sees, as data (the members apart). -/
structure VD where
  cl : ByteArray
  st : ByteArray
  tg : ByteArray
  dn : Bool
  hd : Bool
  at' : Option Addr
  n : Nat
  cap : Nat
/-- What a monitor does. -/
structure Vo where
  err : Int
  cl : ByteArray
  st : ByteArray
  canc : Bool
  en : Bool
  tg : ByteArray
abbrev VD.val (d : VD) : Value := .agg #[.string d.cl, .string d.st, .string d.tg, .bool d.dn, .bool d.hd, .slice d.at' d.n d.cap]
abbrev Vo.val (o : Vo) : Value := .agg #[.int .i64 o.err, .string o.cl, .string o.st, .bool o.canc, .bool o.en, .string o.tg]
abbrev vo0 : Vo := ⟨0, ByteArray.empty, ByteArray.empty, false, false, ByteArray.empty⟩
abbrev guard (d : VD) (o : Vo) : Obj := .cells #[.string d.cl, .string d.st, .string d.tg, .bool d.dn, .bool d.hd, .slice d.at' d.n d.cap, .int .i64 o.err, .string o.cl, .string o.st, .bool o.canc, .bool o.en, .string o.tg] 47 (0, 0)
/-- A text that can be read, or cannot. -/
def VOpt (s : ByteArray) : Option Vr → Prop
  | some x => VText s x
  | none => NoDig s ∧ s.size ≤ 1000

theorem gGetClusterVersion_ok (g : Nat) (d : VD) (o : Vo) (x : Vr) (hx : Hid (VText d.cl x)) (w : World) (h : w.heap[g]? = some (guard d o)) :
    Calls Tryd.prog 104 #[.pointer (some ⟨g, 0, none⟩)] w fun e w' => ∃ q, e = .returned (.pointer (some ⟨q, 0, none⟩)) ∧ St [] w w' [(true, .is q (x.obj 62))] := by
  have H := (St.init [] w).read (.is g _) h (by simp)
  clear h
  have hc := H.cells; simp only [CellsOf, KnCells, knc, Nat.reduceAdd] at hc
  go_enter Tryd.func104, Tryd.ntmps104
  go_wp2_with (first
    | go_skip
    | ((first
        | (go_at_call 50; refine Calls.mono (newVersion_ok _ x hx.out _) ?_; rintro e w' ⟨q, rfl, H'⟩; replace H := H.merge (by first | exact Strikes.nil _ | (repeat (first | exact Strikes.nil _ | (apply Strikes.cons; focus (repeat (first | exact Split.here _ _ | apply Split.there)))))) H' rfl; clear H')
        | (refine loud_ rfl ?_; refine wpList_plain rfl (fun K hK => ?_); (first | (refine op_box _ _ rfl H (fun b w' H1 => hK _ _ ?_)) | (refine op_alloc _ rfl (zero_of _ _ rfl) H (fun b w' H1 => hK _ _ ?_)) | (refine op_store _ _ _ rfl rfl rfl H (by repeat (first | exact Split.here _ _ | apply Split.there)) (by kernel_rfl) (by kernel_rfl) (by kernel_rfl) (fun w' H1 => hK _ _ ?_)) | (refine op_buildSlice_all _ _ _ rfl (by first | exact elem22 | exact elem39 | exact elem76 | exact elem154) (by kernel_rfl) (by kernel_rfl) (by kernel_rfl) H (fun b w' H1 => hK _ _ ?_))); clear hK K; replace H := H1; clear H1)); (try clear hc); (try simp only [nrm, splice, Value.cells, Nat.reduceAdd, Act.eval, Act.put] at H); have hc := H.cells; simp only [CellsOf, KnCells, knc, Nat.reduceAdd] at hc))
  go_ret
  exact ⟨q, rfl, H.sel (by repeat (first | exact Sel.nil _ | (apply Sel.cons; focus (repeat (first | exact Split.here _ _ | apply Split.there)))))⟩
theorem gGetClusterVersion_no (g : Nat) (d : VD) (o : Vo) (hx : Hid (VOpt d.cl none)) (w : World) (he : ErrAt w) (h : w.heap[g]? = some (guard d o)) :
    Calls Tryd.prog 104 #[.pointer (some ⟨g, 0, none⟩)] w fun e w' => e = .returned (.pointer none) ∧ Ext [] w w' := by
  have H := (St.init [] w).read (.is g _) h (by simp)
  have he' : Hid (∀ w', Ext [] w w' → ErrAt w') := fun w' e => errAt_ext he e
  have hx1 := Lib.hid hx.out.1
  have hx2 := Lib.hid hx.out.2
  clear h he
  have hc := H.cells; simp only [CellsOf, KnCells, knc, Nat.reduceAdd] at hc
  go_enter Tryd.func104, Tryd.ntmps104
  go_wp2_with (first
    | go_skip
    | ((first
        | (go_at_call 50; refine Calls.mono (newVersion_bad _ hx1 (by have := hx2.out; omega) _ (he'.out _ H.ext)) ?_; rintro e w' ⟨v, rfl, H'⟩; replace H := H.of_ext H'; clear H')
        | (refine loud_ rfl ?_; refine wpList_plain rfl (fun K hK => ?_); (first | (refine op_box _ _ rfl H (fun b w' H1 => hK _ _ ?_)) | (refine op_alloc _ rfl (zero_of _ _ rfl) H (fun b w' H1 => hK _ _ ?_)) | (refine op_store _ _ _ rfl rfl rfl H (by repeat (first | exact Split.here _ _ | apply Split.there)) (by kernel_rfl) (by kernel_rfl) (by kernel_rfl) (fun w' H1 => hK _ _ ?_)) | (refine op_buildSlice_all _ _ _ rfl (by first | exact elem22 | exact elem39 | exact elem76 | exact elem154) (by kernel_rfl) (by kernel_rfl) (by kernel_rfl) H (fun b w' H1 => hK _ _ ?_))); clear hK K; replace H := H1; clear H1)); (try clear hc); (try simp only [nrm, splice, Value.cells, Nat.reduceAdd, Act.eval, Act.put] at H); have hc := H.cells; simp only [CellsOf, KnCells, knc, Nat.reduceAdd] at hc))
  go_ret
  exact ⟨rfl, H.ext⟩

theorem gGetStorageVersion_ok (g : Nat) (d : VD) (o : Vo) (x : Vr) (hx : Hid (VText d.st x)) (w : World) (h : w.heap[g]? = some (guard d o)) :
    Calls Tryd.prog 107 #[.pointer (some ⟨g, 0, none⟩)] w fun e w' => ∃ q, e = .returned (.pointer (some ⟨q, 0, none⟩)) ∧ St [] w w' [(true, .is q (x.obj 62))] := by
  have H := (St.init [] w).read (.is g _) h (by simp)
  clear h
  have hc := H.cells; simp only [CellsOf, KnCells, knc, Nat.reduceAdd] at hc
  go_enter Tryd.func107, Tryd.ntmps107
  go_wp2_with (first
    | go_skip
    | ((first
        | (go_at_call 50; refine Calls.mono (newVersion_ok _ x hx.out _) ?_; rintro e w' ⟨q, rfl, H'⟩; replace H := H.merge (by first | exact Strikes.nil _ | (repeat (first | exact Strikes.nil _ | (apply Strikes.cons; focus (repeat (first | exact Split.here _ _ | apply Split.there)))))) H' rfl; clear H')
        | (refine loud_ rfl ?_; refine wpList_plain rfl (fun K hK => ?_); (first | (refine op_box _ _ rfl H (fun b w' H1 => hK _ _ ?_)) | (refine op_alloc _ rfl (zero_of _ _ rfl) H (fun b w' H1 => hK _ _ ?_)) | (refine op_store _ _ _ rfl rfl rfl H (by repeat (first | exact Split.here _ _ | apply Split.there)) (by kernel_rfl) (by kernel_rfl) (by kernel_rfl) (fun w' H1 => hK _ _ ?_)) | (refine op_buildSlice_all _ _ _ rfl (by first | exact elem22 | exact elem39 | exact elem76 | exact elem154) (by kernel_rfl) (by kernel_rfl) (by kernel_rfl) H (fun b w' H1 => hK _ _ ?_))); clear hK K; replace H := H1; clear H1)); (try clear hc); (try simp only [nrm, splice, Value.cells, Nat.reduceAdd, Act.eval, Act.put] at H); have hc := H.cells; simp only [CellsOf, KnCells, knc, Nat.reduceAdd] at hc))
  go_ret
  exact ⟨q, rfl, H.sel (by repeat (first | exact Sel.nil _ | (apply Sel.cons; focus (repeat (first | exact Split.here _ _ | apply Split.there)))))⟩
theorem gGetStorageVersion_no (g : Nat) (d : VD) (o : Vo) (hx : Hid (VOpt d.st none)) (w : World) (he : ErrAt w) (h : w.heap[g]? = some (guard d o)) :
    Calls Tryd.prog 107 #[.pointer (some ⟨g, 0, none⟩)] w fun e w' => e = .returned (.pointer none) ∧ Ext [] w w' := by
  have H := (St.init [] w).read (.is g _) h (by simp)
  have he' : Hid (∀ w', Ext [] w w' → ErrAt w') := fun w' e => errAt_ext he e
  have hx1 := Lib.hid hx.out.1
  have hx2 := Lib.hid hx.out.2
  clear h he
  have hc := H.cells; simp only [CellsOf, KnCells, knc, Nat.reduceAdd] at hc
  go_enter Tryd.func107, Tryd.ntmps107
  go_wp2_with (first
    | go_skip
    | ((first
        | (go_at_call 50; refine Calls.mono (newVersion_bad _ hx1 (by have := hx2.out; omega) _ (he'.out _ H.ext)) ?_; rintro e w' ⟨v, rfl, H'⟩; replace H := H.of_ext H'; clear H')
        | (refine loud_ rfl ?_; refine wpList_plain rfl (fun K hK => ?_); (first | (refine op_box _ _ rfl H (fun b w' H1 => hK _ _ ?_)) | (refine op_alloc _ rfl (zero_of _ _ rfl) H (fun b w' H1 => hK _ _ ?_)) | (refine op_store _ _ _ rfl rfl rfl H (by repeat (first | exact Split.here _ _ | apply Split.there)) (by kernel_rfl) (by kernel_rfl) (by kernel_rfl) (fun w' H1 => hK _ _ ?_)) | (refine op_buildSlice_all _ _ _ rfl (by first | exact elem22 | exact elem39 | exact elem76 | exact elem154) (by kernel_rfl) (by kernel_rfl) (by kernel_rfl) H (fun b w' H1 => hK _ _ ?_))); clear hK K; replace H := H1; clear H1)); (try clear hc); (try simp only [nrm, splice, Value.cells, Nat.reduceAdd, Act.eval, Act.put] at H); have hc := H.cells; simp only [CellsOf, KnCells, knc, Nat.reduceAdd] at hc))
  go_ret
  exact ⟨rfl, H.ext⟩

theorem gInfo_no (g : Nat) (d : VD) (o : Vo) (hd : d.hd = false) (w : World) (h : w.heap[g]? = some (guard d o)) :
    Calls Tryd.prog 105 #[.pointer (some ⟨g, 0, none⟩)] w fun e w' => e = .returned (.pointer none) ∧ Ext [] w w' := by
  have H := (St.init [] w).read (.is g _) h (by simp)
  clear h
  obtain ⟨cl, st, tg, dn, hdn, at', n, cap⟩ := d
  simp only at hd
  subst hd
  have hc := H.cells; simp only [CellsOf, KnCells, knc, Nat.reduceAdd] at hc
  go_enter Tryd.func105, Tryd.ntmps105
  go_wp2_with (first
    | ((first
        | (refine loud_ rfl ?_; refine wpList_plain rfl (fun K hK => ?_); (first | (refine op_box _ _ rfl H (fun b w' H1 => hK _ _ ?_)) | (refine op_alloc _ rfl (zero_of _ _ rfl) H (fun b w' H1 => hK _ _ ?_)) | (refine op_store _ _ _ rfl rfl rfl H (by repeat (first | exact Split.here _ _ | apply Split.there)) (by kernel_rfl) (by kernel_rfl) (by kernel_rfl) (fun w' H1 => hK _ _ ?_)) | (refine op_buildSlice_all _ _ _ rfl (by first | exact elem22 | exact elem39 | exact elem76 | exact elem154) (by kernel_rfl) (by kernel_rfl) (by kernel_rfl) H (fun b w' H1 => hK _ _ ?_))); clear hK K; replace H := H1; clear H1)); (try clear hc); (try simp only [nrm, splice, Value.cells, Nat.reduceAdd, Act.eval, Act.put] at H); have hc := H.cells; simp only [CellsOf, KnCells, knc, Nat.reduceAdd] at hc))
  go_ret
  exact ⟨rfl, H.ext⟩
theorem gInfo_ok (g : Nat) (d : VD) (o : Vo) (hd : d.hd = true) (w : World) (h : w.heap[g]? = some (guard d o)) :
    Calls Tryd.prog 105 #[.pointer (some ⟨g, 0, none⟩)] w fun e w' => ∃ q, e = .returned (.pointer (some ⟨q, 0, none⟩)) ∧ St [] w w' [(true, .is q (.cells #[.string d.tg, .bool d.dn] 81 (0, 0)))] := by
  have H := (St.init [] w).read (.is g _) h (by simp)
  clear h
  obtain ⟨cl, st, tg, dn, hdn, at', n, cap⟩ := d
  simp only at hd
  subst hd
  have hc := H.cells; simp only [CellsOf, KnCells, knc, Nat.reduceAdd] at hc
  go_enter Tryd.func105, Tryd.ntmps105
  go_wp2_with (first
    | ((first
        | (refine loud_ rfl ?_; refine wpList_plain rfl (fun K hK => ?_); (first | (refine op_box _ _ rfl H (fun b w' H1 => hK _ _ ?_)) | (refine op_alloc _ rfl (zero_of _ _ rfl) H (fun b w' H1 => hK _ _ ?_)) | (refine op_store _ _ _ rfl rfl rfl H (by repeat (first | exact Split.here _ _ | apply Split.there)) (by kernel_rfl) (by kernel_rfl) (by kernel_rfl) (fun w' H1 => hK _ _ ?_)) | (refine op_buildSlice_all _ _ _ rfl (by first | exact elem22 | exact elem39 | exact elem76 | exact elem154) (by kernel_rfl) (by kernel_rfl) (by kernel_rfl) H (fun b w' H1 => hK _ _ ?_))); clear hK K; replace H := H1; clear H1)); (try clear hc); (try simp only [nrm, splice, Value.cells, Nat.reduceAdd, Act.eval, Act.put] at H); have hc := H.cells; simp only [CellsOf, KnCells, knc, Nat.reduceAdd] at hc))
  (try simp only [Act.put, slt])
  refine wp_region_plan (.p [0, 1, 2, 3] (.q [4] (.p [5, 6, 7, 8] (.q [9] (.p [10] (.e 11 (.p [12] .done))))))) [11] (by kernel_rfl) (by kernel_rfl) (fun _ _ d _ _ h => by cases d <;> exact h) H ?_
  clear H
  (try clear hc)
  intro X nX fX wd hcf hS H
  simp only [CellsOf, KnCells, knc, Nat.reduceAdd] at hcf
  have hc := H.cells
  simp only [CellsOf, KnCells, knc, Nat.reduceAdd] at hc
  iterate 4 (refine plan_p (o := ⟨_, _, _, _, _, _⟩) rfl (fun N hN => ?_); go_big_quiet_step (fail); refine wpQuiet_nil (hN _ ?_); clear hN N)
  refine plan_p0 ?_
  iterate 1 (refine plan_q (o := ⟨_, _, _, _, _, _⟩) rfl (fun N hN => ?_); go_big_quiet_step (fail); refine wpQuiet_nil (hN _ ?_); clear hN N)
  refine plan_q0 ?_
  iterate 4 (refine plan_p (o := ⟨_, _, _, _, _, _⟩) rfl (fun N hN => ?_); go_big_quiet_step (fail); refine wpQuiet_nil (hN _ ?_); clear hN N)
  refine plan_p0 ?_
  iterate 1 (refine plan_q (o := ⟨_, _, _, _, _, _⟩) rfl (fun N hN => ?_); go_big_quiet_step (fail); refine wpQuiet_nil (hN _ ?_); clear hN N)
  refine plan_q0 ?_
  iterate 1 (refine plan_p (o := ⟨_, _, _, _, _, _⟩) rfl (fun N hN => ?_); go_big_quiet_step (fail); refine wpQuiet_nil (hN _ ?_); clear hN N)
  refine plan_p0 ?_
  refine plan_e (o := ⟨_, _, _, _, _, _⟩) rfl rfl (fun K hK => ?_)
  (first | (refine op_box _ _ rfl H (fun b w' H1 => ?_); replace H := H1; clear H1) | (refine op_alloc _ rfl (zero_of _ _ rfl) H (fun b w' H1 => ?_); replace H := H1; clear H1) | (refine op_store _ _ _ rfl rfl rfl H (by repeat (first | exact Split.here _ _ | apply Split.there)) (by kernel_rfl) (by kernel_rfl) (by kernel_rfl) (fun w' H1 => ?_); replace H := H1; clear H1) | (refine op_buildSlice_all _ _ _ rfl (by first | exact elem22 | exact elem39 | exact elem76 | exact elem154) (by kernel_rfl) (by kernel_rfl) (by kernel_rfl) H (fun b w' H1 => ?_); replace H := H1; clear H1)); (try clear hc); (try simp only [nrm, splice, Value.cells, Nat.reduceAdd, Act.eval, Act.put] at H); have hc := H.cells; simp only [CellsOf, KnCells, knc, Nat.reduceAdd] at hc; refine hK _ _ (fun h => (h (by decide)).elim) ?_; clear hK K; (try simp only [Act.put, slt])
  iterate 1 (refine plan_p (o := ⟨_, _, _, _, _, _⟩) rfl (fun N hN => ?_); go_big_quiet_step (fail); refine wpQuiet_nil (hN _ ?_); clear hN N)
  refine plan_p0 ?_
  refine plan_done ?_
  go_wp2_with (first
    | ((first
        | (refine loud_ rfl ?_; refine wpList_plain rfl (fun K hK => ?_); (first | (refine op_box _ _ rfl H (fun b w' H1 => hK _ _ ?_)) | (refine op_alloc _ rfl (zero_of _ _ rfl) H (fun b w' H1 => hK _ _ ?_)) | (refine op_store _ _ _ rfl rfl rfl H (by repeat (first | exact Split.here _ _ | apply Split.there)) (by kernel_rfl) (by kernel_rfl) (by kernel_rfl) (fun w' H1 => hK _ _ ?_)) | (refine op_buildSlice_all _ _ _ rfl (by first | exact elem22 | exact elem39 | exact elem76 | exact elem154) (by kernel_rfl) (by kernel_rfl) (by kernel_rfl) H (fun b w' H1 => hK _ _ ?_))); clear hK K; replace H := H1; clear H1)); (try clear hc); (try simp only [nrm, splice, Value.cells, Nat.reduceAdd, Act.eval, Act.put] at H); have hc := H.cells; simp only [CellsOf, KnCells, knc, Nat.reduceAdd] at hc))
  go_ret
  exact ⟨_, rfl, H.sel (by repeat (first | exact Sel.nil _ | (apply Sel.cons; focus (repeat (first | exact Split.here _ _ | apply Split.there)))))⟩

theorem gNotify (g : Nat) (c : Value) (w : World) : Calls Tryd.prog 108 #[.pointer (some ⟨g, 0, none⟩), c] w fun e w' => e = .returned .nilIface ∧ Ext [] w w' := by
  have H := St.init [] w
  go_enter Tryd.func108, Tryd.ntmps108
  go_wp2_with (first
    | ((first
        | (refine loud_ rfl ?_; refine wpList_plain rfl (fun K hK => ?_); (first | (refine op_box _ _ rfl H (fun b w' H1 => hK _ _ ?_)) | (refine op_alloc _ rfl (zero_of _ _ rfl) H (fun b w' H1 => hK _ _ ?_)) | (refine op_store _ _ _ rfl rfl rfl H (by repeat (first | exact Split.here _ _ | apply Split.there)) (by kernel_rfl) (by kernel_rfl) (by kernel_rfl) (fun w' H1 => hK _ _ ?_)) | (refine op_buildSlice_all _ _ _ rfl (by first | exact elem22 | exact elem39 | exact elem76 | exact elem154) (by kernel_rfl) (by kernel_rfl) (by kernel_rfl) H (fun b w' H1 => hK _ _ ?_))); clear hK K; replace H := H1; clear H1)); (try clear hc); (try simp only [nrm, splice, Value.cells, Nat.reduceAdd, Act.eval, Act.put] at H); have hc := H.cells; simp only [CellsOf, KnCells, knc, Nat.reduceAdd] at hc))
  go_ret
  exact ⟨rfl, H.ext⟩
set_option maxRecDepth 8000 in
theorem gUpdCl (g : Nat) (d : VD) (o : Vo) (t : ByteArray) (S : List Nat) (w : World) (H : St S w w [(true, .is g (guard d o))]) :
    Calls Tryd.prog 109 #[.pointer (some ⟨g, 0, none⟩), .string t] w fun e w' => e = .returned (.tuple #[]) ∧ St S w w' [(true, .is g (guard d { o with cl := t }))] := by
  have hc := H.cells; simp only [CellsOf, KnCells, knc, Nat.reduceAdd] at hc
  go_enter Tryd.func109, Tryd.ntmps109
  go_wp2_with (first
    | ((first
        | (refine loud_ rfl ?_; refine wpList_plain rfl (fun K hK => ?_); (first | (refine op_box _ _ rfl H (fun b w' H1 => hK _ _ ?_)) | (refine op_alloc _ rfl (zero_of _ _ rfl) H (fun b w' H1 => hK _ _ ?_)) | (refine op_store _ _ _ rfl rfl rfl H (by repeat (first | exact Split.here _ _ | apply Split.there)) (by kernel_rfl) (by kernel_rfl) (by kernel_rfl) (fun w' H1 => hK _ _ ?_)) | (refine op_buildSlice_all _ _ _ rfl (by first | exact elem22 | exact elem39 | exact elem76 | exact elem154) (by kernel_rfl) (by kernel_rfl) (by kernel_rfl) H (fun b w' H1 => hK _ _ ?_))); clear hK K; replace H := H1; clear H1)); (try clear hc); (try simp only [nrm, splice, Value.cells, Nat.reduceAdd, Act.eval, Act.put] at H); have hc := H.cells; simp only [CellsOf, KnCells, knc, Nat.reduceAdd] at hc))
  go_end0
  exact ⟨rfl, H⟩
set_option maxRecDepth 8000 in
theorem gUpdSt (g : Nat) (d : VD) (o : Vo) (x : Vr) (hx : x.Ok) (S : List Nat) (w : World) (H : St S w w [(true, .is g (guard d o)), genv]) :
    Calls Tryd.prog 110 #[.pointer (some ⟨g, 0, none⟩), x.val] w fun e w' => e = .returned .nilIface ∧ St S w w' [(true, .is g (guard d { o with st := vstr x }))] := by
  obtain ⟨x1, x2, x3⟩ := x
  have hx' := Lib.hid hx
  clear hx
  have hc := H.cells; simp only [CellsOf, KnCells, knc, Nat.reduceAdd] at hc
  go_enter Tryd.func110, Tryd.ntmps110
  go_wp2_with (first
    | go_skip
    | ((first
        | (go_at_call 48; refine Calls.mono (string_calls ⟨x1, x2, x3⟩ hx'.out _ (H.rep (R := GEnv) (by repeat (first | exact Split.here _ _ | apply Split.there))).1) ?_; rintro e w' ⟨rfl, H'⟩; replace H := H.of_ext H'; clear H')
        | (refine loud_ rfl ?_; refine wpList_plain rfl (fun K hK => ?_); (first | (refine op_box _ _ rfl H (fun b w' H1 => hK _ _ ?_)) | (refine op_alloc _ rfl (zero_of _ _ rfl) H (fun b w' H1 => hK _ _ ?_)) | (refine op_store _ _ _ rfl rfl rfl H (by repeat (first | exact Split.here _ _ | apply Split.there)) (by kernel_rfl) (by kernel_rfl) (by kernel_rfl) (fun w' H1 => hK _ _ ?_)) | (refine op_buildSlice_all _ _ _ rfl (by first | exact elem22 | exact elem39 | exact elem76 | exact elem154) (by kernel_rfl) (by kernel_rfl) (by kernel_rfl) H (fun b w' H1 => hK _ _ ?_))); clear hK K; replace H := H1; clear H1)); (try clear hc); (try simp only [nrm, splice, Value.cells, Nat.reduceAdd, Act.eval, Act.put] at H); have hc := H.cells; simp only [CellsOf, KnCells, knc, Nat.reduceAdd] at hc))
  go_ret
  exact ⟨rfl, H.sel (by repeat (first | exact Sel.nil _ | (apply Sel.cons; focus (repeat (first | exact Split.here _ _ | apply Split.there)))))⟩
set_option maxRecDepth 8000 in
theorem gEnable (g p : Nat) (d : VD) (o : Vo) (c : Value) (x : Vr) (hx : x.Ok) (S : List Nat) (w : World) (H : St S w w [(true, .is g (guard d o)), (false, .is p (x.obj 62)), genv]) :
    Calls Tryd.prog 103 #[.pointer (some ⟨g, 0, none⟩), c, .pointer (some ⟨p, 0, none⟩)] w fun e w' => e = .returned .nilIface ∧ St S w w' [(true, .is g (guard d { o with en := true, tg := vstr x }))] := by
  obtain ⟨x1, x2, x3⟩ := x
  have hx' := Lib.hid hx
  clear hx
  have hc := H.cells; simp only [CellsOf, KnCells, knc, Nat.reduceAdd] at hc
  go_enter Tryd.func103, Tryd.ntmps103
  go_wp2_with (first
    | go_skip
    | ((first
        | (go_at_call 48; refine Calls.mono (string_calls ⟨x1, x2, x3⟩ hx'.out _ (H.rep (R := GEnv) (by repeat (first | exact Split.here _ _ | apply Split.there))).1) ?_; rintro e w' ⟨rfl, H'⟩; replace H := H.of_ext H'; clear H')
        | (refine loud_ rfl ?_; refine wpList_plain rfl (fun K hK => ?_); (first | (refine op_box _ _ rfl H (fun b w' H1 => hK _ _ ?_)) | (refine op_alloc _ rfl (zero_of _ _ rfl) H (fun b w' H1 => hK _ _ ?_)) | (refine op_store _ _ _ rfl rfl rfl H (by repeat (first | exact Split.here _ _ | apply Split.there)) (by kernel_rfl) (by kernel_rfl) (by kernel_rfl) (fun w' H1 => hK _ _ ?_)) | (refine op_buildSlice_all _ _ _ rfl (by first | exact elem22 | exact elem39 | exact elem76 | exact elem154) (by kernel_rfl) (by kernel_rfl) (by kernel_rfl) H (fun b w' H1 => hK _ _ ?_))); clear hK K; replace H := H1; clear H1)); (try clear hc); (try simp only [nrm, splice, Value.cells, Nat.reduceAdd, Act.eval, Act.put] at H); have hc := H.cells; simp only [CellsOf, KnCells, knc, Nat.reduceAdd] at hc))
  go_ret
  exact ⟨rfl, H.sel (by repeat (first | exact Sel.nil _ | (apply Sel.cons; focus (repeat (first | exact Split.here _ _ | apply Split.there)))))⟩
set_option maxRecDepth 8000 in
theorem gCancel (g : Nat) (d : VD) (o : Vo) (c : Value) (S : List Nat) (w : World) (H : St S w w [(true, .is g (guard d o))]) :
    Calls Tryd.prog 102 #[.pointer (some ⟨g, 0, none⟩), c] w fun e w' => e = .returned .nilIface ∧ St S w w' [(true, .is g (guard d { o with canc := true }))] := by
  have hc := H.cells; simp only [CellsOf, KnCells, knc, Nat.reduceAdd] at hc
  go_enter Tryd.func102, Tryd.ntmps102
  go_wp2_with (first
    | ((first
        | (refine loud_ rfl ?_; refine wpList_plain rfl (fun K hK => ?_); (first | (refine op_box _ _ rfl H (fun b w' H1 => hK _ _ ?_)) | (refine op_alloc _ rfl (zero_of _ _ rfl) H (fun b w' H1 => hK _ _ ?_)) | (refine op_store _ _ _ rfl rfl rfl H (by repeat (first | exact Split.here _ _ | apply Split.there)) (by kernel_rfl) (by kernel_rfl) (by kernel_rfl) (fun w' H1 => hK _ _ ?_)) | (refine op_buildSlice_all _ _ _ rfl (by first | exact elem22 | exact elem39 | exact elem76 | exact elem154) (by kernel_rfl) (by kernel_rfl) (by kernel_rfl) H (fun b w' H1 => hK _ _ ?_))); clear hK K; replace H := H1; clear H1)); (try clear hc); (try simp only [nrm, splice, Value.cells, Nat.reduceAdd, Act.eval, Act.put] at H); have hc := H.cells; simp only [CellsOf, KnCells, knc, Nat.reduceAdd] at hc))
  go_ret
  exact ⟨rfl, H⟩
end Go.Proofs.YtdcijhdjddiboaaDoor
