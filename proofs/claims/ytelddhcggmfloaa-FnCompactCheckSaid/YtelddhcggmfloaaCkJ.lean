import Derived.Test.YtelddhcggmfloaaCkI2
import Derived.Deep.DeepCutAuto
-- MORE
-- SUB2
namespace Go.Proofs.Ytelddhcggmfloaa
set_option linter.unusedVariables false
set_option linter.unusedSimpArgs false
set_option linter.unnecessarySimpa false
open Go Go.RowKit Go.V

abbrev ownO (h : KH) : Obj := .cells #[.int .u32 h.hash, .int .i64 h.compact, .int .i64 h.rev] 55 (0, 0)
def CkTold (own : Int) (h : KH) (ps : List Pr) (last : Int) (r : Bool) (last' : Int) (zs : List Int) : Prop :=
  ((grps (prs own h ps)).length = 1 ∧ zs = [] ∧ r = decide ((ps.filter (selP h)).length = ps.length) ∧ last' = if (ps.filter (selP h)).length = ps.length then max last h.rev else last) ∨
  ((grps (prs own h ps)).length ≠ 1 ∧ r = true ∧ last' = last ∧ ((∃ x ∈ grps (prs own h ps), (ps.length + 1) / 2 + 1 ≤ x.2.length ∧ zs.Perm (((grps (prs own h ps)).filter fun y => decide (y.1 ≠ x.1)).flatMap (·.2))) ∨
    ((∀ x ∈ grps (prs own h ps), x.2.length < (ps.length + 1) / 2 + 1) ∧ zs = [0])))
def CkPost (cb hb : Nat) (f s : KH) (rev2 asked own : Int) (pv hv rv : Value) (an : Nat) (axs : List Value) (h : KH) (ps : List Pr) (last : Int) (S : List Nat) (w : World) (e : Ending) (w' : World) : Prop :=
  ∃ (r : Bool) (last' : Int) (zs : List Int) (key' : Option Nat) (an' cap' : Nat), Hid (CkTold own h ps last r last' zs) ∧ Hid (an' = an + zs.length) ∧ e = .returned (.bool r) ∧
    St S w w' [(true, .is cb (chkO hb last')), (true, .is hb (hasO f s rev2 asked own pv hv (sl key' an' cap') rv)), (true, .row key' 27 1 an' cap' (axs ++ zs.map iv))]
def AtGr (n : Nat) (own : Int) (h : KH) (ps : List Pr) (bs fp : List Nat) (src : Option Addr) (mb cb hb b4 : Nat) (cO hO : Obj) (aR : Kn) (S : List Nat) (w : World) (cv i : Value) (wr : World) : Prop :=
  ∃ (j m : Nat) (es : Array MapEntry) (clock : Nat) (gs : List Gp), j ≤ n ∧ i = .int .i64 j ∧ cv = .int .i64 m ∧ m ≤ j ∧ Hid (m = ((ps.take j).filter (selP h)).length) ∧ Hid (gs.map Gp.pl = grps (prs own h (ps.take j))) ∧ Hid (KVB uk es clock (gAL gs)) ∧ Hid ((∀ g ∈ gs, g.ids.length ≤ m + 1) ∧ gs.length ≤ m + 1) ∧
    St S w wr [(true, .is mb (.map es clock)), (true, bag (gX gs)), (true, .is cb cO), (true, .is hb hO), (true, aR), (false, .is b4 (ownO h)), (false, .rep fp (PrsAt bs ps fp)), (false, soft src (bs.map pt))]
def AtR1 (es : Array MapEntry) (clock : Nat) (gs : List Gp) (q mb r cb hb : Nat) (cO hO : Obj) (aR : Kn) (S : List Nat) (w : World) (qv : Value) (wr : World) : Prop :=
  ∃ (seen : Array Nat) (gs1 : List MapEntry), qv = .bool false ∧ Hid (SeenIs es seen gs1 ∧ ∀ e ∈ gs1, ∃ g ∈ gs, e.key = uk g.hash ∧ g.ids.length < q) ∧
    St S w wr [(true, .is r (.mapIter (some mb) clock seen clock)), (true, .is mb (.map es clock)), (true, bag (gX gs)), (true, .is cb cO), (true, .is hb hO), (true, aR)]
def R2Is (es : Array MapEntry) (gs : List Gp) (an : Nat) (seen : Array Nat) (gs1 : List MapEntry) (gl : List Gp) (zs : List Int) (anum : Nat) : Prop :=
  SeenIs es seen gs1 ∧ gs1.map (·.key) = gl.map (fun g => uk g.hash) ∧ (∀ g ∈ gl, g ∈ gs) ∧ zs = gl.flatMap Gp.ids ∧ anum = an + zs.length ∧ gl.length = gs1.length
def AtR2 (es : Array MapEntry) (clock : Nat) (gs : List Gp) (mb r cb hb : Nat) (cO : Obj) (f s : KH) (rev2 asked own : Int) (pv hv rv : Value) (an : Nat) (axs : List Value) (S : List Nat) (w : World) (_ : Value) (wr : World) : Prop :=
  ∃ (seen : Array Nat) (gs1 : List MapEntry) (gl : List Gp) (zs : List Int) (anum : Nat) (key : Option Nat) (cap : Nat), Hid (R2Is es gs an seen gs1 gl zs anum) ∧ anum ≤ 1000 + gl.length * 1001 ∧
    St S w wr [(true, .is r (.mapIter (some mb) clock seen clock)), (true, .is mb (.map es clock)), (true, bag (gX gs)), (true, .is cb cO), (true, .is hb (hasO f s rev2 asked own pv hv (sl key anum cap) rv)), (true, .row key 27 1 anum cap (axs ++ zs.map iv))]
def AtR3 (es : Array MapEntry) (clock : Nat) (mb r : Nat) (L : List Ent) (S : List Nat) (w : World) (_ : Value) (wr : World) : Prop :=
  ∃ (seen : Array Nat) (gs1 : List MapEntry), Hid (SeenIs es seen gs1) ∧ St S w wr ((true, .is r (.mapIter (some mb) clock seen clock)) :: (true, .is mb (.map es clock)) :: L)
def AtIn (gn : Nat) (ids : List Int) (gR : Kn) (hb anum : Nat) (f s : KH) (rev2 asked own : Int) (pv hv rv : Value) (ys : List Value) (L : List Ent) (S : List Nat) (w : World) (i : Value) (wr : World) : Prop :=
  ∃ (k : Nat) (key : Option Nat) (cap : Nat), i = .int .i64 k ∧ k ≤ gn ∧
    St S w wr ((true, gR) :: (true, .is hb (hasO f s rev2 asked own pv hv (sl key (anum + k) cap) rv)) :: (true, .row key 27 1 (anum + k) cap (ys ++ (ids.take k).map iv)) :: L)
set_option maxRecDepth 8000 in
set_option maxHeartbeats 8000000 in
theorem check_calls (cb hb : Nat) (last : Int) (f s h : KH) (rev2 asked own : Int) (pv hv rv : Value) (akey : Option Nat) (an acap : Nat) (axs : List Value) (bs fp : List Nat) (ps : List Pr) (src : Option Addr) (n c : Nat) (hn : Hid (ps.length = n)) (hl : n ≤ 1000) (han : an ≤ 1000) (S : List Nat) (w : World)
    (H : St S w w [(true, .is cb (chkO hb last)), (true, .is hb (hasO f s rev2 asked own pv hv (sl akey an acap) rv)), (true, .row akey 27 1 an acap axs), (false, .rep fp (PrsAt bs ps fp)), (false, soft src (bs.map pt))]) :
    Calls Try.prog 43 #[pt cb, h.val, .slice src n c] w (CkPost cb hb f s rev2 asked own pv hv rv an axs h ps last S w) := by
  have h1 := me_own hb
  have h2 := na_own hb
  have h3 := me_trig hb
  have h4 := na_trig hb
  have hbl := (H.rep (R := PrsAt bs ps fp) (fp := fp) (by repeat (first | exact Split.here _ _ | apply Split.there))).len
  obtain ⟨fh, fc, fr⟩ := h
  have hc := H.cells; simp only [CellsOf, KnCells, knc, Nat.reduceAdd] at hc
  go_enter Try.func43, Try.ntmps43
  repeat' (first | (go_big_may; (first
    | go_skip
    | (refine wpList_plain rfl (fun K hK => ?_); (refine op_newMap _ rfl H (fun mb w' H1 => hK _ _ ?_); clear hK K; replace H := H1; clear H1; (try clear hc); (try simp only [nrm, splice, Value.cells, Nat.reduceAdd, Act.eval, Act.put] at H); have hc := H.cells; simp only [CellsOf, KnCells, knc, Nat.reduceAdd] at hc))
    | (refine wpList_plain rfl (fun K hK => ?_); (refine op_putB _ _ _ _ _ _ (.inr rfl) Try.underlying139 keyH rfl rfl rfl H (by repeat (first | exact Split.here _ _ | apply Split.there)) (kvb_nil _) (fun es clock w' hkv H1 => hK _ _ ?_); clear hK K; replace H := H1; clear H1; (try clear hc); (try simp only [nrm, splice, Value.cells, Nat.reduceAdd, Act.eval, Act.put] at H); have hc := H.cells; simp only [CellsOf, KnCells, knc, Nat.reduceAdd] at hc))
    | ((first
        | (go_at_call 94; refine Calls.mono (own_calls hb f s rev2 asked own _ _ _ _ _ (H.pick (by repeat (first | exact Picks.nil _ | (apply Picks.wr; focus (repeat (first | exact Split.here _ _ | apply Split.there))) | (apply Picks.rd; focus (repeat (first | exact Split.here _ _ | apply Split.there))))))) ?_; rintro e w' ⟨rfl, H'⟩; replace H := H.of_ext H'; clear H')
        | (refine loud_ rfl ?_; refine wpList_plain rfl (fun K hK => ?_); (first | (refine op_box _ _ rfl H (fun b w' H1 => hK _ _ ?_)) | (refine op_alloc _ rfl (zero_of _ _ rfl) H (fun b w' H1 => hK _ _ ?_)) | (refine op_store _ _ _ rfl rfl rfl H (by repeat (first | exact Split.here _ _ | apply Split.there)) (by kernel_rfl) (by kernel_rfl) (by kernel_rfl) (fun w' H1 => hK _ _ ?_)) | (refine op_buildSlice_all _ _ _ rfl (by first | exact elem25 | exact elem32 | exact elem35 | exact elem36 | exact elem37 | exact elem38 | exact elem41 | exact elem42 | exact elem45 | exact elem57 | exact elem62 | exact elem74 | exact elem98 | exact elem100 | exact elem137 | exact elem178 | exact elem179) (by kernel_rfl) (by kernel_rfl) (by kernel_rfl) H (fun b w' H1 => hK _ _ ?_))); clear hK K; replace H := H1; clear H1)); (try clear hc); (try simp only [nrm, splice, Value.cells, Nat.reduceAdd, Act.eval, Act.put] at H); have hc := H.cells; simp only [CellsOf, KnCells, knc, Nat.reduceAdd] at hc))) | go_values | go_skip | go_guarded | go_step | go_upon | go_back | dsimp only)
  rename_i b4 _ _ _ _ _ _
  have hkv1 : Hid (KVB uk es clock (gAL [⟨fh, b, 1, [own]⟩])) := hkv
  clear hkv
  replace H := lit_row H (b := b) (v := .int .u64 own) (by repeat (first | exact Split.here _ _ | apply Split.there))
  (try simp only [List.append, List.nil_append, List.cons_append] at H)
  replace H := H.ro (k := .is b4 _) (by repeat (first | exact Split.here _ _ | apply Split.there))
  (try simp only [List.append] at H)
  replace H := st_fold (X := gX [⟨fh, b, 1, [own]⟩]) rfl H
  have hA0 : AtGr n own ⟨fh, fc, fr⟩ ps bs fp src mb cb hb b4 (chkO hb last) (hasO f s rev2 asked own pv hv (sl akey an acap) rv) (.row akey 27 1 an acap axs) S w (.int .i64 0) (.int .i64 0) w' :=
    ⟨0, 0, es, clock, [⟨fh, b, 1, [own]⟩], Nat.zero_le _, rfl, rfl, Nat.le_refl _, rfl, rfl, hkv1, by simp [Hid], H.sel (by repeat (first | exact Sel.nil _ | (apply Sel.cons; focus (repeat (first | exact Split.here _ _ | apply Split.there)))))⟩
  clear H hc hkv1
  have hz0 : ∀ w, (zeroValue 138).run Try.prog w = .ok (.slice none 0 0) w := fun w => by kernel_rfl
  go_loopw [9, 37] (AtGr n own ⟨fh, fc, fr⟩ ps bs fp src mb cb hb b4 (chkO hb last) (hasO f s rev2 asked own pv hv (sl akey an acap) rv) (.row akey 27 1 an acap axs) S w) (fun _ i _ => n - (intOf i).toNat)
  case atStart => exact hA0
  case round =>
    clear hA0
    obtain ⟨j, m, es, clock, gs, hj, rfl, rfl, hmj, hm, hpl, hkv, hsz, H⟩ := hrel
    by_cases hlt : j < n
    · have hj' : j < ps.length := by rw [hn.out]; exact hlt
      have hcat : Hid (ps.take (j + 1) = ps.take j ++ [ps[j]]) := (List.take_append_getElem hj').symm
      obtain ⟨b, hb9, hop⟩ := pr_open H (Split.there _ (Split.there _ (Split.there _ (Split.there _ (Split.there _ (Split.there _ (Split.here _ _))))))) j hj'
      have hb8 := Lib.hid hb9
      clear hb9
      generalize ps[j] = p at *
      obtain ⟨id, has, hash, compact, rev, err⟩ := p
      simp only at hop
      rcases hop with ⟨rfl, rb, hb2, H1⟩ | ⟨rfl, H1⟩
      · obtain ⟨c1, o1, rfl, H2⟩ := H1.elemSoft (Split.there _ (Split.there _ (Split.there _ (Split.there _ (Split.there _ (Split.there _ (Split.there _ (Split.there _ (Split.there _ (Split.there _ (Split.here _ _))))))))))) j [pt b] (by show 0 < 1; omega) (by rw [List.length_map, hbl]; show _ + 1 ≤ _; omega) (pt_at hb8.out)
        clear H H1 hj' hbl
        have H := H2
        clear H2
        by_cases e1 : compact = fc
        case neg =>
          have hno : selP ⟨fh, fc, fr⟩ ⟨id, true, hash, compact, rev, err⟩ = false := by simp [selP, e1]
          have hpl2 : Hid (gs.map Gp.pl = grps (prs own ⟨fh, fc, fr⟩ (ps.take (j + 1)))) := by
            show _ = _
            rw [hcat.out, prs_snoc_no hno, hpl.out]
          have hm2 : Hid (m = ((ps.take (j + 1)).filter (selP ⟨fh, fc, fr⟩)).length) := by
            show m = _
            rw [hcat.out, List.filter_append, List.length_append, ← hm.out]
            simp [hno]
          clear hcat hpl hm hno
          have hc := H.cells; simp only [CellsOf, KnCells, knc, Nat.reduceAdd] at hc
          repeat' (first | (go_big_may; (first
    | ((first
        | (refine loud_ rfl ?_; refine wpList_plain rfl (fun K hK => ?_); (first | (refine op_box _ _ rfl H (fun b w' H1 => hK _ _ ?_)) | (refine op_alloc _ rfl (zero_of _ _ rfl) H (fun b w' H1 => hK _ _ ?_)) | (refine op_store _ _ _ rfl rfl rfl H (by repeat (first | exact Split.here _ _ | apply Split.there)) (by kernel_rfl) (by kernel_rfl) (by kernel_rfl) (fun w' H1 => hK _ _ ?_)) | (refine op_buildSlice_all _ _ _ rfl (by first | exact elem25 | exact elem32 | exact elem35 | exact elem36 | exact elem37 | exact elem38 | exact elem41 | exact elem42 | exact elem45 | exact elem57 | exact elem62 | exact elem74 | exact elem98 | exact elem100 | exact elem137 | exact elem178 | exact elem179) (by kernel_rfl) (by kernel_rfl) (by kernel_rfl) H (fun b w' H1 => hK _ _ ?_))); clear hK K; replace H := H1; clear H1)); (try clear hc); (try simp only [nrm, splice, Value.cells, Nat.reduceAdd, Act.eval, Act.put] at H); have hc := H.cells; simp only [CellsOf, KnCells, knc, Nat.reduceAdd] at hc))) | go_values | go_skip | go_guarded | go_step | go_upon | go_back | dsimp only)
          (try simp only [Act.put, slt])
          refine wp_region_plan (.p [0, 1, 2] (.q [3] (.p [4, 5] (.q [6] (.p [7] (.q [8] (.p [9] .done))))))) [] (by kernel_rfl) (by kernel_rfl) (fun _ _ d _ _ h => by cases d <;> exact h) H ?_
          clear H
          (try clear hc)
          intro X nX fX wd hcf hS H
          simp only [CellsOf, KnCells, knc, Nat.reduceAdd] at hcf
          have hc := H.cells
          simp only [CellsOf, KnCells, knc, Nat.reduceAdd] at hc
          iterate 3 (refine plan_p (o := ⟨_, _, _, _, _, _⟩) rfl (fun N hN => ?_); go_big_quiet_step (fail); refine wpQuiet_nil (hN _ ?_); clear hN N)
          refine plan_p0 ?_
          iterate 1 (refine plan_q (o := ⟨_, _, _, _, _, _⟩) rfl (fun N hN => ?_); go_big_quiet_step (fail); refine wpQuiet_nil (hN _ ?_); clear hN N)
          refine plan_q0 ?_
          iterate 2 (refine plan_p (o := ⟨_, _, _, _, _, _⟩) rfl (fun N hN => ?_); go_big_quiet_step (fail); refine wpQuiet_nil (hN _ ?_); clear hN N)
          refine plan_p0 ?_
          iterate 1 (refine plan_q (o := ⟨_, _, _, _, _, _⟩) rfl (fun N hN => ?_); go_big_quiet_step (fail); refine wpQuiet_nil (hN _ ?_); clear hN N)
          refine plan_q0 ?_
          iterate 1 (refine plan_p (o := ⟨_, _, _, _, _, _⟩) rfl (fun N hN => ?_); go_big_quiet_step (fail); refine wpQuiet_nil (hN _ ?_); clear hN N)
          refine plan_p0 ?_
          iterate 1 (refine plan_q (o := ⟨_, _, _, _, _, _⟩) rfl (fun N hN => ?_); go_big_quiet_step (fail); refine wpQuiet_nil (hN _ ?_); clear hN N)
          refine plan_q0 ?_
          iterate 1 (refine plan_p (o := ⟨_, _, _, _, _, _⟩) rfl (fun N hN => ?_); go_big_quiet_step (fail); refine wpQuiet_nil (hN _ ?_); clear hN N)
          refine plan_p0 ?_
          refine plan_done ?_
          repeat' (first | (go_big_may; (first
    | ((first
        | (refine loud_ rfl ?_; refine wpList_plain rfl (fun K hK => ?_); (first | (refine op_box _ _ rfl H (fun b w' H1 => hK _ _ ?_)) | (refine op_alloc _ rfl (zero_of _ _ rfl) H (fun b w' H1 => hK _ _ ?_)) | (refine op_store _ _ _ rfl rfl rfl H (by repeat (first | exact Split.here _ _ | apply Split.there)) (by kernel_rfl) (by kernel_rfl) (by kernel_rfl) (fun w' H1 => hK _ _ ?_)) | (refine op_buildSlice_all _ _ _ rfl (by first | exact elem25 | exact elem32 | exact elem35 | exact elem36 | exact elem37 | exact elem38 | exact elem41 | exact elem42 | exact elem45 | exact elem57 | exact elem62 | exact elem74 | exact elem98 | exact elem100 | exact elem137 | exact elem178 | exact elem179) (by kernel_rfl) (by kernel_rfl) (by kernel_rfl) H (fun b w' H1 => hK _ _ ?_))); clear hK K; replace H := H1; clear H1)); (try clear hc); (try simp only [nrm, splice, Value.cells, Nat.reduceAdd, Act.eval, Act.put] at H); have hc := H.cells; simp only [CellsOf, KnCells, knc, Nat.reduceAdd] at hc))) | go_values | go_skip | go_guarded | go_step | go_upon | go_back | dsimp only)
          exact ⟨⟨j + 1, m, es, clock, gs, by omega, by go_num, rfl, by omega, hm2, hpl2, hkv, hsz, H.sel (by repeat (first | exact Sel.nil _ | (apply Sel.cons; focus (repeat (first | exact Split.here _ _ | apply Split.there)))))⟩, by simp [intOf]; omega⟩
        subst e1
        have hyes : selP ⟨fh, compact, fr⟩ ⟨id, true, hash, compact, rev, err⟩ = true := by simp [selP]
        have hpl2 : Hid (gput (gs.map Gp.pl) hash id = grps (prs own ⟨fh, compact, fr⟩ (ps.take (j + 1)))) := by
          show _ = _
          rw [hcat.out, prs_snoc_yes hyes, grps_snoc, hpl.out]
        have hm2 : Hid (m + 1 = ((ps.take (j + 1)).filter (selP ⟨fh, compact, fr⟩)).length) := by
          show m + 1 = _
          rw [hcat.out, List.filter_append, List.length_append, ← hm.out]
          simp [hyes]
        clear hcat hpl hm hyes
        rcases gfind gs hash id with ⟨A, g, B, rfl, g1, g2, g3, g4⟩ | ⟨g1, g2, g3⟩
        · obtain ⟨gh, gb, gc, ids⟩ := g
          simp only at g1
          subst g1
          replace H := st_fold (X := gX (A ++ ⟨gh, gb, gc, ids⟩ :: B)) (gX_all _) (st_unfold (H.sel (L' := [(true, bag (gX (A ++ ⟨gh, gb, gc, ids⟩ :: B))), (true, .is mb (.map es clock)), (true, .is cb (chkO hb last)), (true, .is hb (hasO f s rev2 asked own pv hv (sl akey an acap) rv)), (true, .row akey 27 1 an acap axs), (false, .is b4 (ownO ⟨fh, compact, fr⟩)), (false, .rep fp (PrsAt bs ps fp)), (false, soft (some ⟨c1, o1, none⟩) (bs.map pt)), (false, .arr (some ⟨c1, o1 + j, none⟩) [pt b]), (false, .is b (rsO id (pt rb) .nilIface)), (false, .is rb (kvO (pt hb2) gh compact)), (false, .is hb2 (hdO id rev))]) (by repeat (first | exact Sel.nil _ | (apply Sel.cons; focus (repeat (first | exact Split.here _ _ | apply Split.there)))))))
          replace H := bag_take H
          simp only [Gp.ent] at H
          have hg2 : Hid (aget (gAL (A ++ ⟨gh, gb, gc, ids⟩ :: B)) gh = some (.slice (some ⟨gb, 0, none⟩) ids.length gc)) := g2
          have hg3 := Lib.hid g3
          have hg4 : Hid (A.map Gp.pl ++ (gh, ids ++ [id]) :: B.map Gp.pl = grps (prs own ⟨fh, compact, fr⟩ (ps.take (j + 1)))) := by rw [← g4]; exact hpl2
          have hgl : ids.length ≤ m + 1 := hsz.out.1 ⟨gh, gb, gc, ids⟩ (by simp)
          clear g2 g3 g4 hpl2
          generalize hnl : ids.length = gn at *
          have hnl2 := Lib.hid hnl
          clear hnl
          have hc := H.cells; simp only [CellsOf, KnCells, knc, Nat.reduceAdd] at hc
          repeat' (first | (go_big_may; (first
    | ((first
        | (refine loud_ rfl ?_; refine wpList_plain rfl (fun K hK => ?_); (first | (refine op_box _ _ rfl H (fun b w' H1 => hK _ _ ?_)) | (refine op_alloc _ rfl (zero_of _ _ rfl) H (fun b w' H1 => hK _ _ ?_)) | (refine op_store _ _ _ rfl rfl rfl H (by repeat (first | exact Split.here _ _ | apply Split.there)) (by kernel_rfl) (by kernel_rfl) (by kernel_rfl) (fun w' H1 => hK _ _ ?_)) | (refine op_buildSlice_all _ _ _ rfl (by first | exact elem25 | exact elem32 | exact elem35 | exact elem36 | exact elem37 | exact elem38 | exact elem41 | exact elem42 | exact elem45 | exact elem57 | exact elem62 | exact elem74 | exact elem98 | exact elem100 | exact elem137 | exact elem178 | exact elem179) (by kernel_rfl) (by kernel_rfl) (by kernel_rfl) H (fun b w' H1 => hK _ _ ?_))); clear hK K; replace H := H1; clear H1)); (try clear hc); (try simp only [nrm, splice, Value.cells, Nat.reduceAdd, Act.eval, Act.put] at H); have hc := H.cells; simp only [CellsOf, KnCells, knc, Nat.reduceAdd] at hc))) | go_values | go_skip | go_guarded | go_step | go_upon | go_back | dsimp only)
          (try simp only [Act.put, slt])
          refine wp_region_plan (.p [0, 1, 2] (.q [3] (.p [4, 5] (.q [6] (.p [7] (.q [8] (.p [9] .done))))))) [] (by kernel_rfl) (by kernel_rfl) (fun _ _ d _ _ h => by cases d <;> exact h) H ?_
          clear H
          (try clear hc)
          intro X nX fX wd hcf hS H
          simp only [CellsOf, KnCells, knc, Nat.reduceAdd] at hcf
          have hc := H.cells
          simp only [CellsOf, KnCells, knc, Nat.reduceAdd] at hc
          iterate 3 (refine plan_p (o := ⟨_, _, _, _, _, _⟩) rfl (fun N hN => ?_); go_big_quiet_step (fail); refine wpQuiet_nil (hN _ ?_); clear hN N)
          refine plan_p0 ?_
          iterate 1 (refine plan_q (o := ⟨_, _, _, _, _, _⟩) rfl (fun N hN => ?_); go_big_quiet_step (fail); refine wpQuiet_nil (hN _ ?_); clear hN N)
          refine plan_q0 ?_
          iterate 2 (refine plan_p (o := ⟨_, _, _, _, _, _⟩) rfl (fun N hN => ?_); go_big_quiet_step (fail); refine wpQuiet_nil (hN _ ?_); clear hN N)
          refine plan_p0 ?_
          iterate 1 (refine plan_q (o := ⟨_, _, _, _, _, _⟩) rfl (fun N hN => ?_); go_big_quiet_step (fail); refine wpQuiet_nil (hN _ ?_); clear hN N)
          refine plan_q0 ?_
          iterate 1 (refine plan_p (o := ⟨_, _, _, _, _, _⟩) rfl (fun N hN => ?_); go_big_quiet_step (fail); refine wpQuiet_nil (hN _ ?_); clear hN N)
          refine plan_p0 ?_
          iterate 1 (refine plan_q (o := ⟨_, _, _, _, _, _⟩) rfl (fun N hN => ?_); go_big_quiet_step (fail); refine wpQuiet_nil (hN _ ?_); clear hN N)
          refine plan_q0 ?_
          iterate 1 (refine plan_p (o := ⟨_, _, _, _, _, _⟩) rfl (fun N hN => ?_); go_big_quiet_step (fail); refine wpQuiet_nil (hN _ ?_); clear hN N)
          refine plan_p0 ?_
          refine plan_done ?_
          repeat' (first | (go_big_may; (first
    | go_skip
    | (refine wpList_plain rfl (fun K hK => ?_); refine op_look _ _ _ _ _ rfl Try.underlying139 keyH hz0 rfl rfl (H.obj (b := mb) (by repeat (first | exact Split.here _ _ | apply Split.there))) hkv.out.kv hg2.out (hK _ _ ?_); clear hK K)
    | (refine wpList_plain rfl (fun K hK => ?_); (refine op_putB _ _ _ _ _ _ (.inl rfl) Try.underlying139 keyH rfl rfl rfl H (by repeat (first | exact Split.here _ _ | apply Split.there)) hkv.out (fun es' clock' w' hkv' H1 => hK _ _ ?_); clear hK K; replace H := H1; clear H1; (try clear hc); (try simp only [nrm, splice, Value.cells, Nat.reduceAdd, Act.eval, Act.put] at H); have hc := H.cells; simp only [CellsOf, KnCells, knc, Nat.reduceAdd] at hc))
    | ((first
        | (refine loud_ rfl ?_; refine wpList_plain rfl (fun K hK => ?_); (first | (refine op_append_lit _ _ _ rfl elemIDs (key := some gb) rfl rfl H (by repeat (first | exact Split.here _ _ | apply Split.there)) (by repeat (first | exact Split.here _ _ | apply Split.there)) (by kernel_rfl) (by kernel_rfl) (by omega) (by unfold maxLen; omega) (fun key cap' w' H1 => hK _ _ ?_)) | (refine op_box _ _ rfl H (fun b w' H1 => hK _ _ ?_)) | (refine op_alloc _ rfl (zero_of _ _ rfl) H (fun b w' H1 => hK _ _ ?_)) | (refine op_store _ _ _ rfl rfl rfl H (by repeat (first | exact Split.here _ _ | apply Split.there)) (by kernel_rfl) (by kernel_rfl) (by kernel_rfl) (fun w' H1 => hK _ _ ?_)) | (refine op_buildSlice_all _ _ _ rfl (by first | exact elem25 | exact elem32 | exact elem35 | exact elem36 | exact elem37 | exact elem38 | exact elem41 | exact elem42 | exact elem45 | exact elem57 | exact elem62 | exact elem74 | exact elem98 | exact elem100 | exact elem137 | exact elem178 | exact elem179) (by kernel_rfl) (by kernel_rfl) (by kernel_rfl) H (fun b w' H1 => hK _ _ ?_))); clear hK K; replace H := H1; clear H1)); (try clear hc); (try simp only [nrm, splice, Value.cells, Nat.reduceAdd, Act.eval, Act.put] at H); have hc := H.cells; simp only [CellsOf, KnCells, knc, Nat.reduceAdd] at hc))) | go_values | go_skip | go_guarded | go_step | go_upon | go_back | dsimp only)
          obtain ⟨kb, rfl⟩ : ∃ kb, key = some kb := by
            have h := H.get (k := .row key 77 1 (gn + 1) cap' _) (by repeat (first | exact Split.here _ _ | apply Split.there))
            cases key with
            | some kb => exact ⟨kb, rfl⟩
            | none => exact absurd h.1 (by omega)
          have hkv2 : Hid (KVB uk es' clock' (gAL (A ++ ⟨gh, kb, cap', ids ++ [id]⟩ :: B))) := by
            have h9 := hkv'
            rw [hg3.out] at h9
            have e : gAL (A ++ ⟨gh, kb, cap', ids ++ [id]⟩ :: B) = gAL A ++ (gh, .slice (some ⟨kb, 0, none⟩) (ids ++ [id]).length cap') :: gAL B := by simp [gAL, Gp.val]
            rw [e, List.length_append, hnl2.out]
            exact h9
          have hsz2 : Hid ((∀ g ∈ A ++ (⟨gh, kb, cap', ids ++ [id]⟩ : Gp) :: B, g.ids.length ≤ m + 1 + 1) ∧ (A ++ (⟨gh, kb, cap', ids ++ [id]⟩ : Gp) :: B).length ≤ m + 1 + 1) := by
            refine ⟨?_, by have := hsz.out.2; simp only [List.length_append, List.length_cons] at this ⊢; omega⟩
            intro g hg
            rcases List.mem_append.1 hg with hg | hg
            · have := hsz.out.1 g (List.mem_append_left _ hg); omega
            · rcases List.mem_cons.1 hg with rfl | hg
              · show (ids ++ [id]).length ≤ _
                rw [List.length_append, hnl2.out]
                show gn + 1 ≤ _
                omega
              · have := hsz.out.1 g (List.mem_append_right _ (List.mem_cons_of_mem _ hg)); omega
          have hpl3 : Hid ((A ++ (⟨gh, kb, cap', ids ++ [id]⟩ : Gp) :: B).map Gp.pl = grps (prs own ⟨fh, compact, fr⟩ (ps.take (j + 1)))) := by
            rw [← hg4.out]
            simp [Hid, Gp.pl]
          have H9 : St S w w' (Gp.ent ⟨gh, kb, cap', ids ++ [id]⟩ :: (true, bag (gX (A ++ B))) :: [(true, .is mb (.map es' clock')), (true, .is cb (chkO hb last)), (true, .is hb (hasO f s rev2 asked own pv hv (sl akey an acap) rv)), (true, .row akey 27 1 an acap axs), (false, .is b4 (ownO ⟨fh, compact, fr⟩)), (false, .rep fp (PrsAt bs ps fp)), (false, soft (some ⟨c1, o1, none⟩) (bs.map pt))]) := by
            show St S w w' ((true, .row (some kb) _ 1 (ids ++ [id]).length cap' ((ids ++ [id]).map iv)) :: _)
            rw [List.length_append, List.map_append, hnl2.out]
            exact H.sel (by repeat (first | exact Sel.nil _ | (apply Sel.cons; focus (repeat (first | exact Split.here _ _ | apply Split.there)))))
          exact ⟨⟨j + 1, m + 1, es', clock', _, by omega, by go_num, by go_num, by omega, hm2, hpl3, hkv2, hsz2, (bag_back H9).sel (by repeat (first | exact Sel.nil _ | (apply Sel.cons; focus (repeat (first | exact Split.here _ _ | apply Split.there)))))⟩, by simp [intOf]; omega⟩
        · have hg1 := Lib.hid g1
          have hg2 := Lib.hid g2
          have hg3 : Hid (gs.map Gp.pl ++ [(hash, [id])] = grps (prs own ⟨fh, compact, fr⟩ (ps.take (j + 1)))) := by rw [← g3]; exact hpl2
          clear g1 g2 g3 hpl2
          have hc := H.cells; simp only [CellsOf, KnCells, knc, Nat.reduceAdd] at hc
          repeat' (first | (go_big_may; (first
    | ((first
        | (refine loud_ rfl ?_; refine wpList_plain rfl (fun K hK => ?_); (first | (refine op_box _ _ rfl H (fun b w' H1 => hK _ _ ?_)) | (refine op_alloc _ rfl (zero_of _ _ rfl) H (fun b w' H1 => hK _ _ ?_)) | (refine op_store _ _ _ rfl rfl rfl H (by repeat (first | exact Split.here _ _ | apply Split.there)) (by kernel_rfl) (by kernel_rfl) (by kernel_rfl) (fun w' H1 => hK _ _ ?_)) | (refine op_buildSlice_all _ _ _ rfl (by first | exact elem25 | exact elem32 | exact elem35 | exact elem36 | exact elem37 | exact elem38 | exact elem41 | exact elem42 | exact elem45 | exact elem57 | exact elem62 | exact elem74 | exact elem98 | exact elem100 | exact elem137 | exact elem178 | exact elem179) (by kernel_rfl) (by kernel_rfl) (by kernel_rfl) H (fun b w' H1 => hK _ _ ?_))); clear hK K; replace H := H1; clear H1)); (try clear hc); (try simp only [nrm, splice, Value.cells, Nat.reduceAdd, Act.eval, Act.put] at H); have hc := H.cells; simp only [CellsOf, KnCells, knc, Nat.reduceAdd] at hc))) | go_values | go_skip | go_guarded | go_step | go_upon | go_back | dsimp only)
          (try simp only [Act.put, slt])
          refine wp_region_plan (.p [0, 1, 2] (.q [3] (.p [4, 5] (.q [6] (.p [7] (.q [8] (.p [9] .done))))))) [] (by kernel_rfl) (by kernel_rfl) (fun _ _ d _ _ h => by cases d <;> exact h) H ?_
          clear H
          (try clear hc)
          intro X nX fX wd hcf hS H
          simp only [CellsOf, KnCells, knc, Nat.reduceAdd] at hcf
          have hc := H.cells
          simp only [CellsOf, KnCells, knc, Nat.reduceAdd] at hc
          iterate 3 (refine plan_p (o := ⟨_, _, _, _, _, _⟩) rfl (fun N hN => ?_); go_big_quiet_step (fail); refine wpQuiet_nil (hN _ ?_); clear hN N)
          refine plan_p0 ?_
          iterate 1 (refine plan_q (o := ⟨_, _, _, _, _, _⟩) rfl (fun N hN => ?_); go_big_quiet_step (fail); refine wpQuiet_nil (hN _ ?_); clear hN N)
          refine plan_q0 ?_
          iterate 2 (refine plan_p (o := ⟨_, _, _, _, _, _⟩) rfl (fun N hN => ?_); go_big_quiet_step (fail); refine wpQuiet_nil (hN _ ?_); clear hN N)
          refine plan_p0 ?_
          iterate 1 (refine plan_q (o := ⟨_, _, _, _, _, _⟩) rfl (fun N hN => ?_); go_big_quiet_step (fail); refine wpQuiet_nil (hN _ ?_); clear hN N)
          refine plan_q0 ?_
          iterate 1 (refine plan_p (o := ⟨_, _, _, _, _, _⟩) rfl (fun N hN => ?_); go_big_quiet_step (fail); refine wpQuiet_nil (hN _ ?_); clear hN N)
          refine plan_p0 ?_
          iterate 1 (refine plan_q (o := ⟨_, _, _, _, _, _⟩) rfl (fun N hN => ?_); go_big_quiet_step (fail); refine wpQuiet_nil (hN _ ?_); clear hN N)
          refine plan_q0 ?_
          iterate 1 (refine plan_p (o := ⟨_, _, _, _, _, _⟩) rfl (fun N hN => ?_); go_big_quiet_step (fail); refine wpQuiet_nil (hN _ ?_); clear hN N)
          refine plan_p0 ?_
          refine plan_done ?_
          repeat' (first | (go_big_may; (first
    | go_skip
    | (refine wpList_plain rfl (fun K hK => ?_); refine op_look _ _ _ _ _ rfl Try.underlying139 keyH hz0 rfl rfl (H.obj (b := mb) (by repeat (first | exact Split.here _ _ | apply Split.there))) hkv.out.kv hg1.out (hK _ _ ?_); clear hK K)
    | ((first
        | (refine loud_ rfl ?_; refine wpList_plain rfl (fun K hK => ?_); (first | (refine op_box _ _ rfl H (fun b w' H1 => hK _ _ ?_)) | (refine op_alloc _ rfl (zero_of _ _ rfl) H (fun b w' H1 => hK _ _ ?_)) | (refine op_store _ _ _ rfl rfl rfl H (by repeat (first | exact Split.here _ _ | apply Split.there)) (by kernel_rfl) (by kernel_rfl) (by kernel_rfl) (fun w' H1 => hK _ _ ?_)) | (refine op_buildSlice_all _ _ _ rfl (by first | exact elem25 | exact elem32 | exact elem35 | exact elem36 | exact elem37 | exact elem38 | exact elem41 | exact elem42 | exact elem45 | exact elem57 | exact elem62 | exact elem74 | exact elem98 | exact elem100 | exact elem137 | exact elem178 | exact elem179) (by kernel_rfl) (by kernel_rfl) (by kernel_rfl) H (fun b w' H1 => hK _ _ ?_))); clear hK K; replace H := H1; clear H1)); (try clear hc); (try simp only [nrm, splice, Value.cells, Nat.reduceAdd, Act.eval, Act.put] at H); have hc := H.cells; simp only [CellsOf, KnCells, knc, Nat.reduceAdd] at hc))) | go_values | go_skip | go_guarded | go_step | go_upon | go_back | dsimp only)
          (try simp only [Act.put, slt])
          refine wp_region_plan (.p [0, 1, 2, 3] (.q [4] (.p [5, 6] (.q [7] (.p [8, 9, 10, 11] (.q [12] (.e 13 (.e 14 .done)))))))) [14] (by kernel_rfl) (by kernel_rfl) (fun _ _ d _ _ h => by cases d <;> exact h) H ?_
          clear H
          (try clear hc)
          intro X nX fX wd hcf hS H
          simp only [CellsOf, KnCells, knc, Nat.reduceAdd] at hcf
          have hc := H.cells
          simp only [CellsOf, KnCells, knc, Nat.reduceAdd] at hc
          iterate 4 (refine plan_p (o := ⟨_, _, _, _, _, _⟩) rfl (fun N hN => ?_); go_big_quiet_step (fail); refine wpQuiet_nil (hN _ ?_); clear hN N)
          refine plan_p0 ?_
          iterate 1 (refine plan_q (o := ⟨_, _, _, _, _, _⟩) rfl (fun N hN => ?_); go_big_quiet_step (fail); refine wpQuiet_nil (hN _ ?_); clear hN N)
          refine plan_q0 ?_
          iterate 2 (refine plan_p (o := ⟨_, _, _, _, _, _⟩) rfl (fun N hN => ?_); go_big_quiet_step (fail); refine wpQuiet_nil (hN _ ?_); clear hN N)
          refine plan_p0 ?_
          iterate 1 (refine plan_q (o := ⟨_, _, _, _, _, _⟩) rfl (fun N hN => ?_); go_big_quiet_step (fail); refine wpQuiet_nil (hN _ ?_); clear hN N)
          refine plan_q0 ?_
          iterate 4 (refine plan_p (o := ⟨_, _, _, _, _, _⟩) rfl (fun N hN => ?_); go_big_quiet_step (fail); refine wpQuiet_nil (hN _ ?_); clear hN N)
          refine plan_p0 ?_
          iterate 1 (refine plan_q (o := ⟨_, _, _, _, _, _⟩) rfl (fun N hN => ?_); go_big_quiet_step (fail); refine wpQuiet_nil (hN _ ?_); clear hN N)
          refine plan_q0 ?_
          refine plan_e (o := ⟨_, _, _, _, _, _⟩) rfl rfl (fun K hK => ?_)
          (first | (refine op_putB _ _ _ _ _ _ (.inl rfl) Try.underlying139 keyH rfl rfl rfl H (by repeat (first | exact Split.here _ _ | apply Split.there)) hkv.out (fun es' clock' w' hkv' H1 => ?_); replace H := H1; clear H1) | (refine op_box _ _ rfl H (fun b w' H1 => ?_); replace H := H1; clear H1) | (refine op_alloc _ rfl (zero_of _ _ rfl) H (fun b w' H1 => ?_); replace H := H1; clear H1) | (refine op_store _ _ _ rfl rfl rfl H (by repeat (first | exact Split.here _ _ | apply Split.there)) (by kernel_rfl) (by kernel_rfl) (by kernel_rfl) (fun w' H1 => ?_); replace H := H1; clear H1) | (refine op_buildSlice_all _ _ _ rfl (by first | exact elem25 | exact elem32 | exact elem35 | exact elem36 | exact elem37 | exact elem38 | exact elem41 | exact elem42 | exact elem45 | exact elem57 | exact elem62 | exact elem74 | exact elem98 | exact elem100 | exact elem137 | exact elem178 | exact elem179) (by kernel_rfl) (by kernel_rfl) (by kernel_rfl) H (fun b w' H1 => ?_); replace H := H1; clear H1)); (try clear hc); (try simp only [nrm, splice, Value.cells, Nat.reduceAdd, Act.eval, Act.put] at H); have hc := H.cells; simp only [CellsOf, KnCells, knc, Nat.reduceAdd] at hc; refine hK _ _ (fun _ _ => hS _ (H.sublist (by repeat (first | exact List.Sublist.refl _ | exact List.nil_sublist _ | apply List.Sublist.cons_cons | apply List.Sublist.cons))).all) ?_; clear hK K; (try simp only [Act.put, slt])
          refine plan_e (o := ⟨_, _, _, _, _, _⟩) rfl rfl (fun K hK => ?_)
          (first | (refine op_putB _ _ _ _ _ _ (.inl rfl) Try.underlying139 keyH rfl rfl rfl H (by repeat (first | exact Split.here _ _ | apply Split.there)) hkv.out (fun es' clock' w' hkv' H1 => ?_); replace H := H1; clear H1) | (refine op_box _ _ rfl H (fun b w' H1 => ?_); replace H := H1; clear H1) | (refine op_alloc _ rfl (zero_of _ _ rfl) H (fun b w' H1 => ?_); replace H := H1; clear H1) | (refine op_store _ _ _ rfl rfl rfl H (by repeat (first | exact Split.here _ _ | apply Split.there)) (by kernel_rfl) (by kernel_rfl) (by kernel_rfl) (fun w' H1 => ?_); replace H := H1; clear H1) | (refine op_buildSlice_all _ _ _ rfl (by first | exact elem25 | exact elem32 | exact elem35 | exact elem36 | exact elem37 | exact elem38 | exact elem41 | exact elem42 | exact elem45 | exact elem57 | exact elem62 | exact elem74 | exact elem98 | exact elem100 | exact elem137 | exact elem178 | exact elem179) (by kernel_rfl) (by kernel_rfl) (by kernel_rfl) H (fun b w' H1 => ?_); replace H := H1; clear H1)); (try clear hc); (try simp only [nrm, splice, Value.cells, Nat.reduceAdd, Act.eval, Act.put] at H); have hc := H.cells; simp only [CellsOf, KnCells, knc, Nat.reduceAdd] at hc; refine hK _ _ (fun h => (h (by decide)).elim) ?_; clear hK K; (try simp only [Act.put, slt])
          refine plan_done ?_
          obtain ⟨b5, rfl⟩ : ∃ q, q = b := ⟨_, rfl⟩
          repeat' (first | (go_big_may; (first
    | ((first
        | (refine loud_ rfl ?_; refine wpList_plain rfl (fun K hK => ?_); (first | (refine op_box _ _ rfl H (fun b w' H1 => hK _ _ ?_)) | (refine op_alloc _ rfl (zero_of _ _ rfl) H (fun b w' H1 => hK _ _ ?_)) | (refine op_store _ _ _ rfl rfl rfl H (by repeat (first | exact Split.here _ _ | apply Split.there)) (by kernel_rfl) (by kernel_rfl) (by kernel_rfl) (fun w' H1 => hK _ _ ?_)) | (refine op_buildSlice_all _ _ _ rfl (by first | exact elem25 | exact elem32 | exact elem35 | exact elem36 | exact elem37 | exact elem38 | exact elem41 | exact elem42 | exact elem45 | exact elem57 | exact elem62 | exact elem74 | exact elem98 | exact elem100 | exact elem137 | exact elem178 | exact elem179) (by kernel_rfl) (by kernel_rfl) (by kernel_rfl) H (fun b w' H1 => hK _ _ ?_))); clear hK K; replace H := H1; clear H1)); (try clear hc); (try simp only [nrm, splice, Value.cells, Nat.reduceAdd, Act.eval, Act.put] at H); have hc := H.cells; simp only [CellsOf, KnCells, knc, Nat.reduceAdd] at hc))) | go_values | go_skip | go_guarded | go_step | go_upon | go_back | dsimp only)
          have hkv2 : Hid (KVB uk es' clock' (gAL (gs ++ [⟨hash, b5, 1, [id]⟩]))) := by
            have h9 := hkv'
            rw [hg2.out] at h9
            have e : gAL (gs ++ [⟨hash, b5, 1, [id]⟩]) = gAL gs ++ [(hash, .slice (some ⟨b5, 0, none⟩) 1 1)] := by simp [gAL, Gp.val]
            rw [e]
            exact h9
          have hsz2 : Hid ((∀ g ∈ gs ++ [(⟨hash, b5, 1, [id]⟩ : Gp)], g.ids.length ≤ m + 1 + 1) ∧ (gs ++ [(⟨hash, b5, 1, [id]⟩ : Gp)]).length ≤ m + 1 + 1) := by
            refine ⟨?_, by have := hsz.out.2; simp only [List.length_append, List.length_cons, List.length_nil]; omega⟩
            intro g hg
            rcases List.mem_append.1 hg with hg | hg
            · have := hsz.out.1 g hg; omega
            · simp only [List.mem_singleton] at hg
              subst hg
              show 1 ≤ _
              omega
          have hpl3 : Hid ((gs ++ [(⟨hash, b5, 1, [id]⟩ : Gp)]).map Gp.pl = grps (prs own ⟨fh, compact, fr⟩ (ps.take (j + 1)))) := by
            rw [← hg3.out]
            simp [Hid, Gp.pl]
          replace H := lit_row H (b := b5) (v := .int .u64 id) (by repeat (first | exact Split.here _ _ | apply Split.there))
          (try simp only [List.append, List.nil_append, List.cons_append] at H)
          have H9 : St S w w' (Gp.ent ⟨hash, b5, 1, [id]⟩ :: (true, bag (gX (gs ++ []))) :: [(true, .is mb (.map es' clock')), (true, .is cb (chkO hb last)), (true, .is hb (hasO f s rev2 asked own pv hv (sl akey an acap) rv)), (true, .row akey 27 1 an acap axs), (false, .is b4 (ownO ⟨fh, compact, fr⟩)), (false, .rep fp (PrsAt bs ps fp)), (false, soft (some ⟨c1, o1, none⟩) (bs.map pt))]) := by
            rw [List.append_nil]
            exact H.sel (by repeat (first | exact Sel.nil _ | (apply Sel.cons; focus (repeat (first | exact Split.here _ _ | apply Split.there)))))
          exact ⟨⟨j + 1, m + 1, es', clock', _, by omega, by go_num, by go_num, by omega, hm2, hpl3, hkv2, hsz2, (bag_back H9).sel (by repeat (first | exact Sel.nil _ | (apply Sel.cons; focus (repeat (first | exact Split.here _ _ | apply Split.there)))))⟩, by simp [intOf]; omega⟩
      · obtain ⟨c1, o1, rfl, H2⟩ := H1.elemSoft (Split.there _ (Split.there _ (Split.there _ (Split.there _ (Split.there _ (Split.there _ (Split.there _ (Split.there _ (Split.here _ _))))))))) j [pt b] (by show 0 < 1; omega) (by rw [List.length_map, hbl]; show _ + 1 ≤ _; omega) (pt_at hb8.out)
        clear H H1 hj' hbl
        have H := H2
        clear H2
        have hno : selP ⟨fh, fc, fr⟩ ⟨id, false, hash, compact, rev, err⟩ = false := by simp [selP]
        have hpl2 : Hid (gs.map Gp.pl = grps (prs own ⟨fh, fc, fr⟩ (ps.take (j + 1)))) := by
          show _ = _
          rw [hcat.out, prs_snoc_no hno, hpl.out]
        have hm2 : Hid (m = ((ps.take (j + 1)).filter (selP ⟨fh, fc, fr⟩)).length) := by
          show m = _
          rw [hcat.out, List.filter_append, List.length_append, ← hm.out]
          simp [hno]
        clear hcat hpl hm hno
        have hc := H.cells; simp only [CellsOf, KnCells, knc, Nat.reduceAdd] at hc
        repeat' (first | (go_big_may; (first
    | ((first
        | (refine loud_ rfl ?_; refine wpList_plain rfl (fun K hK => ?_); (first | (refine op_box _ _ rfl H (fun b w' H1 => hK _ _ ?_)) | (refine op_alloc _ rfl (zero_of _ _ rfl) H (fun b w' H1 => hK _ _ ?_)) | (refine op_store _ _ _ rfl rfl rfl H (by repeat (first | exact Split.here _ _ | apply Split.there)) (by kernel_rfl) (by kernel_rfl) (by kernel_rfl) (fun w' H1 => hK _ _ ?_)) | (refine op_buildSlice_all _ _ _ rfl (by first | exact elem25 | exact elem32 | exact elem35 | exact elem36 | exact elem37 | exact elem38 | exact elem41 | exact elem42 | exact elem45 | exact elem57 | exact elem62 | exact elem74 | exact elem98 | exact elem100 | exact elem137 | exact elem178 | exact elem179) (by kernel_rfl) (by kernel_rfl) (by kernel_rfl) H (fun b w' H1 => hK _ _ ?_))); clear hK K; replace H := H1; clear H1)); (try clear hc); (try simp only [nrm, splice, Value.cells, Nat.reduceAdd, Act.eval, Act.put] at H); have hc := H.cells; simp only [CellsOf, KnCells, knc, Nat.reduceAdd] at hc))) | go_values | go_skip | go_guarded | go_step | go_upon | go_back | dsimp only)
        exact ⟨⟨j + 1, m, es, clock, gs, by omega, by go_num, rfl, by omega, hm2, hpl2, hkv, hsz, H.sel (by repeat (first | exact Sel.nil _ | (apply Sel.cons; focus (repeat (first | exact Split.here _ _ | apply Split.there)))))⟩, by simp [intOf]; omega⟩
    · obtain rfl : j = n := by omega
      rw [List.take_of_length_le (by rw [hn.out]; omega)] at hm hpl
      have hgl : Hid (gs.length = (grps (prs own ⟨fh, fc, fr⟩ ps)).length) := by
        show _ = _
        rw [← hpl.out, List.length_map]
      by_cases hone : gs.length = 1
      · have hes : (es.size : Int) = 1 := by
          have := kv1_size hkv.out.kv
          simp only [gAL, List.length_map] at this
          omega
        have hc := H.cells; simp only [CellsOf, KnCells, knc, Nat.reduceAdd] at hc
        repeat' (first | (go_big_may; (first
    | go_skip
    | (refine wpList_plain rfl (fun K hK => ?_); refine op_lenMap _ _ _ _ rfl Try.underlying139 rfl (H.obj (b := mb) (by repeat (first | exact Split.here _ _ | apply Split.there))) (hK _ _ ?_); clear hK K)
    | ((first
        | (go_at_call 60; refine Calls.mono (handle_calls cb hb last ⟨fh, fc, fr⟩ m j _ _ (H.pick (by repeat (first | exact Picks.nil _ | (apply Picks.wr; focus (repeat (first | exact Split.here _ _ | apply Split.there))) | (apply Picks.rd; focus (repeat (first | exact Split.here _ _ | apply Split.there))))))) ?_; rintro e w' ⟨r, last', hr, rfl, H'⟩; replace H := H.merge (by first | exact Strikes.nil _ | (repeat (first | exact Strikes.nil _ | (apply Strikes.cons; focus (repeat (first | exact Split.here _ _ | apply Split.there)))))) H' rfl; clear H')
        | (refine loud_ rfl ?_; refine wpList_plain rfl (fun K hK => ?_); (first | (refine op_box _ _ rfl H (fun b w' H1 => hK _ _ ?_)) | (refine op_alloc _ rfl (zero_of _ _ rfl) H (fun b w' H1 => hK _ _ ?_)) | (refine op_store _ _ _ rfl rfl rfl H (by repeat (first | exact Split.here _ _ | apply Split.there)) (by kernel_rfl) (by kernel_rfl) (by kernel_rfl) (fun w' H1 => hK _ _ ?_)) | (refine op_buildSlice_all _ _ _ rfl (by first | exact elem25 | exact elem32 | exact elem35 | exact elem36 | exact elem37 | exact elem38 | exact elem41 | exact elem42 | exact elem45 | exact elem57 | exact elem62 | exact elem74 | exact elem98 | exact elem100 | exact elem137 | exact elem178 | exact elem179) (by kernel_rfl) (by kernel_rfl) (by kernel_rfl) H (fun b w' H1 => hK _ _ ?_))); clear hK K; replace H := H1; clear H1)); (try clear hc); (try simp only [nrm, splice, Value.cells, Nat.reduceAdd, Act.eval, Act.put] at H); have hc := H.cells; simp only [CellsOf, KnCells, knc, Nat.reduceAdd] at hc))) | go_values | go_skip | go_guarded | go_step | go_upon | go_back | dsimp only)
        go_ret
        have H8 := H.sel (L' := [(true, .is cb (chkO hb last')), (true, .is hb (hasO f s rev2 asked own pv hv (sl akey an acap) rv)), (true, .row akey 27 1 an acap axs)]) (by repeat (first | exact Sel.nil _ | (apply Sel.cons; focus (repeat (first | exact Split.here _ _ | apply Split.there)))))
        refine ⟨r, last', [], akey, an, acap, .inl ⟨by rw [← hgl.out]; exact hone, rfl, ?_, ?_⟩, by simp [Hid], rfl, by rw [List.map_nil, List.append_nil]; exact H8⟩
        · rw [hr.out.1, ← hm.out, hn.out]
        · rw [hr.out.2, ← hm.out, hn.out]
      have hes : ¬ (es.size : Int) = 1 := by
        have := kv1_size hkv.out.kv
        simp only [gAL, List.length_map] at this
        omega
      obtain ⟨q, hq⟩ : ∃ q : Nat, q = (j + 1) / 2 + 1 := ⟨_, rfl⟩
      have hqq : ((j : Int) + 1) / 2 + 1 = (q : Nat) := by omega
      have hq' := Lib.hid hq
      clear hq
      have hc := H.cells; simp only [CellsOf, KnCells, knc, Nat.reduceAdd] at hc
      repeat' (first | (go_big_may; (first
    | go_skip
    | (refine wpList_plain rfl (fun K hK => ?_); refine op_lenMap _ _ _ _ rfl Try.underlying139 rfl (H.obj (b := mb) (by repeat (first | exact Split.here _ _ | apply Split.there))) (hK _ _ ?_); clear hK K)
    | (refine wpList_plain rfl (fun K hK => ?_); (refine op_range _ _ _ _ rfl Try.underlying139 (es := es) (clock := clock) rfl H (H.obj (b := mb) (by repeat (first | exact Split.here _ _ | apply Split.there))) (fun r w' H1 => hK _ _ ?_); clear hK K; replace H := H1; clear H1; (try clear hc); (try simp only [nrm, splice, Value.cells, Nat.reduceAdd, Act.eval, Act.put] at H); have hc := H.cells; simp only [CellsOf, KnCells, knc, Nat.reduceAdd] at hc))
    | ((first
        | (refine loud_ rfl ?_; refine wpList_plain rfl (fun K hK => ?_); (first | (refine op_box _ _ rfl H (fun b w' H1 => hK _ _ ?_)) | (refine op_alloc _ rfl (zero_of _ _ rfl) H (fun b w' H1 => hK _ _ ?_)) | (refine op_store _ _ _ rfl rfl rfl H (by repeat (first | exact Split.here _ _ | apply Split.there)) (by kernel_rfl) (by kernel_rfl) (by kernel_rfl) (fun w' H1 => hK _ _ ?_)) | (refine op_buildSlice_all _ _ _ rfl (by first | exact elem25 | exact elem32 | exact elem35 | exact elem36 | exact elem37 | exact elem38 | exact elem41 | exact elem42 | exact elem45 | exact elem57 | exact elem62 | exact elem74 | exact elem98 | exact elem100 | exact elem137 | exact elem178 | exact elem179) (by kernel_rfl) (by kernel_rfl) (by kernel_rfl) H (fun b w' H1 => hK _ _ ?_))); clear hK K; replace H := H1; clear H1)); (try clear hc); (try simp only [nrm, splice, Value.cells, Nat.reduceAdd, Act.eval, Act.put] at H); have hc := H.cells; simp only [CellsOf, KnCells, knc, Nat.reduceAdd] at hc))) | go_values | go_skip | go_guarded | go_step | go_upon | go_back | dsimp only)
      (try simp only [Act.put, slt, hqq])
      have h9 : ((es.size : Int) == 1) = false := by simp [hes]
      (try simp only [h9])
      have H0 := H.sel (L' := [(true, .is r (.mapIter (some mb) clock #[] clock)), (true, .is mb (.map es clock)), (true, bag (gX gs)), (true, .is cb (chkO hb last)), (true, .is hb (hasO f s rev2 asked own pv hv (sl akey an acap) rv)), (true, .row akey 27 1 an acap axs)]) (by repeat (first | exact Sel.nil _ | (apply Sel.cons; focus (repeat (first | exact Split.here _ _ | apply Split.there)))))
      clear H hc
      have hone' := Lib.hid hone
      clear hone hes
      go_loopw [17] (AtR1 es clock gs q mb r cb hb (chkO hb last) (hasO f s rev2 asked own pv hv (sl akey an acap) rv) (.row akey 27 1 an acap axs) S w) (fun _ wr => wr.rangeLeft mb r)
      case atStart => exact ⟨#[], [], rfl, ⟨seen_nil _, by simp⟩, H0⟩
      case round =>
        clear H0
        obtain ⟨seen, gs1, rfl, hs, H⟩ := hrel
        have hleft := Lib.hid (range_left (H.obj (b := mb) (Split.there _ (Split.here _ _))) (H.obj (b := r) (Split.here _ _)))
        have hborn := hkv.out.born
        have hnd := hkv.out.nodup
        by_cases hlf : (leftOf es seen).size = 0
        · have hall : Hid (∀ g ∈ gs, g.ids.length < q) := by
            intro g hg
            obtain ⟨e, he, he1, he2⟩ := (ents_of hkv.out.kv).2 g hg
            obtain ⟨g2, hg2, h5, h6⟩ := hs.out.2 e ((seen_all hs.out.1 hlf hnd).mem_iff.2 he)
            have : g2 = g := once_eq hkv.out.once hg2 hg (by rw [h5] at he1; simpa using he1)
            rw [← this]
            exact h6
          clear hs
          have hc := H.cells; simp only [CellsOf, KnCells, knc, Nat.reduceAdd] at hc
          repeat' (first | (go_big_may; (first
    | go_skip
    | (refine wpList_plain rfl (fun K hK => ?_); refine op_next_done _ rfl rfl H (by repeat (first | exact Split.here _ _ | apply Split.there)) (H.obj (b := mb) (by repeat (first | exact Split.here _ _ | apply Split.there))) hborn (Nat.le_refl _) hlf (hK _ _ ?_); clear hK K)
    | (refine wpList_plain rfl (fun K hK => ?_); (refine op_range _ _ _ _ rfl Try.underlying139 (es := es) (clock := clock) rfl H (H.obj (b := mb) (by repeat (first | exact Split.here _ _ | apply Split.there))) (fun r2 w' H1 => hK _ _ ?_); clear hK K; replace H := H1; clear H1; (try clear hc); (try simp only [nrm, splice, Value.cells, Nat.reduceAdd, Act.eval, Act.put] at H); have hc := H.cells; simp only [CellsOf, KnCells, knc, Nat.reduceAdd] at hc))
    | ((first
        | (go_at_call 96; refine Calls.mono (trig_calls hb f s rev2 asked own _ _ _ _ akey an acap (by omega) axs _ _ (H.pick (by repeat (first | exact Picks.nil _ | (apply Picks.wr; focus (repeat (first | exact Split.here _ _ | apply Split.there))) | (apply Picks.rd; focus (repeat (first | exact Split.here _ _ | apply Split.there))))))) ?_; rintro e w' ⟨key2, cap2, rfl, H'⟩; replace H := H.merge (by first | exact Strikes.nil _ | (repeat (first | exact Strikes.nil _ | (apply Strikes.cons; focus (repeat (first | exact Split.here _ _ | apply Split.there)))))) H' rfl; clear H')
        | (refine loud_ rfl ?_; refine wpList_plain rfl (fun K hK => ?_); (first | (refine op_box _ _ rfl H (fun b w' H1 => hK _ _ ?_)) | (refine op_alloc _ rfl (zero_of _ _ rfl) H (fun b w' H1 => hK _ _ ?_)) | (refine op_store _ _ _ rfl rfl rfl H (by repeat (first | exact Split.here _ _ | apply Split.there)) (by kernel_rfl) (by kernel_rfl) (by kernel_rfl) (fun w' H1 => hK _ _ ?_)) | (refine op_buildSlice_all _ _ _ rfl (by first | exact elem25 | exact elem32 | exact elem35 | exact elem36 | exact elem37 | exact elem38 | exact elem41 | exact elem42 | exact elem45 | exact elem57 | exact elem62 | exact elem74 | exact elem98 | exact elem100 | exact elem137 | exact elem178 | exact elem179) (by kernel_rfl) (by kernel_rfl) (by kernel_rfl) H (fun b w' H1 => hK _ _ ?_))); clear hK K; replace H := H1; clear H1)); (try clear hc); (try simp only [nrm, splice, Value.cells, Nat.reduceAdd, Act.eval, Act.put] at H); have hc := H.cells; simp only [CellsOf, KnCells, knc, Nat.reduceAdd] at hc))) | go_values | go_skip | go_guarded | go_step | go_upon | go_back | dsimp only)
          (try simp only [Act.put, slt])
          have H0 := H.sel (L' := [(true, .is r2 (.mapIter (some mb) clock #[] clock)), (true, .is mb (.map es clock)), (true, .is cb (chkO hb last)), (true, .is hb (hasO f s rev2 asked own pv hv (sl key2 (an + 1) cap2) rv)), (true, .row key2 27 1 (an + 1) cap2 (axs ++ [.int .u64 0]))]) (by repeat (first | exact Sel.nil _ | (apply Sel.cons; focus (repeat (first | exact Split.here _ _ | apply Split.there)))))
          clear H hc
          have hlf' := Lib.hid hlf
          clear hlf hleft
          go_loopw [21] (AtR3 es clock mb r2 [(true, .is cb (chkO hb last)), (true, .is hb (hasO f s rev2 asked own pv hv (sl key2 (an + 1) cap2) rv)), (true, .row key2 27 1 (an + 1) cap2 (axs ++ [.int .u64 0]))] S w) (fun _ wr => wr.rangeLeft mb r2)
          case atStart => exact ⟨#[], [], seen_nil _, H0⟩
          case round =>
            clear H0
            obtain ⟨seen2, gs2, hs2, H⟩ := hrel
            have hleft := Lib.hid (range_left (H.obj (b := mb) (Split.there _ (Split.here _ _))) (H.obj (b := r2) (Split.here _ _)))
            by_cases hlf : (leftOf es seen2).size = 0
            · have hc := H.cells; simp only [CellsOf, KnCells, knc, Nat.reduceAdd] at hc
              repeat' (first | (go_big_may; (first
    | go_skip
    | (refine wpList_plain rfl (fun K hK => ?_); refine op_next_done _ rfl rfl H (by repeat (first | exact Split.here _ _ | apply Split.there)) (H.obj (b := mb) (by repeat (first | exact Split.here _ _ | apply Split.there))) hborn (Nat.le_refl _) hlf (hK _ _ ?_); clear hK K)
    | ((first
        | (refine loud_ rfl ?_; refine wpList_plain rfl (fun K hK => ?_); (first | (refine op_box _ _ rfl H (fun b w' H1 => hK _ _ ?_)) | (refine op_alloc _ rfl (zero_of _ _ rfl) H (fun b w' H1 => hK _ _ ?_)) | (refine op_store _ _ _ rfl rfl rfl H (by repeat (first | exact Split.here _ _ | apply Split.there)) (by kernel_rfl) (by kernel_rfl) (by kernel_rfl) (fun w' H1 => hK _ _ ?_)) | (refine op_buildSlice_all _ _ _ rfl (by first | exact elem25 | exact elem32 | exact elem35 | exact elem36 | exact elem37 | exact elem38 | exact elem41 | exact elem42 | exact elem45 | exact elem57 | exact elem62 | exact elem74 | exact elem98 | exact elem100 | exact elem137 | exact elem178 | exact elem179) (by kernel_rfl) (by kernel_rfl) (by kernel_rfl) H (fun b w' H1 => hK _ _ ?_))); clear hK K; replace H := H1; clear H1)); (try clear hc); (try simp only [nrm, splice, Value.cells, Nat.reduceAdd, Act.eval, Act.put] at H); have hc := H.cells; simp only [CellsOf, KnCells, knc, Nat.reduceAdd] at hc))) | go_values | go_skip | go_guarded | go_step | go_upon | go_back | dsimp only)
              go_ret
              have hall2 : ∀ x ∈ grps (prs own ⟨fh, fc, fr⟩ ps), x.2.length < (ps.length + 1) / 2 + 1 := by
                intro x hx
                rw [← hpl.out] at hx
                obtain ⟨g, hg, rfl⟩ := List.mem_map.1 hx
                rw [hn.out, ← hq'.out]
                exact hall.out g hg
              exact ⟨true, last, [0], key2, an + 1, cap2, .inr ⟨by rw [← hgl.out]; exact hone'.out, rfl, rfl, .inr ⟨hall2, rfl⟩⟩, rfl, rfl, H.sel (by repeat (first | exact Sel.nil _ | (apply Sel.cons; focus (repeat (first | exact Split.here _ _ | apply Split.there)))))⟩
            · have hc := H.cells; simp only [CellsOf, KnCells, knc, Nat.reduceAdd] at hc
              go_upto_region 35 with (first
    | go_skip
    | (refine wpList_plain rfl (fun K hK => ?_); (refine op_next_more _ rfl rfl H (by repeat (first | exact Split.here _ _ | apply Split.there)) (H.obj (b := mb) (by repeat (first | exact Split.here _ _ | apply Split.there))) hborn (Nat.le_refl _) hlf (fun en w' he H1 => hK _ _ ?_); clear hK K; replace H := H1; clear H1; (try clear hc); (try simp only [nrm, splice, Value.cells, Nat.reduceAdd, Act.eval, Act.put] at H); have hc := H.cells; simp only [CellsOf, KnCells, knc, Nat.reduceAdd] at hc))
    | ((first
        | (refine loud_ rfl ?_; refine wpList_plain rfl (fun K hK => ?_); (first | (refine op_box _ _ rfl H (fun b w' H1 => hK _ _ ?_)) | (refine op_alloc _ rfl (zero_of _ _ rfl) H (fun b w' H1 => hK _ _ ?_)) | (refine op_store _ _ _ rfl rfl rfl H (by repeat (first | exact Split.here _ _ | apply Split.there)) (by kernel_rfl) (by kernel_rfl) (by kernel_rfl) (fun w' H1 => hK _ _ ?_)) | (refine op_buildSlice_all _ _ _ rfl (by first | exact elem25 | exact elem32 | exact elem35 | exact elem36 | exact elem37 | exact elem38 | exact elem41 | exact elem42 | exact elem45 | exact elem57 | exact elem62 | exact elem74 | exact elem98 | exact elem100 | exact elem137 | exact elem178 | exact elem179) (by kernel_rfl) (by kernel_rfl) (by kernel_rfl) H (fun b w' H1 => hK _ _ ?_))); clear hK K; replace H := H1; clear H1)); (try clear hc); (try simp only [nrm, splice, Value.cells, Nat.reduceAdd, Act.eval, Act.put] at H); have hc := H.cells; simp only [CellsOf, KnCells, knc, Nat.reduceAdd] at hc))
              have hlt9 := Lib.hid (left_shrinks es seen2 en he)
              have hsp := Lib.hid (seen_push hs2.out he)
              have hmem := Lib.hid (left_mem he).1
              clear he
              have hc := H.cells; simp only [CellsOf, KnCells, knc, Nat.reduceAdd] at hc
              repeat' (first | (go_big_may; (first
    | go_skip
    | (refine wpList_plain rfl (fun K hK => ?_); refine op_entry _ rfl rfl H (by repeat (first | exact Split.here _ _ | apply Split.there)) (H.obj (b := mb) (by repeat (first | exact Split.here _ _ | apply Split.there))) hmem.out hnd (hK _ _ ?_); clear hK K)
    | ((first
        | (refine loud_ rfl ?_; refine wpList_plain rfl (fun K hK => ?_); (first | (refine op_box _ _ rfl H (fun b w' H1 => hK _ _ ?_)) | (refine op_alloc _ rfl (zero_of _ _ rfl) H (fun b w' H1 => hK _ _ ?_)) | (refine op_store _ _ _ rfl rfl rfl H (by repeat (first | exact Split.here _ _ | apply Split.there)) (by kernel_rfl) (by kernel_rfl) (by kernel_rfl) (fun w' H1 => hK _ _ ?_)) | (refine op_buildSlice_all _ _ _ rfl (by first | exact elem25 | exact elem32 | exact elem35 | exact elem36 | exact elem37 | exact elem38 | exact elem41 | exact elem42 | exact elem45 | exact elem57 | exact elem62 | exact elem74 | exact elem98 | exact elem100 | exact elem137 | exact elem178 | exact elem179) (by kernel_rfl) (by kernel_rfl) (by kernel_rfl) H (fun b w' H1 => hK _ _ ?_))); clear hK K; replace H := H1; clear H1)); (try clear hc); (try simp only [nrm, splice, Value.cells, Nat.reduceAdd, Act.eval, Act.put] at H); have hc := H.cells; simp only [CellsOf, KnCells, knc, Nat.reduceAdd] at hc))) | go_values | go_skip | go_guarded | go_step | go_upon | go_back | dsimp only)
              have hleft2 := range_left (H.obj (b := mb) (by repeat (first | exact Split.here _ _ | apply Split.there))) (H.obj (b := r2) (by repeat (first | exact Split.here _ _ | apply Split.there)))
              exact ⟨⟨_, _, hsp, H.sel (by repeat (first | exact Sel.nil _ | (apply Sel.cons; focus (repeat (first | exact Split.here _ _ | apply Split.there)))))⟩, by rw [hleft2, hleft.out]; exact hlt9.out⟩
        · have hc := H.cells; simp only [CellsOf, KnCells, knc, Nat.reduceAdd] at hc
          go_upto_region 27 with (first
    | go_skip
    | (refine wpList_plain rfl (fun K hK => ?_); (refine op_next_more _ rfl rfl H (by repeat (first | exact Split.here _ _ | apply Split.there)) (H.obj (b := mb) (by repeat (first | exact Split.here _ _ | apply Split.there))) hborn (Nat.le_refl _) hlf (fun en w' he H1 => hK _ _ ?_); clear hK K; replace H := H1; clear H1; (try clear hc); (try simp only [nrm, splice, Value.cells, Nat.reduceAdd, Act.eval, Act.put] at H); have hc := H.cells; simp only [CellsOf, KnCells, knc, Nat.reduceAdd] at hc))
    | ((first
        | (refine loud_ rfl ?_; refine wpList_plain rfl (fun K hK => ?_); (first | (refine op_box _ _ rfl H (fun b w' H1 => hK _ _ ?_)) | (refine op_alloc _ rfl (zero_of _ _ rfl) H (fun b w' H1 => hK _ _ ?_)) | (refine op_store _ _ _ rfl rfl rfl H (by repeat (first | exact Split.here _ _ | apply Split.there)) (by kernel_rfl) (by kernel_rfl) (by kernel_rfl) (fun w' H1 => hK _ _ ?_)) | (refine op_buildSlice_all _ _ _ rfl (by first | exact elem25 | exact elem32 | exact elem35 | exact elem36 | exact elem37 | exact elem38 | exact elem41 | exact elem42 | exact elem45 | exact elem57 | exact elem62 | exact elem74 | exact elem98 | exact elem100 | exact elem137 | exact elem178 | exact elem179) (by kernel_rfl) (by kernel_rfl) (by kernel_rfl) H (fun b w' H1 => hK _ _ ?_))); clear hK K; replace H := H1; clear H1)); (try clear hc); (try simp only [nrm, splice, Value.cells, Nat.reduceAdd, Act.eval, Act.put] at H); have hc := H.cells; simp only [CellsOf, KnCells, knc, Nat.reduceAdd] at hc))
          have hlt9 := Lib.hid (left_shrinks es seen en he)
          have hsp := Lib.hid (seen_push hs.out.1 he)
          have hmem := Lib.hid (left_mem he).1
          obtain ⟨g, hg, hgk, hgv⟩ := (ents_of hkv.out.kv).1 en hmem.out
          clear he
          obtain ⟨ky, vl, bo⟩ := en
          simp only at hgk hgv
          subst hgk
          subst hgv
          obtain ⟨A, B, rfl⟩ := List.append_of_mem hg
          obtain ⟨gh, gb, gc, ids⟩ := g
          simp only [Gp.val] at *
          generalize hnl : ids.length = gn at *
          have hnl2 := Lib.hid hnl
          clear hnl
          by_cases hbig : q ≤ gn
          · have hbig' : (q : Int) ≤ (gn : Int) := by omega
            have hc := H.cells; simp only [CellsOf, KnCells, knc, Nat.reduceAdd] at hc
            repeat' (first | (go_big_may; (first
    | go_skip
    | (refine wpList_plain rfl (fun K hK => ?_); refine op_entry _ rfl rfl H (by repeat (first | exact Split.here _ _ | apply Split.there)) (H.obj (b := mb) (by repeat (first | exact Split.here _ _ | apply Split.there))) hmem.out hnd (hK _ _ ?_); clear hK K)
    | (refine wpList_plain rfl (fun K hK => ?_); (refine op_delB _ _ _ _ _ _ rfl Try.underlying139 keyH rfl rfl H (by repeat (first | exact Split.here _ _ | apply Split.there)) hkv.out (fun es2 w' hkv2 H1 => hK _ _ ?_); clear hK K; replace H := H1; clear H1; (try clear hc); (try simp only [nrm, splice, Value.cells, Nat.reduceAdd, Act.eval, Act.put] at H); have hc := H.cells; simp only [CellsOf, KnCells, knc, Nat.reduceAdd] at hc))
    | (refine wpList_plain rfl (fun K hK => ?_); (refine op_range _ _ _ _ rfl Try.underlying139 (es := es2) (clock := clock) rfl H (H.obj (b := mb) (by repeat (first | exact Split.here _ _ | apply Split.there))) (fun r2 w' H1 => hK _ _ ?_); clear hK K; replace H := H1; clear H1; (try clear hc); (try simp only [nrm, splice, Value.cells, Nat.reduceAdd, Act.eval, Act.put] at H); have hc := H.cells; simp only [CellsOf, KnCells, knc, Nat.reduceAdd] at hc))
    | ((first
        | (refine loud_ rfl ?_; refine wpList_plain rfl (fun K hK => ?_); (first | (refine op_box _ _ rfl H (fun b w' H1 => hK _ _ ?_)) | (refine op_alloc _ rfl (zero_of _ _ rfl) H (fun b w' H1 => hK _ _ ?_)) | (refine op_store _ _ _ rfl rfl rfl H (by repeat (first | exact Split.here _ _ | apply Split.there)) (by kernel_rfl) (by kernel_rfl) (by kernel_rfl) (fun w' H1 => hK _ _ ?_)) | (refine op_buildSlice_all _ _ _ rfl (by first | exact elem25 | exact elem32 | exact elem35 | exact elem36 | exact elem37 | exact elem38 | exact elem41 | exact elem42 | exact elem45 | exact elem57 | exact elem62 | exact elem74 | exact elem98 | exact elem100 | exact elem137 | exact elem178 | exact elem179) (by kernel_rfl) (by kernel_rfl) (by kernel_rfl) H (fun b w' H1 => hK _ _ ?_))); clear hK K; replace H := H1; clear H1)); (try clear hc); (try simp only [nrm, splice, Value.cells, Nat.reduceAdd, Act.eval, Act.put] at H); have hc := H.cells; simp only [CellsOf, KnCells, knc, Nat.reduceAdd] at hc))) | go_values | go_skip | go_guarded | go_step | go_upon | go_back | dsimp only)
            (try simp only [Act.put, slt])
            have hkv3 : Hid (KVB uk es2 clock (gAL (A ++ B))) := by
              have h := hkv2
              rw [adel_mid (g := ⟨gh, gb, gc, ids⟩) hkv.out.once] at h
              exact h
            clear hkv2
            have H1 := H.sel (L' := [(true, bag (gX (A ++ (⟨gh, gb, gc, ids⟩ : Gp) :: B))), (true, .is r2 (.mapIter (some mb) clock #[] clock)), (true, .is mb (.map es2 clock)), (true, .is cb (chkO hb last)), (true, .is hb (hasO f s rev2 asked own pv hv (sl akey an acap) rv)), (true, .row akey 27 1 an acap axs)]) (by repeat (first | exact Sel.nil _ | (apply Sel.cons; focus (repeat (first | exact Split.here _ _ | apply Split.there)))))
            replace H1 := bag_take H1
            have H0 : St S w w' [(true, .is r2 (.mapIter (some mb) clock #[] clock)), (true, .is mb (.map es2 clock)), (true, bag (gX (A ++ B))), (true, .is cb (chkO hb last)), (true, .is hb (hasO f s rev2 asked own pv hv (sl akey an acap) rv)), (true, .row akey 27 1 an acap (axs ++ ([] : List Int).map iv))] := by
              rw [List.map_nil, List.append_nil]
              exact H1.sel (by repeat (first | exact Sel.nil _ | (apply Sel.cons; focus (repeat (first | exact Split.here _ _ | apply Split.there)))))
            clear H H1 hc
            have hlf' := Lib.hid hlf
            clear hlf hleft hborn hnd
            have hbig9 := Lib.hid hbig
            clear hbig hbig'
            have hborn := hkv3.out.born
            have hnd := hkv3.out.nodup
            have hes2 : Hid (es2.size ≤ 1001) := by
              have h5 := kv1_size hkv3.out.kv
              have h6 := hsz.out.2
              simp only [gAL, List.length_map, List.length_append, List.length_cons] at h5 h6
              show _ ≤ _
              omega
            go_loopw [21] (AtR2 es2 clock (A ++ B) mb r2 cb hb (chkO hb last) f s rev2 asked own pv hv rv an axs S w) (fun _ wr => wr.rangeLeft mb r2)
            case atStart => exact ⟨#[], [], [], [], an, akey, acap, ⟨seen_nil _, rfl, by simp, rfl, rfl, rfl⟩, by simp; omega, H0⟩
            case round =>
              clear H0
              obtain ⟨seen2, gs2, gl, zs, anum, key, cap, hs2, hanum, H⟩ := hrel
              have hleft := Lib.hid (range_left (H.obj (b := mb) (Split.there _ (Split.here _ _))) (H.obj (b := r2) (Split.here _ _)))
              by_cases hlf : (leftOf es2 seen2).size = 0
              · have hc := H.cells; simp only [CellsOf, KnCells, knc, Nat.reduceAdd] at hc
                repeat' (first | (go_big_may; (first
    | go_skip
    | (refine wpList_plain rfl (fun K hK => ?_); refine op_next_done _ rfl rfl H (by repeat (first | exact Split.here _ _ | apply Split.there)) (H.obj (b := mb) (by repeat (first | exact Split.here _ _ | apply Split.there))) hborn (Nat.le_refl _) hlf (hK _ _ ?_); clear hK K)
    | ((first
        | (refine loud_ rfl ?_; refine wpList_plain rfl (fun K hK => ?_); (first | (refine op_box _ _ rfl H (fun b w' H1 => hK _ _ ?_)) | (refine op_alloc _ rfl (zero_of _ _ rfl) H (fun b w' H1 => hK _ _ ?_)) | (refine op_store _ _ _ rfl rfl rfl H (by repeat (first | exact Split.here _ _ | apply Split.there)) (by kernel_rfl) (by kernel_rfl) (by kernel_rfl) (fun w' H1 => hK _ _ ?_)) | (refine op_buildSlice_all _ _ _ rfl (by first | exact elem25 | exact elem32 | exact elem35 | exact elem36 | exact elem37 | exact elem38 | exact elem41 | exact elem42 | exact elem45 | exact elem57 | exact elem62 | exact elem74 | exact elem98 | exact elem100 | exact elem137 | exact elem178 | exact elem179) (by kernel_rfl) (by kernel_rfl) (by kernel_rfl) H (fun b w' H1 => hK _ _ ?_))); clear hK K; replace H := H1; clear H1)); (try clear hc); (try simp only [nrm, splice, Value.cells, Nat.reduceAdd, Act.eval, Act.put] at H); have hc := H.cells; simp only [CellsOf, KnCells, knc, Nat.reduceAdd] at hc))) | go_values | go_skip | go_guarded | go_step | go_upon | go_back | dsimp only)
                go_ret
                have hperm : zs.Perm ((A ++ B).flatMap Gp.ids) := by
                  rw [hs2.out.2.2.2.1]
                  exact (gl_perm (seen_all hs2.out.1 hlf hnd) hkv3.out.kv hkv3.out.once hs2.out.2.1 hs2.out.2.2.1).flatMap_right _
                have htold : ∃ x ∈ grps (prs own ⟨fh, fc, fr⟩ ps), (ps.length + 1) / 2 + 1 ≤ x.2.length ∧ zs.Perm (((grps (prs own ⟨fh, fc, fr⟩ ps)).filter fun y => decide (y.1 ≠ x.1)).flatMap (·.2)) := by
                  refine ⟨(gh, ids), by rw [← hpl.out]; simp [Gp.pl], ?_, ?_⟩
                  · show _ ≤ ids.length
                    rw [hn.out, ← hq'.out, hnl2.out]
                    exact hbig9.out
                  · rw [← hpl.out]
                    have := filt_mid (g := ⟨gh, gb, gc, ids⟩) hkv.out.once
                    rw [this]
                    rw [List.flatMap_map]
                    exact hperm
                exact ⟨true, last, zs, key, anum, cap, .inr ⟨by rw [← hgl.out]; exact hone'.out, rfl, rfl, .inl htold⟩, hs2.out.2.2.2.2.1, rfl, H.sel (by repeat (first | exact Sel.nil _ | (apply Sel.cons; focus (repeat (first | exact Split.here _ _ | apply Split.there)))))⟩
              · have hc := H.cells; simp only [CellsOf, KnCells, knc, Nat.reduceAdd] at hc
                go_upto_region 35 with (first
    | go_skip
    | (refine wpList_plain rfl (fun K hK => ?_); (refine op_next_more _ rfl rfl H (by repeat (first | exact Split.here _ _ | apply Split.there)) (H.obj (b := mb) (by repeat (first | exact Split.here _ _ | apply Split.there))) hborn (Nat.le_refl _) hlf (fun en w' he H1 => hK _ _ ?_); clear hK K; replace H := H1; clear H1; (try clear hc); (try simp only [nrm, splice, Value.cells, Nat.reduceAdd, Act.eval, Act.put] at H); have hc := H.cells; simp only [CellsOf, KnCells, knc, Nat.reduceAdd] at hc))
    | ((first
        | (refine loud_ rfl ?_; refine wpList_plain rfl (fun K hK => ?_); (first | (refine op_box _ _ rfl H (fun b w' H1 => hK _ _ ?_)) | (refine op_alloc _ rfl (zero_of _ _ rfl) H (fun b w' H1 => hK _ _ ?_)) | (refine op_store _ _ _ rfl rfl rfl H (by repeat (first | exact Split.here _ _ | apply Split.there)) (by kernel_rfl) (by kernel_rfl) (by kernel_rfl) (fun w' H1 => hK _ _ ?_)) | (refine op_buildSlice_all _ _ _ rfl (by first | exact elem25 | exact elem32 | exact elem35 | exact elem36 | exact elem37 | exact elem38 | exact elem41 | exact elem42 | exact elem45 | exact elem57 | exact elem62 | exact elem74 | exact elem98 | exact elem100 | exact elem137 | exact elem178 | exact elem179) (by kernel_rfl) (by kernel_rfl) (by kernel_rfl) H (fun b w' H1 => hK _ _ ?_))); clear hK K; replace H := H1; clear H1)); (try clear hc); (try simp only [nrm, splice, Value.cells, Nat.reduceAdd, Act.eval, Act.put] at H); have hc := H.cells; simp only [CellsOf, KnCells, knc, Nat.reduceAdd] at hc))
                have hlt8 := Lib.hid (left_shrinks es2 seen2 en he)
                have hsp := Lib.hid (seen_push hs2.out.1 he)
                have hsle := Lib.hid (seen_len hsp.out)
                have hmem2 := Lib.hid (left_mem he).1
                obtain ⟨g2, hg2, hgk2, hgv2⟩ := (ents_of hkv3.out.kv).1 en hmem2.out
                clear he
                obtain ⟨ky2, vl2, bo2⟩ := en
                simp only at hgk2 hgv2
                subst hgk2
                subst hgv2
                have hgl2 := Lib.hid hg2
                obtain ⟨A2, B2, hAB⟩ := List.append_of_mem hg2
                clear hg2
                have hAB2 := Lib.hid hAB
                clear hAB
                have hglen : Hid (g2.ids.length ≤ 1001) := by
                  have : g2 ∈ A ++ (⟨gh, gb, gc, ids⟩ : Gp) :: B := by
                    rcases List.mem_append.1 hgl2.out with h | h
                    · exact List.mem_append_left _ h
                    · exact List.mem_append_right _ (List.mem_cons_of_mem _ h)
                  have := hsz.out.1 g2 this
                  show _ ≤ _
                  omega
                have hgln : Hid (gl.length + 1 ≤ 1001) := by
                  have h5 := hsle.out
                  have h6 := hes2.out
                  rw [List.length_append, ← hs2.out.2.2.2.2.2] at h5
                  simp only [List.length_cons, List.length_nil] at h5
                  show _ ≤ _
                  omega
                obtain ⟨gh2, gb2, gc2, ids2⟩ := g2
                simp only [Gp.val] at *
                generalize hnl : ids2.length = gn2 at *
                have hnl3 := Lib.hid hnl
                clear hnl
                have H1 : St S w w' ((true, bag (gX (A2 ++ (⟨gh2, gb2, gc2, ids2⟩ : Gp) :: B2))) :: [(true, .is r2 (.mapIter (some mb) clock (seen2.push bo2) clock)), (true, .is mb (.map es2 clock)), (true, .is cb (chkO hb last)), (true, .is hb (hasO f s rev2 asked own pv hv (sl key anum cap) rv)), (true, .row key 27 1 anum cap (axs ++ zs.map iv))]) := by
                  rw [← hAB2.out]
                  exact H.sel (by repeat (first | exact Sel.nil _ | (apply Sel.cons; focus (repeat (first | exact Split.here _ _ | apply Split.there)))))
                replace H1 := bag_take H1
                simp only [Gp.ent, hnl3.out] at H1
                clear H hc
                have H := H1
                clear H1
                have hc := H.cells; simp only [CellsOf, KnCells, knc, Nat.reduceAdd] at hc
                repeat' (first | (go_big_may; (first
    | go_skip
    | (refine wpList_plain rfl (fun K hK => ?_); refine op_entry _ rfl rfl H (by repeat (first | exact Split.here _ _ | apply Split.there)) (H.obj (b := mb) (by repeat (first | exact Split.here _ _ | apply Split.there))) hmem2.out hnd (hK _ _ ?_); clear hK K)
    | ((first
        | (refine loud_ rfl ?_; refine wpList_plain rfl (fun K hK => ?_); (first | (refine op_box _ _ rfl H (fun b w' H1 => hK _ _ ?_)) | (refine op_alloc _ rfl (zero_of _ _ rfl) H (fun b w' H1 => hK _ _ ?_)) | (refine op_store _ _ _ rfl rfl rfl H (by repeat (first | exact Split.here _ _ | apply Split.there)) (by kernel_rfl) (by kernel_rfl) (by kernel_rfl) (fun w' H1 => hK _ _ ?_)) | (refine op_buildSlice_all _ _ _ rfl (by first | exact elem25 | exact elem32 | exact elem35 | exact elem36 | exact elem37 | exact elem38 | exact elem41 | exact elem42 | exact elem45 | exact elem57 | exact elem62 | exact elem74 | exact elem98 | exact elem100 | exact elem137 | exact elem178 | exact elem179) (by kernel_rfl) (by kernel_rfl) (by kernel_rfl) H (fun b w' H1 => hK _ _ ?_))); clear hK K; replace H := H1; clear H1)); (try clear hc); (try simp only [nrm, splice, Value.cells, Nat.reduceAdd, Act.eval, Act.put] at H); have hc := H.cells; simp only [CellsOf, KnCells, knc, Nat.reduceAdd] at hc))) | go_values | go_skip | go_guarded | go_step | go_upon | go_back | dsimp only)
                have H0 : St S w w' ((true, (.row (some gb2) 77 1 gn2 gc2 (ids2.map iv))) :: (true, .is hb (hasO f s rev2 asked own pv hv (sl key (anum + 0) cap) rv)) :: (true, .row key 27 1 (anum + 0) cap ((axs ++ zs.map iv) ++ (ids2.take 0).map iv)) :: [(true, bag (gX (A2 ++ B2))), (true, .is r2 (.mapIter (some mb) clock (seen2.push bo2) clock)), (true, .is mb (.map es2 clock)), (true, .is cb (chkO hb last))]) := by
                  rw [List.take_zero, List.map_nil, List.append_nil]
                  exact H.sel (by repeat (first | exact Sel.nil _ | (apply Sel.cons; focus (repeat (first | exact Split.here _ _ | apply Split.there)))))
                clear H hc
                have hlf2 := Lib.hid hlf
                clear hlf
                have hb1 := hglen.out
                have hb2 := hgln.out
                go_loopw [149] (AtIn gn2 ids2 (.row (some gb2) 77 1 gn2 gc2 (ids2.map iv)) hb anum f s rev2 asked own pv hv rv (axs ++ zs.map iv) [(true, bag (gX (A2 ++ B2))), (true, .is r2 (.mapIter (some mb) clock (seen2.push bo2) clock)), (true, .is mb (.map es2 clock)), (true, .is cb (chkO hb last))] S w) (fun i _ => gn2 - (intOf i).toNat)
                case atStart => exact ⟨0, key, cap, rfl, Nat.zero_le _, H0⟩
                case round =>
                  clear H0
                  obtain ⟨k, key, cap, rfl, hk, H⟩ := hrel
                  have hmul : gl.length * 1001 ≤ 1000 * 1001 := Nat.mul_le_mul_right _ (by omega)
                  by_cases hlt2 : k < gn2
                  · have hk' : k < ids2.length := by rw [hnl3.out]; exact hlt2
                    have hcell : (ids2.map iv)[k]? = some (iv ids2[k]) := by simp [hk']
                    have hcat3 : Hid (ids2.take (k + 1) = ids2.take k ++ [ids2[k]]) := (List.take_append_getElem hk').symm
                    generalize ids2[k] = id at *
                    clear hk'
                    have hc := H.cells; simp only [CellsOf, KnCells, knc, Nat.reduceAdd] at hc
                    repeat' (first | (go_big_may; (first
    | go_skip
    | ((first
        | (go_at_call 96; refine Calls.mono (trig_calls hb f s rev2 asked own _ _ _ _ key (anum + k) cap (by omega) _ _ _ (H.pick (by repeat (first | exact Picks.nil _ | (apply Picks.wr; focus (repeat (first | exact Split.here _ _ | apply Split.there))) | (apply Picks.rd; focus (repeat (first | exact Split.here _ _ | apply Split.there))))))) ?_; rintro e w' ⟨key3, cap3, rfl, H'⟩; replace H := H.merge (by first | exact Strikes.nil _ | (repeat (first | exact Strikes.nil _ | (apply Strikes.cons; focus (repeat (first | exact Split.here _ _ | apply Split.there)))))) H' rfl; clear H')
        | (refine loud_ rfl ?_; refine wpList_plain rfl (fun K hK => ?_); (first | (refine op_box _ _ rfl H (fun b w' H1 => hK _ _ ?_)) | (refine op_alloc _ rfl (zero_of _ _ rfl) H (fun b w' H1 => hK _ _ ?_)) | (refine op_store _ _ _ rfl rfl rfl H (by repeat (first | exact Split.here _ _ | apply Split.there)) (by kernel_rfl) (by kernel_rfl) (by kernel_rfl) (fun w' H1 => hK _ _ ?_)) | (refine op_buildSlice_all _ _ _ rfl (by first | exact elem25 | exact elem32 | exact elem35 | exact elem36 | exact elem37 | exact elem38 | exact elem41 | exact elem42 | exact elem45 | exact elem57 | exact elem62 | exact elem74 | exact elem98 | exact elem100 | exact elem137 | exact elem178 | exact elem179) (by kernel_rfl) (by kernel_rfl) (by kernel_rfl) H (fun b w' H1 => hK _ _ ?_))); clear hK K; replace H := H1; clear H1)); (try clear hc); (try simp only [nrm, splice, Value.cells, Nat.reduceAdd, Act.eval, Act.put] at H); have hc := H.cells; simp only [CellsOf, KnCells, knc, Nat.reduceAdd] at hc))) | go_values | go_skip | go_guarded | go_step | go_upon | go_back | dsimp only)
                    have e : (axs ++ zs.map iv) ++ (ids2.take (k + 1)).map iv = axs ++ (zs.map iv ++ ((ids2.take k).map iv ++ [.int .u64 id])) := by
                      rw [hcat3.out, List.map_append, List.map_cons, List.map_nil]
                      simp only [List.append_assoc]
                    refine ⟨⟨k + 1, key3, cap3, by go_num, by omega, ?_⟩, by simp [intOf]; omega⟩
                    rw [e]
                    exact H.sel (by repeat (first | exact Sel.nil _ | (apply Sel.cons; focus (repeat (first | exact Split.here _ _ | apply Split.there)))))
                  · obtain rfl : k = gn2 := by omega
                    have hc := H.cells; simp only [CellsOf, KnCells, knc, Nat.reduceAdd] at hc
                    repeat' (first | (go_big_may; (first
    | ((first
        | (refine loud_ rfl ?_; refine wpList_plain rfl (fun K hK => ?_); (first | (refine op_box _ _ rfl H (fun b w' H1 => hK _ _ ?_)) | (refine op_alloc _ rfl (zero_of _ _ rfl) H (fun b w' H1 => hK _ _ ?_)) | (refine op_store _ _ _ rfl rfl rfl H (by repeat (first | exact Split.here _ _ | apply Split.there)) (by kernel_rfl) (by kernel_rfl) (by kernel_rfl) (fun w' H1 => hK _ _ ?_)) | (refine op_buildSlice_all _ _ _ rfl (by first | exact elem25 | exact elem32 | exact elem35 | exact elem36 | exact elem37 | exact elem38 | exact elem41 | exact elem42 | exact elem45 | exact elem57 | exact elem62 | exact elem74 | exact elem98 | exact elem100 | exact elem137 | exact elem178 | exact elem179) (by kernel_rfl) (by kernel_rfl) (by kernel_rfl) H (fun b w' H1 => hK _ _ ?_))); clear hK K; replace H := H1; clear H1)); (try clear hc); (try simp only [nrm, splice, Value.cells, Nat.reduceAdd, Act.eval, Act.put] at H); have hc := H.cells; simp only [CellsOf, KnCells, knc, Nat.reduceAdd] at hc))) | go_values | go_skip | go_guarded | go_step | go_upon | go_back | dsimp only)
                    have hleft2 := range_left (H.obj (b := mb) (by repeat (first | exact Split.here _ _ | apply Split.there))) (H.obj (b := r2) (by repeat (first | exact Split.here _ _ | apply Split.there)))
                    have H9 : St S w wr (Gp.ent ⟨gh2, gb2, gc2, ids2⟩ :: (true, bag (gX (A2 ++ B2))) :: [(true, .is r2 (.mapIter (some mb) clock (seen2.push bo2) clock)), (true, .is mb (.map es2 clock)), (true, .is cb (chkO hb last)), (true, .is hb (hasO f s rev2 asked own pv hv (sl key (anum + k) cap) rv)), (true, .row key 27 1 (anum + k) cap (axs ++ (zs ++ ids2).map iv))]) := by
                      have e : axs ++ (zs ++ ids2).map iv = (axs ++ zs.map iv) ++ (ids2.take k).map iv := by
                        rw [List.take_of_length_le (by rw [hnl3.out]; exact Nat.le_refl _), List.map_append, List.append_assoc]
                      rw [e]
                      simp only [Gp.ent, hnl3.out]
                      exact H.sel (by repeat (first | exact Sel.nil _ | (apply Sel.cons; focus (repeat (first | exact Split.here _ _ | apply Split.there)))))
                    have H8 := bag_back H9
                    rw [← hAB2.out] at H8
                    have hR : Hid (R2Is es2 (A ++ B) an (seen2.push bo2) (gs2 ++ [⟨uk gh2, .slice (some ⟨gb2, 0, none⟩) k gc2, bo2⟩]) (gl ++ [⟨gh2, gb2, gc2, ids2⟩]) (zs ++ ids2) (anum + k)) := by
                      obtain ⟨r1, r2', r3, r4, r5, r6⟩ := hs2.out
                      refine ⟨hsp.out, ?_, ?_, ?_, ?_, ?_⟩
                      · rw [List.map_append, List.map_append, r2']
                        rfl
                      · intro g hg
                        rcases List.mem_append.1 hg with hg | hg
                        · exact r3 g hg
                        · simp only [List.mem_singleton] at hg
                          subst hg
                          exact hgl2.out
                      · rw [List.flatMap_append, ← r4]
                        simp
                      · rw [List.length_append, hnl3.out, r5, Nat.add_assoc]
                      · rw [List.length_append, List.length_append, r6]
                        rfl
                    refine ⟨⟨_, _, _, _, _, key, cap, hR, ?_, H8.sel (by repeat (first | exact Sel.nil _ | (apply Sel.cons; focus (repeat (first | exact Split.here _ _ | apply Split.there)))))⟩, by rw [hleft2, hleft.out]; exact hlt8.out⟩
                    rw [List.length_append]
                    simp only [List.length_cons, List.length_nil]
                    omega
          · have hbig' : ¬ (q : Int) ≤ (gn : Int) := by omega
            have hc := H.cells; simp only [CellsOf, KnCells, knc, Nat.reduceAdd] at hc
            repeat' (first | (go_big_may; (first
    | go_skip
    | (refine wpList_plain rfl (fun K hK => ?_); refine op_entry _ rfl rfl H (by repeat (first | exact Split.here _ _ | apply Split.there)) (H.obj (b := mb) (by repeat (first | exact Split.here _ _ | apply Split.there))) hmem.out hnd (hK _ _ ?_); clear hK K)
    | ((first
        | (refine loud_ rfl ?_; refine wpList_plain rfl (fun K hK => ?_); (first | (refine op_box _ _ rfl H (fun b w' H1 => hK _ _ ?_)) | (refine op_alloc _ rfl (zero_of _ _ rfl) H (fun b w' H1 => hK _ _ ?_)) | (refine op_store _ _ _ rfl rfl rfl H (by repeat (first | exact Split.here _ _ | apply Split.there)) (by kernel_rfl) (by kernel_rfl) (by kernel_rfl) (fun w' H1 => hK _ _ ?_)) | (refine op_buildSlice_all _ _ _ rfl (by first | exact elem25 | exact elem32 | exact elem35 | exact elem36 | exact elem37 | exact elem38 | exact elem41 | exact elem42 | exact elem45 | exact elem57 | exact elem62 | exact elem74 | exact elem98 | exact elem100 | exact elem137 | exact elem178 | exact elem179) (by kernel_rfl) (by kernel_rfl) (by kernel_rfl) H (fun b w' H1 => hK _ _ ?_))); clear hK K; replace H := H1; clear H1)); (try clear hc); (try simp only [nrm, splice, Value.cells, Nat.reduceAdd, Act.eval, Act.put] at H); have hc := H.cells; simp only [CellsOf, KnCells, knc, Nat.reduceAdd] at hc))) | go_values | go_skip | go_guarded | go_step | go_upon | go_back | dsimp only)
            have hleft2 := range_left (H.obj (b := mb) (by repeat (first | exact Split.here _ _ | apply Split.there))) (H.obj (b := r) (by repeat (first | exact Split.here _ _ | apply Split.there)))
            have hs9 : Hid (SeenIs es (seen.push bo) (gs1 ++ [⟨uk gh, .slice (some ⟨gb, 0, none⟩) gn gc, bo⟩]) ∧ ∀ e ∈ gs1 ++ [(⟨uk gh, .slice (some ⟨gb, 0, none⟩) gn gc, bo⟩ : MapEntry)], ∃ g ∈ A ++ (⟨gh, gb, gc, ids⟩ : Gp) :: B, e.key = uk g.hash ∧ g.ids.length < q) := by
              refine ⟨hsp.out, ?_⟩
              intro e he
              rcases List.mem_append.1 he with he | he
              · exact hs.out.2 e he
              · simp only [List.mem_singleton] at he
                subst he
                exact ⟨⟨gh, gb, gc, ids⟩, by simp, rfl, by show ids.length < q; rw [hnl2.out]; omega⟩
            exact ⟨⟨_, _, rfl, hs9, H.sel (by repeat (first | exact Sel.nil _ | (apply Sel.cons; focus (repeat (first | exact Split.here _ _ | apply Split.there)))))⟩, by rw [hleft2, hleft.out]; exact hlt9.out⟩
end Go.Proofs.Ytelddhcggmfloaa
