import Derived.Test.YtelddhcggmfloaaCkN
import Derived.Test.YtelddhcggmfloaaCkJ
-- MORE
-- SUB2
namespace Go.Proofs.Ytelddhcggmfloaa
set_option linter.unusedVariables false
set_option linter.unusedSimpArgs false
set_option linter.unnecessarySimpa false
open Go Go.RowKit Go.V

theorem told_false {own : Int} {h : KH} {ps : List Pr} {last last' : Int} {zs : List Int} (ht : CkTold own h ps last false last' zs) : zs = [] ∧ last' = last := by
  rcases ht with ⟨_, h2, h3, h4⟩ | ⟨_, h2, _⟩
  · refine ⟨h2, ?_⟩
    rw [h4, if_neg]
    intro e
    rw [decide_eq_true e] at h3
    cases h3
  · cases h2
def PreOk (own : Int) (P : Int → List Pr) (last : Int) (l : List KH) : Prop := ∀ h ∈ l, P h.rev = [] ∨ CkTold own h (P h.rev) last false last []
def ChTold (own : Int) (P : Int → List Pr) (last : Int) (l : List KH) (last' : Int) (asked zs : List Int) : Prop :=
  (PreOk own P last l ∧ last' = last ∧ asked = l.map KH.rev ∧ zs = []) ∨ ∃ (j : Nat) (h : j < l.length), PreOk own P last (l.take j) ∧ P l[j].rev ≠ [] ∧ CkTold own l[j] (P l[j].rev) last true last' zs ∧ asked = (l.take (j + 1)).map KH.rev
abbrev KVt2 : TypeId := 55
def AtCh (m : Nat) (l : List KH) (own last : Int) (P : Int → List Pr) (cb hb : Nat) (f s : KH) (rev2 asked : Int) (pv hv : Value) (lsrc : Option Addr) (L : List Ent) (S : List Nat) (w : World) (i : Value) (wr : World) : Prop :=
  ∃ (j : Nat) (akey rkey : Option Nat) (acap rcap : Nat), i = .int .i64 j ∧ j ≤ m ∧ Hid (PreOk own P last (l.take j)) ∧
    St S w wr ((true, .is cb (chkO hb last)) :: (true, .is hb (hasO f s rev2 asked own pv hv (sl akey 0 acap) (sl rkey j rcap))) :: (true, .row akey 27 1 0 acap []) :: (true, .row rkey 2 1 j rcap (((l.take j).map KH.rev).map i8)) :: (false, soft lsrc (l.flatMap KH.cells)) :: L)
set_option maxRecDepth 8000 in
set_option maxHeartbeats 4000000 in
theorem chash_calls (cb hb : Nat) (last : Int) (f s : KH) (rev2 asked own : Int) (hs : List KH) (hsrc : Option Addr) (hn hc9 : Nat) (pb rb : Nat) (hv : Value) (vs : List Int) (rs : List (Row Pr)) (rsrc psrc : Option Addr) (n rc pc : Nat)
    (hhn : Hid (hs.length = hn)) (hhl : hn ≤ 19) (hn1 : Hid (vs.length = n)) (hn2 : Hid (rs.length = n)) (hl : n ≤ 1000) (hk : Hid (∀ r ∈ rs, r.list.length ≤ 1000)) (S : List Nat) (w : World)
    (H : St S w w [(true, .is cb (chkO hb last)), (true, .is hb (hasO f s rev2 asked own (fv35 pb) (.slice hsrc hn hc9) (.slice none 0 0) (.slice none 0 0))), (false, .is pb (fnO rb pb)), (false, .is rb (rdO hv rsrc n rc psrc n pc)), (false, soft rsrc (vs.map i8)), (false, soft psrc (rs.map Row.val)), (false, nest rs), (false, soft hsrc (hs.flatMap KH.cells))]) :
    Calls Try.prog 36 #[pt cb] w fun e w' => ∃ (l : List KH) (m : Nat) (last' : Int) (ask zs : List Int) (akey rkey : Option Nat) (an ar acap rcap : Nat),
      Hid (UnTold hs l last hn m ∧ ChTold own (prsAt vs rs) last (l.take m) last' ask zs ∧ an = zs.length ∧ ar = ask.length) ∧ e = .returned (.tuple #[]) ∧
      St S w w' [(true, .is cb (chkO hb last')), (true, .is hb (hasO f s rev2 asked own (fv35 pb) (.slice hsrc hn hc9) (sl akey an acap) (sl rkey ar rcap))), (true, .row akey 27 1 an acap (zs.map iv)), (true, .row rkey 2 1 ar rcap (ask.map i8))] := by
  have h1 := me_peer hb
  have h2 := na_peer hb
  replace H := (H.nilRow 2 1).nilRow 27 1
  go_enter Try.func36, Try.ntmps36
  repeat' (first | (go_big_may; (first
    | go_skip
    | ((first
        | (go_at_call 42; refine Calls.mono (unchecked_calls cb hb last f s rev2 asked own _ _ _ hs _ hn hc9 hhn hhl _ (H.pick (by repeat (first | exact Picks.nil _ | (apply Picks.wr; focus (repeat (first | exact Split.here _ _ | apply Split.there))) | (apply Picks.rd; focus (repeat (first | exact Split.here _ _ | apply Split.there))))))) ?_; rintro e w' ⟨l, m, key, cap, hun, rfl, H'⟩; replace H := H.merge (by first | exact Strikes.nil _ | (repeat (first | exact Strikes.nil _ | (apply Strikes.cons; focus (repeat (first | exact Split.here _ _ | apply Split.there)))))) H' rfl; clear H')
        | (refine loud_ rfl ?_; refine wpList_plain rfl (fun K hK => ?_); (first | (refine op_box _ _ rfl H (fun b w' H1 => hK _ _ ?_)) | (refine op_alloc _ rfl (zero_of _ _ rfl) H (fun b w' H1 => hK _ _ ?_)) | (refine op_store _ _ _ rfl rfl rfl H (by repeat (first | exact Split.here _ _ | apply Split.there)) (by kernel_rfl) (by kernel_rfl) (by kernel_rfl) (fun w' H1 => hK _ _ ?_)) | (refine op_buildSlice_all _ _ _ rfl (by first | exact elem25 | exact elem32 | exact elem35 | exact elem36 | exact elem37 | exact elem38 | exact elem41 | exact elem42 | exact elem45 | exact elem57 | exact elem62 | exact elem74 | exact elem98 | exact elem100 | exact elem137 | exact elem178 | exact elem179) (by kernel_rfl) (by kernel_rfl) (by kernel_rfl) H (fun b w' H1 => hK _ _ ?_))); clear hK K; replace H := H1; clear H1)); (try clear hc); (try simp only [nrm, splice, Value.cells, Nat.reduceAdd, Act.eval, Act.put] at H); have hc := H.cells; simp only [CellsOf, KnCells, knc, Nat.reduceAdd] at hc))) | go_values | go_skip | go_guarded | go_step | go_upon | go_back | dsimp only)
  replace H := H.rowSoft (key := key) (by repeat (first | exact Split.here _ _ | apply Split.there))
  (try simp only [List.append] at H)
  (try simp only [sl])
  generalize (key.map fun b => (⟨b, 0, none⟩ : Addr)) = lsrc at *
  have hll : Hid (l.length = hn) := hun.out.1.length_eq.trans hhn.out
  have hmn : m ≤ hn := hun.out.2.2.1
  have H0 : St S w w' ((true, .is cb (chkO hb last)) :: (true, .is hb (hasO f s rev2 asked own (fv35 pb) (.slice hsrc hn hc9) (sl none 0 0) (sl none 0 0))) :: (true, .row none 27 1 0 0 []) :: (true, .row none 2 1 0 0 (((l.take 0).map KH.rev).map i8)) :: (false, soft lsrc (l.flatMap KH.cells)) :: [(false, .is pb (fnO rb pb)), (false, .is rb (rdO hv rsrc n rc psrc n pc)), (false, soft rsrc (vs.map i8)), (false, soft psrc (rs.map Row.val)), (false, nest rs)]) := H.sel (by repeat (first | exact Sel.nil _ | (apply Sel.cons; focus (repeat (first | exact Split.here _ _ | apply Split.there)))))
  clear H hc
  go_loopw [10] (AtCh m l own last (prsAt vs rs) cb hb f s rev2 asked (fv35 pb) (.slice hsrc hn hc9) lsrc [(false, .is pb (fnO rb pb)), (false, .is rb (rdO hv rsrc n rc psrc n pc)), (false, soft rsrc (vs.map i8)), (false, soft psrc (rs.map Row.val)), (false, nest rs)] S w) (fun i _ => m - (intOf i).toNat)
  case atStart => exact ⟨0, none, none, 0, 0, rfl, Nat.zero_le _, by simp [Hid, PreOk], H0⟩
  case round =>
    clear H0
    obtain ⟨j, akey, rkey, acap, rcap, rfl, hj, hpre, H⟩ := hrel
    by_cases hlt : j < m
    · have hj' : j < l.length := by rw [hll.out]; omega
      have hjm : j < (l.take m).length := by rw [List.length_take]; omega
      have hcat : Hid (l.take (j + 1) = l.take j ++ [l[j]]) := (List.take_append_getElem hj').symm
      have hnext : Hid (∀ last' zs, prsAt vs rs l[j].rev ≠ [] → CkTold own l[j] (prsAt vs rs l[j].rev) last true last' zs → ChTold own (prsAt vs rs) last (l.take m) last' ((l.take (j + 1)).map KH.rev) zs) := by
        intro last' zs h5 h6
        refine .inr ⟨j, hjm, ?_, ?_, ?_, ?_⟩
        · rw [List.take_take, Nat.min_eq_left (by omega)]
          exact hpre.out
        · rw [List.getElem_take]
          exact h5
        · rw [List.getElem_take]
          exact h6
        · rw [List.take_take, Nat.min_eq_left (by omega)]
      obtain ⟨b1, o1, rfl, H1⟩ := H.elemSoft (Split.there _ (Split.there _ (Split.there _ (Split.there _ (Split.here _ _))))) (j * 3) (l[j]).cells (by show 0 < 3; omega) (by rw [kh_flat]; show _ + 3 ≤ _; omega) (fun i hi => flat_at KH.cells 3 l (fun _ _ => rfl) j i hj' hi)
      clear H
      have H := H1
      clear H1
      generalize l[j] = h at *
      obtain ⟨fh, fc, fr⟩ := h
      simp only [KH.cells] at H
      simp only at hnext
      clear hj' hjm
      have hc := H.cells; simp only [CellsOf, KnCells, knc, Nat.reduceAdd] at hc
      repeat' (first | (go_big_may; (first
    | ((first
        | (refine loud_ rfl ?_; refine wpList_plain rfl (fun K hK => ?_); (first | (refine op_box _ _ rfl H (fun b w' H1 => hK _ _ ?_)) | (refine op_alloc _ rfl (zero_of _ _ rfl) H (fun b w' H1 => hK _ _ ?_)) | (refine op_store _ _ _ rfl rfl rfl H (by repeat (first | exact Split.here _ _ | apply Split.there)) (by kernel_rfl) (by kernel_rfl) (by kernel_rfl) (fun w' H1 => hK _ _ ?_)) | (refine op_buildSlice_all _ _ _ rfl (by first | exact elem25 | exact elem32 | exact elem35 | exact elem36 | exact elem37 | exact elem38 | exact elem41 | exact elem42 | exact elem45 | exact elem57 | exact elem62 | exact elem74 | exact elem98 | exact elem100 | exact elem137 | exact elem178 | exact elem179) (by kernel_rfl) (by kernel_rfl) (by kernel_rfl) H (fun b w' H1 => hK _ _ ?_))); clear hK K; replace H := H1; clear H1)); (try clear hc); (try simp only [nrm, splice, Value.cells, Nat.reduceAdd, Act.eval, Act.put] at H); have hc := H.cells; simp only [CellsOf, KnCells, knc, Nat.reduceAdd] at hc))) | go_values | go_skip | go_guarded | go_step | go_upon | go_back | dsimp only)
      (try simp only [Act.put, slt])
      refine wp_region_plan (.p [0, 1, 2] (.q [3] (.p [4] (.q [5] (.e 6 (.p [7] .done)))))) [6] (by kernel_rfl) (by kernel_rfl) (fun _ _ d _ _ h => by cases d <;> exact h) H ?_
      clear H
      (try clear hc)
      intro X nX fX wd hcf hS H
      simp only [CellsOf, KnCells, knc, Nat.reduceAdd] at hcf
      have hc := H.cells
      simp only [CellsOf, KnCells, knc, Nat.reduceAdd] at hc
      iterate 3 (refine plan_p (o := ⟨_, _, _, _, _, _⟩) rfl (fun N hN => ?_); go_big_quiet_step (fail); refine wpQuiet_nil (hN _ ?_); clear hN N)
      refine plan_p0 ?_
      iterate 1 (refine plan_q (o := ⟨_, _, _, _, _, _⟩) rfl (fun N hN => ?_); go_big_quiet_step (fail); refine wpQuiet_nil (hN _ ?_); clear hN N)
      refine plan_q0 ?_
      iterate 1 (refine plan_p (o := ⟨_, _, _, _, _, _⟩) rfl (fun N hN => ?_); go_big_quiet_step (fail); refine wpQuiet_nil (hN _ ?_); clear hN N)
      refine plan_p0 ?_
      iterate 1 (refine plan_q (o := ⟨_, _, _, _, _, _⟩) rfl (fun N hN => ?_); go_big_quiet_step (fail); refine wpQuiet_nil (hN _ ?_); clear hN N)
      refine plan_q0 ?_
      refine plan_e (o := ⟨_, _, _, _, _, _⟩) rfl rfl (fun K hK => ?_)
      (first | (go_step; refine Calls.mono (peer35_calls hb f s rev2 asked own _ _ rkey j rcap (by omega) _ pb rb fr hv vs rs _ _ n rc pc hn1 hn2 hl hk _ _ (H.pick (by repeat (first | exact Picks.nil _ | (apply Picks.wr; focus (repeat (first | exact Split.here _ _ | apply Split.there))) | (apply Picks.rd; focus (repeat (first | exact Split.here _ _ | apply Split.there))))))) ?_; rintro e w' ⟨pkey, pcap, bs, fp, q, rkey2, rcap2, hq, rfl, H'⟩; replace H := H.merge (by first | exact Strikes.nil _ | (repeat (first | exact Strikes.nil _ | (apply Strikes.cons; focus (repeat (first | exact Split.here _ _ | apply Split.there)))))) H' rfl; clear H') | (refine op_box _ _ rfl H (fun b w' H1 => ?_); replace H := H1; clear H1) | (refine op_alloc _ rfl (zero_of _ _ rfl) H (fun b w' H1 => ?_); replace H := H1; clear H1) | (refine op_store _ _ _ rfl rfl rfl H (by repeat (first | exact Split.here _ _ | apply Split.there)) (by kernel_rfl) (by kernel_rfl) (by kernel_rfl) (fun w' H1 => ?_); replace H := H1; clear H1) | (refine op_buildSlice_all _ _ _ rfl (by first | exact elem25 | exact elem32 | exact elem35 | exact elem36 | exact elem37 | exact elem38 | exact elem41 | exact elem42 | exact elem45 | exact elem57 | exact elem62 | exact elem74 | exact elem98 | exact elem100 | exact elem137 | exact elem178 | exact elem179) (by kernel_rfl) (by kernel_rfl) (by kernel_rfl) H (fun b w' H1 => ?_); replace H := H1; clear H1)); (try clear hc); (try simp only [nrm, splice, Value.cells, Nat.reduceAdd, Act.eval, Act.put] at H); have hc := H.cells; simp only [CellsOf, KnCells, knc, Nat.reduceAdd] at hc; refine hK _ _ (fun h => (h (by decide)).elim) ?_; clear hK K; (try simp only [Act.put, slt])
      iterate 1 (refine plan_p (o := ⟨_, _, _, _, _, _⟩) rfl (fun N hN => ?_); go_big_quiet_step (fail); refine wpQuiet_nil (hN _ ?_); clear hN N)
      refine plan_p0 ?_
      refine plan_done ?_
      have hrow : Hid (((l.take (j + 1)).map KH.rev).map i8 = ((l.take j).map KH.rev).map i8 ++ [.int .i64 fr]) := by
        show _ = _
        rw [hcat.out]
        simp
      by_cases hq0 : q = 0
      · subst hq0
        have hP : prsAt vs rs fr = [] := List.eq_nil_of_length_eq_zero hq.out.1.symm
        have hc := H.cells; simp only [CellsOf, KnCells, knc, Nat.reduceAdd] at hc
        repeat' (first | (go_big_may; (first
    | ((first
        | (refine loud_ rfl ?_; refine wpList_plain rfl (fun K hK => ?_); (first | (refine op_box _ _ rfl H (fun b w' H1 => hK _ _ ?_)) | (refine op_alloc _ rfl (zero_of _ _ rfl) H (fun b w' H1 => hK _ _ ?_)) | (refine op_store _ _ _ rfl rfl rfl H (by repeat (first | exact Split.here _ _ | apply Split.there)) (by kernel_rfl) (by kernel_rfl) (by kernel_rfl) (fun w' H1 => hK _ _ ?_)) | (refine op_buildSlice_all _ _ _ rfl (by first | exact elem25 | exact elem32 | exact elem35 | exact elem36 | exact elem37 | exact elem38 | exact elem41 | exact elem42 | exact elem45 | exact elem57 | exact elem62 | exact elem74 | exact elem98 | exact elem100 | exact elem137 | exact elem178 | exact elem179) (by kernel_rfl) (by kernel_rfl) (by kernel_rfl) H (fun b w' H1 => hK _ _ ?_))); clear hK K; replace H := H1; clear H1)); (try clear hc); (try simp only [nrm, splice, Value.cells, Nat.reduceAdd, Act.eval, Act.put] at H); have hc := H.cells; simp only [CellsOf, KnCells, knc, Nat.reduceAdd] at hc))) | go_values | go_skip | go_guarded | go_step | go_upon | go_back | dsimp only)
        refine ⟨⟨j + 1, akey, rkey2, acap, rcap2, by go_num, by omega, ?_, by rw [hrow.out]; exact H.sel (by repeat (first | exact Sel.nil _ | (apply Sel.cons; focus (repeat (first | exact Split.here _ _ | apply Split.there)))))⟩, by simp [intOf]; omega⟩
        intro h hh
        rw [hcat.out] at hh
        rcases List.mem_append.1 hh with hh | hh
        · exact hpre.out h hh
        · simp only [List.mem_singleton] at hh
          subst hh
          exact .inl hP
      · have hP : Hid (prsAt vs rs fr ≠ []) := by
          intro e
          have := hq.out.1
          rw [e] at this
          exact hq0 this
        have hq1 : q ≤ 1000 := hq.out.2
        replace H := H.rowSoft (key := pkey) (by repeat (first | exact Split.here _ _ | apply Split.there))
        (try simp only [List.append, List.cons_append, List.nil_append] at H)
        (try simp only [sl])
        generalize (pkey.map fun b => (⟨b, 0, none⟩ : Addr)) = sp at *
        replace H := H.ro (k := .rep fp (PrsAt bs (prsAt vs rs fr) fp)) (by repeat (first | exact Split.here _ _ | apply Split.there))
        (try simp only [List.append, List.cons_append, List.nil_append] at H)
        have hc := H.cells; simp only [CellsOf, KnCells, knc, Nat.reduceAdd] at hc
        repeat' (first | (go_big_may; (first
    | ((first
        | (refine loud_ rfl ?_; refine wpList_plain rfl (fun K hK => ?_); (first | (refine op_box _ _ rfl H (fun b w' H1 => hK _ _ ?_)) | (refine op_alloc _ rfl (zero_of _ _ rfl) H (fun b w' H1 => hK _ _ ?_)) | (refine op_store _ _ _ rfl rfl rfl H (by repeat (first | exact Split.here _ _ | apply Split.there)) (by kernel_rfl) (by kernel_rfl) (by kernel_rfl) (fun w' H1 => hK _ _ ?_)) | (refine op_buildSlice_all _ _ _ rfl (by first | exact elem25 | exact elem32 | exact elem35 | exact elem36 | exact elem37 | exact elem38 | exact elem41 | exact elem42 | exact elem45 | exact elem57 | exact elem62 | exact elem74 | exact elem98 | exact elem100 | exact elem137 | exact elem178 | exact elem179) (by kernel_rfl) (by kernel_rfl) (by kernel_rfl) H (fun b w' H1 => hK _ _ ?_))); clear hK K; replace H := H1; clear H1)); (try clear hc); (try simp only [nrm, splice, Value.cells, Nat.reduceAdd, Act.eval, Act.put] at H); have hc := H.cells; simp only [CellsOf, KnCells, knc, Nat.reduceAdd] at hc))) | go_values | go_skip | go_guarded | go_step | go_upon | go_back | dsimp only)
        go_at_call 43
        refine Calls.mono (check_calls cb hb last f s ⟨fh, fc, fr⟩ rev2 asked own _ _ _ akey 0 acap [] bs fp (prsAt vs rs fr) _ q _ hq.out.1.symm hq1 (by omega) _ _ (H.pick (by repeat (first | exact Picks.nil _ | (apply Picks.wr; focus (repeat (first | exact Split.here _ _ | apply Split.there))) | (apply Picks.rd; focus (repeat (first | exact Split.here _ _ | apply Split.there))))))) ?_
        rintro e9 w' ⟨r, last', zs, akey2, an2, acap2, ht, han, rfl, H'⟩
        replace H := H.merge (by first | exact Strikes.nil _ | (repeat (first | exact Strikes.nil _ | (apply Strikes.cons; focus (repeat (first | exact Split.here _ _ | apply Split.there)))))) H' rfl
        clear H'
        (try clear hc)
        (try simp only [nrm, splice, Value.cells, Nat.reduceAdd, Act.eval, Act.put] at H); have hc := H.cells; simp only [CellsOf, KnCells, knc, Nat.reduceAdd] at hc
        cases r with
        | false =>
          obtain ⟨rfl, rfl⟩ := told_false ht.out
          have han2 : an2 = 0 := han.out
          subst han2
          have hc := H.cells; simp only [CellsOf, KnCells, knc, Nat.reduceAdd] at hc
          repeat' (first | (go_big_may; (first
    | ((first
        | (refine loud_ rfl ?_; refine wpList_plain rfl (fun K hK => ?_); (first | (refine op_box _ _ rfl H (fun b w' H1 => hK _ _ ?_)) | (refine op_alloc _ rfl (zero_of _ _ rfl) H (fun b w' H1 => hK _ _ ?_)) | (refine op_store _ _ _ rfl rfl rfl H (by repeat (first | exact Split.here _ _ | apply Split.there)) (by kernel_rfl) (by kernel_rfl) (by kernel_rfl) (fun w' H1 => hK _ _ ?_)) | (refine op_buildSlice_all _ _ _ rfl (by first | exact elem25 | exact elem32 | exact elem35 | exact elem36 | exact elem37 | exact elem38 | exact elem41 | exact elem42 | exact elem45 | exact elem57 | exact elem62 | exact elem74 | exact elem98 | exact elem100 | exact elem137 | exact elem178 | exact elem179) (by kernel_rfl) (by kernel_rfl) (by kernel_rfl) H (fun b w' H1 => hK _ _ ?_))); clear hK K; replace H := H1; clear H1)); (try clear hc); (try simp only [nrm, splice, Value.cells, Nat.reduceAdd, Act.eval, Act.put] at H); have hc := H.cells; simp only [CellsOf, KnCells, knc, Nat.reduceAdd] at hc))) | go_values | go_skip | go_guarded | go_step | go_upon | go_back | dsimp only)
          refine ⟨⟨j + 1, akey2, rkey2, acap2, rcap2, by go_num, by omega, ?_, by rw [hrow.out]; exact H.sel (by repeat (first | exact Sel.nil _ | (apply Sel.cons; focus (repeat (first | exact Split.here _ _ | apply Split.there)))))⟩, by simp [intOf]; omega⟩
          intro h hh
          rw [hcat.out] at hh
          rcases List.mem_append.1 hh with hh | hh
          · exact hpre.out h hh
          · simp only [List.mem_singleton] at hh
            subst hh
            exact .inr ht.out
        | true =>
          have hc := H.cells; simp only [CellsOf, KnCells, knc, Nat.reduceAdd] at hc
          repeat' (first | (go_big_may; (first
    | ((first
        | (refine loud_ rfl ?_; refine wpList_plain rfl (fun K hK => ?_); (first | (refine op_box _ _ rfl H (fun b w' H1 => hK _ _ ?_)) | (refine op_alloc _ rfl (zero_of _ _ rfl) H (fun b w' H1 => hK _ _ ?_)) | (refine op_store _ _ _ rfl rfl rfl H (by repeat (first | exact Split.here _ _ | apply Split.there)) (by kernel_rfl) (by kernel_rfl) (by kernel_rfl) (fun w' H1 => hK _ _ ?_)) | (refine op_buildSlice_all _ _ _ rfl (by first | exact elem25 | exact elem32 | exact elem35 | exact elem36 | exact elem37 | exact elem38 | exact elem41 | exact elem42 | exact elem45 | exact elem57 | exact elem62 | exact elem74 | exact elem98 | exact elem100 | exact elem137 | exact elem178 | exact elem179) (by kernel_rfl) (by kernel_rfl) (by kernel_rfl) H (fun b w' H1 => hK _ _ ?_))); clear hK K; replace H := H1; clear H1)); (try clear hc); (try simp only [nrm, splice, Value.cells, Nat.reduceAdd, Act.eval, Act.put] at H); have hc := H.cells; simp only [CellsOf, KnCells, knc, Nat.reduceAdd] at hc))) | go_values | go_skip | go_guarded | go_step | go_upon | go_back | dsimp only)
          (try simp only [Exit.inBlock, Exit.then])
          refine bodyPost_ret_by (results_none rfl _ _ _) rfl ?_
          refine ⟨l, m, last', (l.take (j + 1)).map KH.rev, zs, akey2, rkey2, an2, j + 1, acap2, rcap2, ⟨hun.out, hnext.out _ _ hP.out ht.out, by rw [han.out]; simp, by rw [List.length_map, List.length_take, hll.out]; omega⟩, rfl, ?_⟩
          rw [hrow.out]
          exact H.sel (by repeat (first | exact Sel.nil _ | (apply Sel.cons; focus (repeat (first | exact Split.here _ _ | apply Split.there)))))
    · obtain rfl : j = m := by omega
      have hc := H.cells; simp only [CellsOf, KnCells, knc, Nat.reduceAdd] at hc
      repeat' (first | (go_big_may; (first
    | ((first
        | (refine loud_ rfl ?_; refine wpList_plain rfl (fun K hK => ?_); (first | (refine op_box _ _ rfl H (fun b w' H1 => hK _ _ ?_)) | (refine op_alloc _ rfl (zero_of _ _ rfl) H (fun b w' H1 => hK _ _ ?_)) | (refine op_store _ _ _ rfl rfl rfl H (by repeat (first | exact Split.here _ _ | apply Split.there)) (by kernel_rfl) (by kernel_rfl) (by kernel_rfl) (fun w' H1 => hK _ _ ?_)) | (refine op_buildSlice_all _ _ _ rfl (by first | exact elem25 | exact elem32 | exact elem35 | exact elem36 | exact elem37 | exact elem38 | exact elem41 | exact elem42 | exact elem45 | exact elem57 | exact elem62 | exact elem74 | exact elem98 | exact elem100 | exact elem137 | exact elem178 | exact elem179) (by kernel_rfl) (by kernel_rfl) (by kernel_rfl) H (fun b w' H1 => hK _ _ ?_))); clear hK K; replace H := H1; clear H1)); (try clear hc); (try simp only [nrm, splice, Value.cells, Nat.reduceAdd, Act.eval, Act.put] at H); have hc := H.cells; simp only [CellsOf, KnCells, knc, Nat.reduceAdd] at hc))) | go_values | go_skip | go_guarded | go_step | go_upon | go_back | dsimp only)
      go_end0
      refine ⟨l, j, last, (l.take j).map KH.rev, [], akey, rkey, 0, j, acap, rcap, ⟨hun.out, .inl ⟨hpre.out, rfl, rfl, rfl⟩, rfl, by rw [List.length_map, List.length_take, hll.out]; omega⟩, rfl, H.sel (by repeat (first | exact Sel.nil _ | (apply Sel.cons; focus (repeat (first | exact Split.here _ _ | apply Split.there)))))⟩
end Go.Proofs.Ytelddhcggmfloaa
