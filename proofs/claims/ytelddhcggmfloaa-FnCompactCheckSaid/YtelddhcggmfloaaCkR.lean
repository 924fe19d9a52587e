import Derived.Test.YtelddhcggmfloaaCkO
import Derived.Test.YtelddhcggmfloaaCkQ
-- MORE
-- SUB2
namespace Go.Proofs.Ytelddhcggmfloaa
set_option linter.unusedVariables false
set_option linter.unusedSimpArgs false
set_option linter.unnecessarySimpa false
open Go Go.RowKit Go.V

theorem make35 (pb : Nat) (w : World) : (Instr.makeFunc (.func 35) #[] #[pt pb]).run Try.prog w = .ok (fv35 pb) w := rfl
theorem make23 (rb : Nat) (w : World) : (Instr.makeFunc (.func 23) #[] #[pt rb]).run Try.prog w = .ok (fv23 rb) w := rfl
abbrev zzO (cb hb : Nat) : Obj := .cells #[pt cb, pt hb] 93 (0, 0)
abbrev k0 : KH := ⟨0, 0, 0⟩
def RdTold (own : Int) (hs : List KH) (vs : List Int) (rs : List (Row Pr)) (last last' : Int) (ask zs : List Int) : Prop := ∃ (l : List KH) (m : Nat), UnTold hs l last hs.length m ∧ ChTold own (prsAt vs rs) last (l.take m) last' ask zs
set_option maxRecDepth 8000 in
set_option maxHeartbeats 2000000 in
theorem round_calls (zb cb hb : Nat) (last : Int) (own : Int) (pv hv0 av rvv : Value) (hs : List KH) (hsrc : Option Addr) (hn hc9 : Nat) (rb : Nat) (hv : Value) (vs : List Int) (rs : List (Row Pr)) (rsrc psrc : Option Addr) (n rc pc : Nat)
    (hhn : Hid (hs.length = hn)) (hhl : hn ≤ 19) (hn1 : Hid (vs.length = n)) (hn2 : Hid (rs.length = n)) (hl : n ≤ 1000) (hk : Hid (∀ r ∈ rs, r.list.length ≤ 1000)) (S : List Nat) (w : World)
    (H : St S w w [(true, .is cb (chkO hb last)), (true, .is hb (hasO k0 k0 0 0 own pv hv0 av rvv)), (false, .is zb (zzO cb hb)), (false, .is rb (rdO hv rsrc n rc psrc n pc)), (false, soft rsrc (vs.map i8)), (false, soft psrc (rs.map Row.val)), (false, nest rs), (false, soft hsrc (hs.flatMap KH.cells))]) :
    Calls Try.prog 22 #[pt zb, .slice hsrc hn hc9, fv23 rb] w fun e w' => ∃ (last' : Int) (ask zs : List Int) (akey rkey : Option Nat) (an ar acap rcap : Nat) (pv' hv' av' rv' : Value),
      Hid (RdTold own hs vs rs last last' ask zs ∧ an = zs.length ∧ ar = ask.length) ∧ e = .returned (.tuple #[sl akey an acap, sl rkey ar rcap]) ∧
      St S w w' [(true, .is cb (chkO hb last')), (true, .is hb (hasO k0 k0 0 0 own pv' hv' av' rv')), (true, .row akey 27 1 an acap (zs.map iv)), (true, .row rkey 2 1 ar rcap (ask.map i8))] := by
  have hm := fun pb w => make35 pb w
  have hc := H.cells; simp only [CellsOf, KnCells, knc, Nat.reduceAdd] at hc
  go_enter Try.func22, Try.ntmps22
  repeat' (first | (go_big_may; (first
    | go_skip
    | ((first
        | (go_at_call 36; refine Calls.mono (chash_calls cb hb last k0 k0 0 0 own hs _ hn hc9 _ rb hv vs rs _ _ n rc pc hhn hhl hn1 hn2 hl hk _ _ (H.pick (by repeat (first | exact Picks.nil _ | (apply Picks.wr; focus (repeat (first | exact Split.here _ _ | apply Split.there))) | (apply Picks.rd; focus (repeat (first | exact Split.here _ _ | apply Split.there))))))) ?_; rintro e w' ⟨l, m, last', ask, zs, akey, rkey, an, ar, acap, rcap, ht, rfl, H'⟩; replace H := H.merge (by first | exact Strikes.nil _ | (repeat (first | exact Strikes.nil _ | (apply Strikes.cons; focus (repeat (first | exact Split.here _ _ | apply Split.there)))))) H' rfl; clear H')
        | (refine loud_ rfl ?_; refine wpList_plain rfl (fun K hK => ?_); (first | (refine op_box _ _ rfl H (fun b w' H1 => hK _ _ ?_)) | (refine op_alloc _ rfl (zero_of _ _ rfl) H (fun b w' H1 => hK _ _ ?_)) | (refine op_store _ _ _ rfl rfl rfl H (by repeat (first | exact Split.here _ _ | apply Split.there)) (by kernel_rfl) (by kernel_rfl) (by kernel_rfl) (fun w' H1 => hK _ _ ?_)) | (refine op_buildSlice_all _ _ _ rfl (by first | exact elem25 | exact elem32 | exact elem35 | exact elem36 | exact elem37 | exact elem38 | exact elem41 | exact elem42 | exact elem45 | exact elem57 | exact elem62 | exact elem74 | exact elem98 | exact elem100 | exact elem137 | exact elem178 | exact elem179) (by kernel_rfl) (by kernel_rfl) (by kernel_rfl) H (fun b w' H1 => hK _ _ ?_))); clear hK K; replace H := H1; clear H1)); (try clear hc); (try simp only [nrm, splice, Value.cells, Nat.reduceAdd, Act.eval, Act.put] at H); have hc := H.cells; simp only [CellsOf, KnCells, knc, Nat.reduceAdd] at hc))) | go_values | go_skip | go_guarded | go_step | go_upon | go_back | dsimp only)
  (try simp only [Act.put, slt])
  refine wp_region_plan (.p [0, 1, 2] (.q [3] (.p [4, 5] (.q [6] (.p [7, 8, 9] (.q [10] (.p [11, 12] (.q [13] (.p [14, 15] .done))))))))) [] (by kernel_rfl) (by kernel_rfl) (fun _ _ d _ _ h => by cases d <;> exact h) H ?_
  clear H
  (try clear hc)
  intro X nX fX wd hcf hS H
  simp only [CellsOf, KnCells, knc, Nat.reduceAdd] at hcf
  have hc := H.cells
  simp only [CellsOf, KnCells, knc, Nat.reduceAdd] at hc
  iterate 3 (refine plan_p (o := ⟨_, _, _, _, _, _⟩) rfl (fun N hN => ?_); go_big_quiet_step (fail); refine wpQuiet_nil (hN _ ?_); clear hN N)
  refine plan_p0 ?_
  iterate 1 (refine plan_q (o := ⟨_, _, _, _, _, _⟩) rfl (fun N hN => ?_); go_big_quiet_step (fail); refine wpQuiet_nil (hN _ ?_); clear hN N)
  refine plan_q0 ?_
  iterate 2 (refine plan_p (o := ⟨_, _, _, _, _, _⟩) rfl (fun N hN => ?_); go_big_quiet_step (fail); refine wpQuiet_nil (hN _ ?_); clear hN N)
  refine plan_p0 ?_
  iterate 1 (refine plan_q (o := ⟨_, _, _, _, _, _⟩) rfl (fun N hN => ?_); go_big_quiet_step (fail); refine wpQuiet_nil (hN _ ?_); clear hN N)
  refine plan_q0 ?_
  iterate 3 (refine plan_p (o := ⟨_, _, _, _, _, _⟩) rfl (fun N hN => ?_); go_big_quiet_step (fail); refine wpQuiet_nil (hN _ ?_); clear hN N)
  refine plan_p0 ?_
  iterate 1 (refine plan_q (o := ⟨_, _, _, _, _, _⟩) rfl (fun N hN => ?_); go_big_quiet_step (fail); refine wpQuiet_nil (hN _ ?_); clear hN N)
  refine plan_q0 ?_
  iterate 2 (refine plan_p (o := ⟨_, _, _, _, _, _⟩) rfl (fun N hN => ?_); go_big_quiet_step (fail); refine wpQuiet_nil (hN _ ?_); clear hN N)
  refine plan_p0 ?_
  iterate 1 (refine plan_q (o := ⟨_, _, _, _, _, _⟩) rfl (fun N hN => ?_); go_big_quiet_step (fail); refine wpQuiet_nil (hN _ ?_); clear hN N)
  refine plan_q0 ?_
  iterate 2 (refine plan_p (o := ⟨_, _, _, _, _, _⟩) rfl (fun N hN => ?_); go_big_quiet_step (fail); refine wpQuiet_nil (hN _ ?_); clear hN N)
  refine plan_p0 ?_
  refine plan_done ?_
  repeat' (first | (go_big_may; (first
    | ((first
        | (refine loud_ rfl ?_; refine wpList_plain rfl (fun K hK => ?_); (first | (refine op_box _ _ rfl H (fun b w' H1 => hK _ _ ?_)) | (refine op_alloc _ rfl (zero_of _ _ rfl) H (fun b w' H1 => hK _ _ ?_)) | (refine op_store _ _ _ rfl rfl rfl H (by repeat (first | exact Split.here _ _ | apply Split.there)) (by kernel_rfl) (by kernel_rfl) (by kernel_rfl) (fun w' H1 => hK _ _ ?_)) | (refine op_buildSlice_all _ _ _ rfl (by first | exact elem25 | exact elem32 | exact elem35 | exact elem36 | exact elem37 | exact elem38 | exact elem41 | exact elem42 | exact elem45 | exact elem57 | exact elem62 | exact elem74 | exact elem98 | exact elem100 | exact elem137 | exact elem178 | exact elem179) (by kernel_rfl) (by kernel_rfl) (by kernel_rfl) H (fun b w' H1 => hK _ _ ?_))); clear hK K; replace H := H1; clear H1)); (try clear hc); (try simp only [nrm, splice, Value.cells, Nat.reduceAdd, Act.eval, Act.put] at H); have hc := H.cells; simp only [CellsOf, KnCells, knc, Nat.reduceAdd] at hc))) | go_values | go_skip | go_guarded | go_step | go_upon | go_back | dsimp only)
  go_ret2
  exact ⟨last', ask, zs, akey, rkey, an, ar, acap, rcap, _, _, _, _, ⟨⟨l, m, by rw [hhn.out]; exact ht.out.1, ht.out.2.1⟩, ht.out.2.2.1, ht.out.2.2.2⟩, rfl, H.sel (by repeat (first | exact Sel.nil _ | (apply Sel.cons; focus (repeat (first | exact Split.here _ _ | apply Split.there)))))⟩
set_option maxRecDepth 8000 in
theorem newChecker_calls (own : Int) (w : World) :
    Calls Try.prog 21 #[.int .u64 own] w fun e w' => ∃ zb cb hb, e = .returned (pt zb) ∧
      St [] w w' [(true, .is zb (zzO cb hb)), (true, .is cb (chkO hb 0)), (true, .is hb (hasO k0 k0 0 0 own .nilFunc (.slice none 0 0) (.slice none 0 0) (.slice none 0 0)))] := by
  have H := St.init [] w
  go_enter Try.func21, Try.ntmps21
  repeat' (first | (go_big_may; (first
    | ((first
        | (refine loud_ rfl ?_; refine wpList_plain rfl (fun K hK => ?_); (first | (refine op_box _ _ rfl H (fun b w' H1 => hK _ _ ?_)) | (refine op_alloc _ rfl (zero_of _ _ rfl) H (fun b w' H1 => hK _ _ ?_)) | (refine op_store _ _ _ rfl rfl rfl H (by repeat (first | exact Split.here _ _ | apply Split.there)) (by kernel_rfl) (by kernel_rfl) (by kernel_rfl) (fun w' H1 => hK _ _ ?_)) | (refine op_buildSlice_all _ _ _ rfl (by first | exact elem25 | exact elem32 | exact elem35 | exact elem36 | exact elem37 | exact elem38 | exact elem41 | exact elem42 | exact elem45 | exact elem57 | exact elem62 | exact elem74 | exact elem98 | exact elem100 | exact elem137 | exact elem178 | exact elem179) (by kernel_rfl) (by kernel_rfl) (by kernel_rfl) H (fun b w' H1 => hK _ _ ?_))); clear hK K; replace H := H1; clear H1)); (try clear hc); (try simp only [nrm, splice, Value.cells, Nat.reduceAdd, Act.eval, Act.put] at H); have hc := H.cells; simp only [CellsOf, KnCells, knc, Nat.reduceAdd] at hc))) | go_values | go_skip | go_guarded | go_step | go_upon | go_back | dsimp only)
  go_ret
  exact ⟨_, _, _, rfl, H.sel (by repeat (first | exact Sel.nil _ | (apply Sel.cons; focus (repeat (first | exact Split.here _ _ | apply Split.there)))))⟩
/-- The accused are few. -/
theorem gput_len (g : GS) (h i : Int) : ((gput g h i).flatMap (·.2)).length = (g.flatMap (·.2)).length + 1 := by
  induction g with
  | nil => rfl
  | cons x r ih =>
    unfold gput
    by_cases hx : x.1 = h
    · rw [if_pos hx]
      simp only [List.flatMap_cons, List.length_append, List.length_cons, List.length_nil]
      omega
    · rw [if_neg hx]
      simp only [List.flatMap_cons, List.length_append, ih]
      omega
theorem grps_len (prs : List (Int × Int)) : ((grps prs).flatMap (·.2)).length = prs.length := by
  have : ∀ (l : List (Int × Int)) (g : GS), ((l.foldl (fun g p => gput g p.1 p.2) g).flatMap (·.2)).length = (g.flatMap (·.2)).length + l.length := by
    intro l
    induction l with
    | nil => intro g; rfl
    | cons p l ih =>
      intro g
      rw [List.foldl_cons, ih, gput_len, List.length_cons]
      omega
  have h := this prs []
  simpa [grps] using h
theorem filt_len (g : GS) (x : Int × List Int) (hx : x ∈ g) : ((g.filter fun y => decide (y.1 ≠ x.1)).flatMap (·.2)).length + x.2.length ≤ (g.flatMap (·.2)).length := by
  induction g with
  | nil => cases hx
  | cons y r ih =>
    rcases List.mem_cons.1 hx with rfl | hx
    · have h1 : ((r.filter fun y => decide (y.1 ≠ x.1)).flatMap (·.2)).length ≤ (r.flatMap (·.2)).length := by
        clear ih hx
        induction r with
        | nil => simp
        | cons z r ih =>
          rw [List.filter_cons]
          split
          · simp only [List.flatMap_cons, List.length_append]; omega
          · simp only [List.flatMap_cons, List.length_append]; omega
      rw [List.filter_cons, if_neg (by simp)]
      simp only [List.flatMap_cons, List.length_append]
      omega
    · have := ih hx
      rw [List.filter_cons]
      split
      · simp only [List.flatMap_cons, List.length_append]; omega
      · simp only [List.flatMap_cons, List.length_append]; omega
theorem prs_len (own : Int) (h : KH) (ps : List Pr) : (prs own h ps).length ≤ ps.length + 1 := by
  unfold prs
  rw [List.length_cons, List.length_map]
  have := List.length_filter_le (selP h) ps
  omega
theorem told_len {own : Int} {h : KH} {ps : List Pr} {last last' : Int} {r : Bool} {zs : List Int} (ht : CkTold own h ps last r last' zs) (hp : ps.length ≤ 12) : zs.length ≤ 12 := by
  rcases ht with ⟨_, h2, _, _⟩ | ⟨_, _, _, ⟨x, hx, hq, hz⟩ | ⟨_, hz⟩⟩
  · subst h2; simp
  · have h1 := filt_len _ x hx
    rw [grps_len, ← hz.length_eq] at h1
    have h2 := prs_len own h ps
    omega
  · subst hz; simp
theorem prsAt_len : ∀ (vs : List Int) (rs : List (Row Pr)) (_ : ∀ r ∈ rs, r.list.length ≤ 12) (x : Int), (prsAt vs rs x).length ≤ 12
  | [], _, _, _ => by simp [prsAt]
  | _ :: _, [], _, _ => by simp [prsAt]
  | v :: vs, r :: rs, hk, x => by
    unfold prsAt
    split
    · exact hk r List.mem_cons_self
    · exact prsAt_len vs rs (fun r hr => hk r (List.mem_cons_of_mem _ hr)) x
theorem rd_len {own : Int} {hs : List KH} {vs : List Int} {rs : List (Row Pr)} {last last' : Int} {ask zs : List Int} (ht : RdTold own hs vs rs last last' ask zs) (hk : ∀ r ∈ rs, r.list.length ≤ 12) : zs.length ≤ 12 := by
  obtain ⟨l, m, _, ⟨_, _, _, hz⟩ | ⟨j, hj, _, _, hc, _⟩⟩ := ht
  · subst hz; simp
  · exact told_len hc (prsAt_len _ _ hk _)
end Go.Proofs.Ytelddhcggmfloaa
