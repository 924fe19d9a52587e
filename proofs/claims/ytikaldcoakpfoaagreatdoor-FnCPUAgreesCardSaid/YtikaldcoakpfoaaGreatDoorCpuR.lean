import Derived.Test.YtikaldcoakpfoaaGreatDoorCpuQ
-- MORE
-- SUB2
namespace Go.Proofs.YtikaldcoakpfoaaGreatDoor
set_option linter.unusedVariables false
set_option linter.unusedSimpArgs false
set_option linter.unnecessarySimpa false
open Go Go.RowKit Go.V Go.Lib

theorem _root_.Go.V.St.objRow {S : List Nat} {w0 w : World} {L A B : List Ent} {b : Nat} {T : TypeId} {cs : Array Value} (n size : Nat) (H : St S w0 w L) (hs : Split L (true, .is b (.cells cs T (0, 0))) A B) (hsz : cs.size = n * size) (hn : n ≤ maxLen) : St S w0 w (A ++ (true, .row (some b) T size n n cs.toList) :: B) :=
  H.turn hs (Ext.refl _ _) ⟨cs, H.obj hs, hsz, Nat.le_refl _, hn, by rw [← hsz, ← Array.length_toList, List.take_length]⟩ rfl
set_option maxHeartbeats 400000 in
set_option maxRecDepth 8000 in
theorem size_calls (m clock : Nat) (es : Array MapEntry) (w : World) (H : St [] w w [(false, .is m (.map es clock))]) :
    Calls Tryz.prog 66 #[setV m] w fun e w' => e = .returned (.int .i64 es.size) ∧ Ext [] w w' := by
  go_enter Tryz.func66, Tryz.ntmps66
  repeat' (first | (go_big_may; (first
    | go_skip
    | (refine wpList_plain rfl (fun K hK => ?_); refine op_lenMap _ _ _ _ rfl Tryz.underlying40 rfl (H.obj (b := m) (by repeat (first | exact Split.here _ _ | apply Split.there))) (hK _ _ ?_); clear hK K)
    | ((first
        | (refine loud_ rfl ?_; refine wpList_plain rfl (fun K hK => ?_); (first | (refine op_box _ _ rfl H (fun b w' H1 => hK _ _ ?_)) | (refine op_alloc _ rfl (zero_of _ _ rfl) H (fun b w' H1 => hK _ _ ?_)) | (refine op_store _ _ _ rfl rfl rfl H (by repeat (first | exact Split.here _ _ | apply Split.there)) (by kernel_rfl) (by kernel_rfl) (by kernel_rfl) (fun w' H1 => hK _ _ ?_)) | (refine op_buildSlice_all _ _ _ rfl (by first | exact elem22 | exact elem60 | exact elem66 | exact elem72 | exact elem74) (by kernel_rfl) (by kernel_rfl) (by kernel_rfl) H (fun b w' H1 => hK _ _ ?_))); clear hK K; replace H := H1; clear H1)); (try clear hc); (try simp only [nrm, splice, Value.cells, Nat.reduceAdd, Act.eval, Act.put] at H); have hc := H.cells; simp only [CellsOf, KnCells, knc, Nat.reduceAdd] at hc))) | go_values | go_skip | go_guarded | go_step | go_upon | go_back | dsimp only)
  go_ret
  exact ⟨rfl, H.ext⟩
set_option maxHeartbeats 400000 in
set_option maxRecDepth 8000 in
theorem isEmpty_calls (m clock : Nat) (es : Array MapEntry) (b : Bool) (hb : Hid (((es.size : Int) == 0) = b)) (w : World) (H : St [] w w [(false, .is m (.map es clock))]) :
    Calls Tryz.prog 55 #[setV m] w fun e w' => e = .returned (.bool b) ∧ Ext [] w w' := by
  go_enter Tryz.func55, Tryz.ntmps55
  repeat' (first | (go_big_may; (first
    | go_skip
    | ((first
        | (go_at_call 66; refine Calls.mono (size_calls m clock es _ (H.pick (by repeat (first | exact Picks.nil _ | (apply Picks.wr; focus (repeat (first | exact Split.here _ _ | apply Split.there))) | (apply Picks.rd; focus (repeat (first | exact Split.here _ _ | apply Split.there))))))) ?_; rintro e w' ⟨rfl, H'⟩; replace H := H.of_ext H'; clear H')
        | (refine loud_ rfl ?_; refine wpList_plain rfl (fun K hK => ?_); (first | (refine op_box _ _ rfl H (fun b w' H1 => hK _ _ ?_)) | (refine op_alloc _ rfl (zero_of _ _ rfl) H (fun b w' H1 => hK _ _ ?_)) | (refine op_store _ _ _ rfl rfl rfl H (by repeat (first | exact Split.here _ _ | apply Split.there)) (by kernel_rfl) (by kernel_rfl) (by kernel_rfl) (fun w' H1 => hK _ _ ?_)) | (refine op_buildSlice_all _ _ _ rfl (by first | exact elem22 | exact elem60 | exact elem66 | exact elem72 | exact elem74) (by kernel_rfl) (by kernel_rfl) (by kernel_rfl) H (fun b w' H1 => hK _ _ ?_))); clear hK K; replace H := H1; clear H1)); (try clear hc); (try simp only [nrm, splice, Value.cells, Nat.reduceAdd, Act.eval, Act.put] at H); have hc := H.cells; simp only [CellsOf, KnCells, knc, Nat.reduceAdd] at hc))) | go_values | go_skip | go_guarded | go_step | go_upon | go_back | dsimp only)
  go_ret
  exact ⟨by rw [← hb.out]; rfl, H.ext⟩
abbrev pc (p : Int × Int) : List Value := [ki p.1, ki p.2]
def flat2 (rs : List (Int × Int)) : List Value := rs.flatMap pc
theorem flat2_len (rs : List (Int × Int)) : (flat2 rs).length = rs.length * 2 := by
  induction rs with
  | nil => rfl
  | cons p rs ih =>
    unfold flat2 at ih ⊢
    rw [List.flatMap_cons, List.length_append, ih]
    simp only [List.length_cons, List.length_nil]
    omega
theorem flat2_app (a b : List (Int × Int)) : flat2 (a ++ b) = flat2 a ++ flat2 b := by simp [flat2]
theorem flat2_last (done : List (Int × Int)) (s e : Int) (k : Nat) (hk : k = done.length) : (flat2 (done ++ [(s, e)]))[k * 2 + 1]? = some (ki e) ∧ ∀ x : Int, (flat2 (done ++ [(s, e)])).take (k * 2 + 1) ++ [ki x] ++ (flat2 (done ++ [(s, e)])).drop (k * 2 + 1 + 1) = flat2 (done ++ [(s, x)]) := by
  have h1 : ∀ x, flat2 (done ++ [(s, x)]) = flat2 done ++ [ki s, ki x] := fun x => by rw [flat2_app]; rfl
  have h2 := flat2_len done
  have h3 : k * 2 = (flat2 done).length := by rw [h2, hk]
  refine ⟨?_, fun x => ?_⟩
  · rw [h1, h3, List.getElem?_append_right (by omega)]
    simp
  · rw [h1, h1, h3, List.take_append, List.drop_append]
    rw [List.take_of_length_le (by omega), List.drop_of_length_le (by omega)]
    have e1 : (flat2 done).length + 1 - (flat2 done).length = 1 := by omega
    have e2 : (flat2 done).length + 1 + 1 - (flat2 done).length = 2 := by omega
    rw [e1, e2]
    simp
theorem flat2_at {rs : List (Int × Int)} {q : Nat} (h : q < rs.length) (i : Nat) (hi : i < 2) : (flat2 rs)[q * 2 + i]? = (pc rs[q])[i]? := by
  have h1 : rs = rs.take q ++ rs[q] :: rs.drop (q + 1) := by rw [← List.drop_eq_getElem_cons h, List.take_append_drop]
  have h2 : flat2 rs = flat2 (rs.take q) ++ (pc rs[q] ++ flat2 (rs.drop (q + 1))) := by
    conv => lhs; rw [h1, flat2_app]
    rfl
  have h3 : (flat2 (rs.take q)).length = q * 2 := by rw [flat2_len, List.length_take]; omega
  rw [h2, List.getElem?_append_right (by omega), h3, Nat.add_sub_cancel_left, List.getElem?_append_left (by show i < 2; exact hi)]
theorem body_take {ps : List (List UInt8)} {q : Nat} (h : q < ps.length) : bodyP (ps.take (q + 1)) = bodyP (ps.take q) ++ ps[q] ++ [44] := by
  unfold bodyP
  rw [← List.take_append_getElem h, List.flatMap_append]
  simp
theorem body_le (ps : List (List UInt8)) (q : Nat) : (bodyP (ps.take q)).length ≤ (bodyP ps).length := by
  have : bodyP ps = bodyP (ps.take q) ++ bodyP (ps.drop q) := by
    conv => lhs; rw [← List.take_append_drop q ps]
    unfold bodyP
    rw [List.flatMap_append]
  rw [this, List.length_append]
  omega
theorem join_last : ∀ (ps : List (List UInt8)), (∀ p ∈ ps, p ≠ [] ∧ (44 : UInt8) ∉ p) → ∀ h, (joinc ps).getLast h ≠ 44
  | [], _, h => absurd rfl h
  | [p], hp, h => fun e => (hp p (by simp)).2 (by rw [← e]; exact List.getLast_mem h)
  | p :: q :: r, hp, h => by
    have hn := joinc_ne (q :: r) (by simp) (fun x hx => (hp x (by simp at hx ⊢; right; exact hx)).1)
    have := join_last (q :: r) (fun x hx => hp x (by simp at hx ⊢; right; exact hx)) hn
    have e1 : (joinc (p :: q :: r)).getLast h = (joinc (q :: r)).getLast hn :=
      (List.getLast_append_of_ne_nil (List.append_ne_nil_of_right_ne_nil p (List.cons_ne_nil 44 (joinc (q :: r)))) (List.cons_ne_nil 44 (joinc (q :: r)))).trans (List.getLast_cons hn)
    rw [e1]
    exact this
theorem one_ki (k : Int) : ∀ u ∈ (Value.int .i64 k).cells.toList, u.oneCell' = true := by
  intro u hu
  simp [Value.cells] at hu
  subst hu
  rfl
def AtRun (w : World) (src : Option Addr) (l : List Int) (v i : Value) (wr : World) : Prop := ∃ (j k cap kb : Nat) (done : List (Int × Int)) (s e : Int) (vs : List Value), v = .slice (some ⟨kb, 0, none⟩) (k + 1) cap ∧ i = .int .i64 j ∧ 1 ≤ j ∧ j ≤ l.length ∧ k + 1 ≤ j ∧ 0 ≤ e ∧ e ≤ 1099511627776 ∧ Hid (k = done.length ∧ vs = flat2 (done ++ [(s, e)]) ∧ runs l = done ++ runsFrom s e (l.drop j)) ∧
  St [] w wr [(true, .row (some kb) 71 2 (k + 1) cap vs), (false, soft src (intsN l))]
set_option maxHeartbeats 2000000 in
set_option maxRecDepth 8000 in
theorem string_calls (m clock : Nat) (es : Array MapEntry) (l0 l : List Int) (hl0 : Hid (SetI es clock l0 ∧ sortI l0 = l)) (hln : l.length ≤ 50000) (hb : ∀ y ∈ l, 0 ≤ y ∧ y ≤ 1099511627776) (w : World) (ht : TabAt w) (H : St [] w w [(false, .is m (.map es clock))]) :
    Calls Tryz.prog 37 #[setV m] w fun e w' => e = .returned (.string (bs (text l))) ∧ Ext [] w w' := by
  have hset := Lib.hid hl0.out.1
  have hlen : l0.length = l.length := by rw [← hl0.out.2, sortI_len]
  have hes : es.size = l.length := by rw [setM_size hset.out, hlen]
  have ht' := Lib.hid ht
  have hb' := Lib.hid hb
  clear ht hb
  by_cases h0 : l = []
  · have hz : Hid (((es.size : Int) == 0) = true) := by show _ = _; rw [hes, h0]; rfl
    have hfin : Hid (bs (text l) = { data := #[] }) := by show _ = _; rw [h0]; rfl
    rw [hfin.out]
    clear hes
    go_enter Tryz.func37, Tryz.ntmps37
    repeat' (first | (go_big_may; (first
    | go_skip
    | ((first
        | (go_at_call 55; refine Calls.mono (isEmpty_calls m clock es true hz _ (H.pick (by repeat (first | exact Picks.nil _ | (apply Picks.wr; focus (repeat (first | exact Split.here _ _ | apply Split.there))) | (apply Picks.rd; focus (repeat (first | exact Split.here _ _ | apply Split.there))))))) ?_; rintro e w' ⟨rfl, H'⟩; replace H := H.of_ext H'; clear H')
        | (refine loud_ rfl ?_; refine wpList_plain rfl (fun K hK => ?_); (first | (refine op_box _ _ rfl H (fun b w' H1 => hK _ _ ?_)) | (refine op_alloc _ rfl (zero_of _ _ rfl) H (fun b w' H1 => hK _ _ ?_)) | (refine op_store _ _ _ rfl rfl rfl H (by repeat (first | exact Split.here _ _ | apply Split.there)) (by kernel_rfl) (by kernel_rfl) (by kernel_rfl) (fun w' H1 => hK _ _ ?_)) | (refine op_buildSlice_all _ _ _ rfl (by first | exact elem22 | exact elem60 | exact elem66 | exact elem72 | exact elem74) (by kernel_rfl) (by kernel_rfl) (by kernel_rfl) H (fun b w' H1 => hK _ _ ?_))); clear hK K; replace H := H1; clear H1)); (try clear hc); (try simp only [nrm, splice, Value.cells, Nat.reduceAdd, Act.eval, Act.put] at H); have hc := H.cells; simp only [CellsOf, KnCells, knc, Nat.reduceAdd] at hc))) | go_values | go_skip | go_guarded | go_step | go_upon | go_back | dsimp only)
    go_ret
    exact ⟨rfl, H.ext⟩
  · have hpos : 0 < l.length := List.length_pos_iff.2 h0
    have hz : Hid (((es.size : Int) == 0) = false) := by show _ = _; rw [hes]; simp; omega
    clear hes
    obtain ⟨n, hn⟩ : ∃ n, Hid (n = l.length) := ⟨_, rfl⟩
    have hn0 : 0 < n := by rw [hn.out]; exact hpos
    have hn5 : n ≤ 50000 := by rw [hn.out]; exact hln
    obtain ⟨x0, hx0⟩ : ∃ x, Hid ((intsN l)[0]? = some (ki x) ∧ 0 ≤ x ∧ x ≤ 1099511627776 ∧ runs l = runsFrom x x (l.drop 1)) := by
      cases l with
      | nil => exact absurd rfl h0
      | cons x r =>
        have := hb'.out x (by simp)
        exact ⟨x, rfl, this.1, this.2, rfl⟩
    go_enter Tryz.func37, Tryz.ntmps37
    repeat' (first | (go_big_may; (first
    | go_skip
    | ((first
        | (go_at_call 55; refine Calls.mono (isEmpty_calls m clock es false hz _ (H.pick (by repeat (first | exact Picks.nil _ | (apply Picks.wr; focus (repeat (first | exact Split.here _ _ | apply Split.there))) | (apply Picks.rd; focus (repeat (first | exact Split.here _ _ | apply Split.there))))))) ?_; rintro e w' ⟨rfl, H'⟩; replace H := H.of_ext H'; clear H')
        | (go_at_call 29; refine Calls.mono (setList_calls m clock es l0 hset (by omega) _ (H.pick (by repeat (first | exact Picks.nil _ | (apply Picks.wr; focus (repeat (first | exact Split.here _ _ | apply Split.there))) | (apply Picks.rd; focus (repeat (first | exact Split.here _ _ | apply Split.there))))))) ?_; rintro e w' ⟨key, n9, cap, hn9, rfl, H'⟩; replace H := H.merge (by first | exact Strikes.nil _ | (repeat (first | exact Strikes.nil _ | (apply Strikes.cons; focus (repeat (first | exact Split.here _ _ | apply Split.there)))))) H' rfl; clear H')
        | (refine loud_ rfl ?_; refine wpList_plain rfl (fun K hK => ?_); (first | (refine op_box _ _ rfl H (fun b w' H1 => hK _ _ ?_)) | (refine op_alloc _ rfl (zero_of _ _ rfl) H (fun b w' H1 => hK _ _ ?_)) | (refine op_store _ _ _ rfl rfl rfl H (by repeat (first | exact Split.here _ _ | apply Split.there)) (by kernel_rfl) (by kernel_rfl) (by kernel_rfl) (fun w' H1 => hK _ _ ?_)) | (refine op_buildSlice_all _ _ _ rfl (by first | exact elem22 | exact elem60 | exact elem66 | exact elem72 | exact elem74) (by kernel_rfl) (by kernel_rfl) (by kernel_rfl) H (fun b w' H1 => hK _ _ ?_))); clear hK K; replace H := H1; clear H1)); (try clear hc); (try simp only [nrm, splice, Value.cells, Nat.reduceAdd, Act.eval, Act.put] at H); have hc := H.cells; simp only [CellsOf, KnCells, knc, Nat.reduceAdd] at hc))) | go_values | go_skip | go_guarded | go_step | go_upon | go_back | dsimp only)
    rw [hl0.out.2] at H
    obtain rfl : n = n9 := by rw [hn9.out, hlen, hn.out]
    replace H := H.rowSoft (key := key) (by repeat (first | exact Split.here _ _ | apply Split.there))
    (try simp only [List.append] at H)
    have H0 := H.sel (L' := [(false, soft (key.map fun b => ⟨b, 0, none⟩) (intsN l))]) (by repeat (first | exact Sel.nil _ | (apply Sel.cons; focus (repeat (first | exact Split.here _ _ | apply Split.there)))))
    clear H hc
    simp only [sl]
    generalize (key.map fun b => (⟨b, 0, none⟩ : Addr)) = src at *
    obtain ⟨b1, o1, rfl, H⟩ := H0.elemSoft (Split.here _ _) 0 [ki x0] (by show 0 < 1; omega) (by rw [intsN_len]; show 0 + 1 ≤ _; omega) (by intro i hi; obtain rfl : i = 0 := (by simpa using hi); exact hx0.out.1)
    clear H0
    have hc := H.cells; simp only [CellsOf, KnCells, knc, Nat.reduceAdd] at hc
    (try simp only [Act.put, slt])
    refine wp_region_plan (.p [0, 1] (.q [2] (.p [3, 4] (.q [5] (.p [6] (.e 7 (.p [8] .done))))))) [7] (by kernel_rfl) (by kernel_rfl) (fun _ _ d _ _ h => by cases d <;> exact h) H ?_
    clear H
    (try clear hc)
    intro X nX fX wd hcf hS H
    simp only [CellsOf, KnCells, knc, Nat.reduceAdd] at hcf
    have hc := H.cells
    simp only [CellsOf, KnCells, knc, Nat.reduceAdd] at hc
    iterate 2 (refine plan_p (o := ⟨_, _, _, _, _, _⟩) rfl (fun N hN => ?_); go_big_quiet_step (fail); refine wpQuiet_nil (hN _ ?_); clear hN N)
    refine plan_p0 ?_
    iterate 1 (refine plan_q (o := ⟨_, _, _, _, _, _⟩) rfl (fun N hN => ?_); go_big_quiet_step (fail); refine wpQuiet_nil (hN _ ?_); clear hN N)
    refine plan_q0 ?_
    iterate 2 (refine plan_p (o := ⟨_, _, _, _, _, _⟩) rfl (fun N hN => ?_); go_big_quiet_step (fail); refine wpQuiet_nil (hN _ ?_); clear hN N)
    refine plan_p0 ?_
    iterate 1 (refine plan_q (o := ⟨_, _, _, _, _, _⟩) rfl (fun N hN => ?_); go_big_quiet_step (fail); refine wpQuiet_nil (hN _ ?_); clear hN N)
    refine plan_q0 ?_
    iterate 1 (refine plan_p (o := ⟨_, _, _, _, _, _⟩) rfl (fun N hN => ?_); go_big_quiet_step (fail); refine wpQuiet_nil (hN _ ?_); clear hN N)
    refine plan_p0 ?_
    refine plan_e (o := ⟨_, _, _, _, _, _⟩) rfl rfl (fun K hK => ?_)
    (first | (refine op_box _ _ rfl H (fun b w' H1 => ?_); replace H := H1; clear H1) | (refine op_alloc _ rfl (zero_of _ _ rfl) H (fun b w' H1 => ?_); replace H := H1; clear H1) | (refine op_store _ _ _ rfl rfl rfl H (by repeat (first | exact Split.here _ _ | apply Split.there)) (by kernel_rfl) (by kernel_rfl) (by kernel_rfl) (fun w' H1 => ?_); replace H := H1; clear H1) | (refine op_buildSlice_all _ _ _ rfl (by first | exact elem22 | exact elem60 | exact elem66 | exact elem72 | exact elem74) (by kernel_rfl) (by kernel_rfl) (by kernel_rfl) H (fun b w' H1 => ?_); replace H := H1; clear H1)); (try clear hc); (try simp only [nrm, splice, Value.cells, Nat.reduceAdd, Act.eval, Act.put] at H); have hc := H.cells; simp only [CellsOf, KnCells, knc, Nat.reduceAdd] at hc; refine hK _ _ (fun h => (h (by decide)).elim) ?_; clear hK K; (try simp only [Act.put, slt])
    iterate 1 (refine plan_p (o := ⟨_, _, _, _, _, _⟩) rfl (fun N hN => ?_); go_big_quiet_step (fail); refine wpQuiet_nil (hN _ ?_); clear hN N)
    refine plan_p0 ?_
    refine plan_done ?_
    repeat' (first | (go_big_may; (first
    | ((first
        | (refine loud_ rfl ?_; refine wpList_plain rfl (fun K hK => ?_); (first | (refine op_box _ _ rfl H (fun b w' H1 => hK _ _ ?_)) | (refine op_alloc _ rfl (zero_of _ _ rfl) H (fun b w' H1 => hK _ _ ?_)) | (refine op_store _ _ _ rfl rfl rfl H (by repeat (first | exact Split.here _ _ | apply Split.there)) (by kernel_rfl) (by kernel_rfl) (by kernel_rfl) (fun w' H1 => hK _ _ ?_)) | (refine op_buildSlice_all _ _ _ rfl (by first | exact elem22 | exact elem60 | exact elem66 | exact elem72 | exact elem74) (by kernel_rfl) (by kernel_rfl) (by kernel_rfl) H (fun b w' H1 => hK _ _ ?_))); clear hK K; replace H := H1; clear H1)); (try clear hc); (try simp only [nrm, splice, Value.cells, Nat.reduceAdd, Act.eval, Act.put] at H); have hc := H.cells; simp only [CellsOf, KnCells, knc, Nat.reduceAdd] at hc))) | go_values | go_skip | go_guarded | go_step | go_upon | go_back | dsimp only)
    obtain ⟨kb, rfl⟩ : ∃ q, q = b := ⟨_, rfl⟩
    replace H := H.objRow (b := kb) 1 2 (by repeat (first | exact Split.here _ _ | apply Split.there)) rfl (by unfold maxLen; omega)
    (try simp only [List.append, List.nil_append, List.cons_append] at H)
    have hst : AtRun w (some ⟨b1, o1, none⟩) l (.slice (some ⟨kb, 0, none⟩) 1 1) (.int .i64 1) w' := ⟨1, 0, 1, kb, [], x0, x0, [ki x0, ki x0], rfl, rfl, Nat.le_refl _, by omega, Nat.le_refl _, hx0.out.2.1, hx0.out.2.2.1, ⟨rfl, rfl, hx0.out.2.2.2⟩, H.sel (by repeat (first | exact Sel.nil _ | (apply Sel.cons; focus (repeat (first | exact Split.here _ _ | apply Split.there)))))⟩
    clear H hc
    go_loopw [4, 5] (AtRun w (some ⟨b1, o1, none⟩) l) (fun _ i _ => n - (intOf i).toNat)
    case atStart => exact hst
    case round =>
      clear hst
      obtain ⟨j, k, cap1, kb, done, s, e, vs, rfl, rfl, hj1, hj, hkj, he0, he1, hf, H⟩ := hrel
      rw [← hn.out] at hj
      by_cases hlt : j < n
      · have hlt' : j < l.length := by rw [← hn.out]; exact hlt
        obtain ⟨_, _, he, H1⟩ := H.elemSoft (Split.there _ (Split.here _ _)) j [ki l[j]] (by show 0 < 1; omega) (by rw [intsN_len]; show j + 1 ≤ _; omega) (by intro i hi; obtain rfl : i = 0 := (by simpa using hi); simp [intsN, hlt'])
        cases he
        replace H := H1.sel (L' := [(true, .row (some kb) 71 2 (k + 1) cap1 vs), (false, .arr (some ⟨b1, o1 + j, none⟩) [ki l[j]]), (false, soft (some ⟨b1, o1, none⟩) (intsN l))]) (by repeat (first | exact Sel.nil _ | (apply Sel.cons; focus (repeat (first | exact Split.here _ _ | apply Split.there)))))
        clear H1
        have hdrop : l.drop j = l[j] :: l.drop (j + 1) := List.drop_eq_getElem_cons hlt'
        have hxb := hb'.out l[j] (List.getElem_mem _)
        rw [hdrop] at hf
        clear hdrop
        generalize l[j] = x at *
        have hlast := Lib.hid (flat2_last done s e k hf.out.1)
        have hv1 : vs[k * 2 + 1]? = some (ki e) := by
          rw [hf.out.2.1]
          exact hlast.out.1
        have hlt9 : k * 2 + 1 < (k + 1) * 2 := by omega
        have hcj : decide ((j : Int) < (n : Int)) = true := by simp; omega
        have hsub : ((k : Int) + 1) - 1 = (k : Int) := by omega
        have hk5 : k + 1 ≤ 50000 := by omega
        by_cases hxe : x = e + 1
        · have hce : (x == e + 1) = true := by simpa using hxe
          have hfx : Hid (runs l = done ++ runsFrom s x (l.drop (j + 1))) := by
            show _ = _
            rw [hf.out.2.2]
            conv => lhs; unfold runsFrom
            rw [if_pos hxe]
          have hvx : Hid (vs.take (k * 2 + 1) ++ [ki x] ++ vs.drop (k * 2 + 1 + 1) = flat2 (done ++ [(s, x)])) := by
            show _ = _
            rw [hf.out.2.1]
            exact hlast.out.2 x
          clear hlast
          subst hxe
          have hc := H.cells; simp only [CellsOf, KnCells, knc, Nat.reduceAdd] at hc
          repeat' (first | (go_big_may; (first
    | ((first
        | (refine loud_ rfl ?_; refine wpList_plain rfl (fun K hK => ?_); (first | (refine op_box _ _ rfl H (fun b w' H1 => hK _ _ ?_)) | (refine op_alloc _ rfl (zero_of _ _ rfl) H (fun b w' H1 => hK _ _ ?_)) | (refine op_store _ _ _ rfl rfl rfl H (by repeat (first | exact Split.here _ _ | apply Split.there)) (by kernel_rfl) (by kernel_rfl) (by kernel_rfl) (fun w' H1 => hK _ _ ?_)) | (refine op_buildSlice_all _ _ _ rfl (by first | exact elem22 | exact elem60 | exact elem66 | exact elem72 | exact elem74) (by kernel_rfl) (by kernel_rfl) (by kernel_rfl) H (fun b w' H1 => hK _ _ ?_))); clear hK K; replace H := H1; clear H1)); (try clear hc); (try simp only [nrm, splice, Value.cells, Nat.reduceAdd, Act.eval, Act.put] at H); have hc := H.cells; simp only [CellsOf, KnCells, knc, Nat.reduceAdd] at hc))) | go_values | go_skip | go_guarded | go_step | go_upon | go_back | dsimp only)
          (try simp only [Act.put, slt])
          refine wp_region_plan (.p [0, 1, 2] (.q [3] (.p [4, 5, 6] (.q [7] (.p [8, 9] .done))))) [] (by kernel_rfl) (by kernel_rfl) (fun _ _ d _ _ h => by cases d <;> exact h) H ?_
          clear H
          (try clear hc)
          intro X nX fX wd hcf hS H
          simp only [CellsOf, KnCells, knc, Nat.reduceAdd] at hcf
          have hc := H.cells
          simp only [CellsOf, KnCells, knc, Nat.reduceAdd] at hc
          iterate 3 (refine plan_p (o := ⟨_, _, _, _, _, _⟩) rfl (fun N hN => ?_); go_big_quiet_step (fail); refine wpQuiet_nil (hN _ ?_); clear hN N)
          refine plan_p0 ?_
          iterate 1 (refine plan_q (o := ⟨_, _, _, _, _, _⟩) rfl (fun N hN => ?_); go_big_quiet_step (fail); refine wpQuiet_nil (hN _ ?_); clear hN N)
          refine plan_q0 ?_
          iterate 3 (refine plan_p (o := ⟨_, _, _, _, _, _⟩) rfl (fun N hN => ?_); go_big_quiet_step (fail); refine wpQuiet_nil (hN _ ?_); clear hN N)
          refine plan_p0 ?_
          iterate 1 (refine plan_q (o := ⟨_, _, _, _, _, _⟩) rfl (fun N hN => ?_); go_big_quiet_step (fail); refine wpQuiet_nil (hN _ ?_); clear hN N)
          refine plan_q0 ?_
          iterate 2 (refine plan_p (o := ⟨_, _, _, _, _, _⟩) rfl (fun N hN => ?_); go_big_quiet_step (fail); refine wpQuiet_nil (hN _ ?_); clear hN N)
          refine plan_p0 ?_
          refine plan_done ?_
          repeat' (first | (go_big_may; (first
    | ((first
        | (refine loud_ rfl ?_; refine wpList_plain rfl (fun K hK => ?_); (first | (refine op_storeRow _ _ _ rfl (b := kb) (i := k * 2 + 1) rfl rfl H (by repeat (first | exact Split.here _ _ | apply Split.there)) (by kernel_rfl) (one_ki _) (by show k * 2 + 1 + 1 ≤ (k + 1) * 2; omega) (fun w' H1 => hK _ _ ?_)) | (refine op_box _ _ rfl H (fun b w' H1 => hK _ _ ?_)) | (refine op_alloc _ rfl (zero_of _ _ rfl) H (fun b w' H1 => hK _ _ ?_)) | (refine op_store _ _ _ rfl rfl rfl H (by repeat (first | exact Split.here _ _ | apply Split.there)) (by kernel_rfl) (by kernel_rfl) (by kernel_rfl) (fun w' H1 => hK _ _ ?_)) | (refine op_buildSlice_all _ _ _ rfl (by first | exact elem22 | exact elem60 | exact elem66 | exact elem72 | exact elem74) (by kernel_rfl) (by kernel_rfl) (by kernel_rfl) H (fun b w' H1 => hK _ _ ?_))); clear hK K; replace H := H1; clear H1)); (try clear hc); (try simp only [nrm, splice, Value.cells, Nat.reduceAdd, Act.eval, Act.put] at H); have hc := H.cells; simp only [CellsOf, KnCells, knc, Nat.reduceAdd] at hc))) | go_values | go_skip | go_guarded | go_step | go_upon | go_back | dsimp only)
          exact ⟨⟨j + 1, k, cap1, kb, done, s, e + 1, _, rfl, by go_num, by omega, by omega, by omega, hxb.1, hxb.2, ⟨hf.out.1, rfl, hfx.out⟩, by rw [← hvx.out]; simp only [List.append_assoc, List.singleton_append]; exact H.sel (by repeat (first | exact Sel.nil _ | (apply Sel.cons; focus (repeat (first | exact Split.here _ _ | apply Split.there)))))⟩, by simp [intOf]; omega⟩
        · have hce : (x == e + 1) = false := by simpa using hxe
          have hfx : Hid (runs l = (done ++ [(s, e)]) ++ runsFrom x x (l.drop (j + 1))) := by
            show _ = _
            rw [hf.out.2.2]
            conv => lhs; unfold runsFrom
            rw [if_neg hxe]
            simp
          have hvx : Hid (vs ++ [ki x, ki x] = flat2 ((done ++ [(s, e)]) ++ [(x, x)])) := by
            show _ = _
            rw [flat2_app, ← hf.out.2.1]
            rfl
          have hc := H.cells; simp only [CellsOf, KnCells, knc, Nat.reduceAdd] at hc
          repeat' (first | (go_big_may; (first
    | ((first
        | (refine loud_ rfl ?_; refine wpList_plain rfl (fun K hK => ?_); (first | (refine op_box _ _ rfl H (fun b w' H1 => hK _ _ ?_)) | (refine op_alloc _ rfl (zero_of _ _ rfl) H (fun b w' H1 => hK _ _ ?_)) | (refine op_store _ _ _ rfl rfl rfl H (by repeat (first | exact Split.here _ _ | apply Split.there)) (by kernel_rfl) (by kernel_rfl) (by kernel_rfl) (fun w' H1 => hK _ _ ?_)) | (refine op_buildSlice_all _ _ _ rfl (by first | exact elem22 | exact elem60 | exact elem66 | exact elem72 | exact elem74) (by kernel_rfl) (by kernel_rfl) (by kernel_rfl) H (fun b w' H1 => hK _ _ ?_))); clear hK K; replace H := H1; clear H1)); (try clear hc); (try simp only [nrm, splice, Value.cells, Nat.reduceAdd, Act.eval, Act.put] at H); have hc := H.cells; simp only [CellsOf, KnCells, knc, Nat.reduceAdd] at hc))) | go_values | go_skip | go_guarded | go_step | go_upon | go_back | dsimp only)
          (try simp only [Act.put, slt])
          refine wp_region_plan (.p [0, 1, 2] (.q [3] (.p [4, 5, 6] (.q [7] (.p [8, 9] .done))))) [] (by kernel_rfl) (by kernel_rfl) (fun _ _ d _ _ h => by cases d <;> exact h) H ?_
          clear H
          (try clear hc)
          intro X nX fX wd hcf hS H
          simp only [CellsOf, KnCells, knc, Nat.reduceAdd] at hcf
          have hc := H.cells
          simp only [CellsOf, KnCells, knc, Nat.reduceAdd] at hc
          iterate 3 (refine plan_p (o := ⟨_, _, _, _, _, _⟩) rfl (fun N hN => ?_); go_big_quiet_step (fail); refine wpQuiet_nil (hN _ ?_); clear hN N)
          refine plan_p0 ?_
          iterate 1 (refine plan_q (o := ⟨_, _, _, _, _, _⟩) rfl (fun N hN => ?_); go_big_quiet_step (fail); refine wpQuiet_nil (hN _ ?_); clear hN N)
          refine plan_q0 ?_
          iterate 3 (refine plan_p (o := ⟨_, _, _, _, _, _⟩) rfl (fun N hN => ?_); go_big_quiet_step (fail); refine wpQuiet_nil (hN _ ?_); clear hN N)
          refine plan_p0 ?_
          iterate 1 (refine plan_q (o := ⟨_, _, _, _, _, _⟩) rfl (fun N hN => ?_); go_big_quiet_step (fail); refine wpQuiet_nil (hN _ ?_); clear hN N)
          refine plan_q0 ?_
          iterate 2 (refine plan_p (o := ⟨_, _, _, _, _, _⟩) rfl (fun N hN => ?_); go_big_quiet_step (fail); refine wpQuiet_nil (hN _ ?_); clear hN N)
          refine plan_p0 ?_
          refine plan_done ?_
          repeat' (first | (go_big_may; (first
    | ((first
        | (refine loud_ rfl ?_; refine wpList_plain rfl (fun K hK => ?_); (first | (refine op_box _ _ rfl H (fun b w' H1 => hK _ _ ?_)) | (refine op_alloc _ rfl (zero_of _ _ rfl) H (fun b w' H1 => hK _ _ ?_)) | (refine op_store _ _ _ rfl rfl rfl H (by repeat (first | exact Split.here _ _ | apply Split.there)) (by kernel_rfl) (by kernel_rfl) (by kernel_rfl) (fun w' H1 => hK _ _ ?_)) | (refine op_buildSlice_all _ _ _ rfl (by first | exact elem22 | exact elem60 | exact elem66 | exact elem72 | exact elem74) (by kernel_rfl) (by kernel_rfl) (by kernel_rfl) H (fun b w' H1 => hK _ _ ?_))); clear hK K; replace H := H1; clear H1)); (try clear hc); (try simp only [nrm, splice, Value.cells, Nat.reduceAdd, Act.eval, Act.put] at H); have hc := H.cells; simp only [CellsOf, KnCells, knc, Nat.reduceAdd] at hc))) | go_values | go_skip | go_guarded | go_step | go_upon | go_back | dsimp only)
          (try simp only [Act.put, slt])
          refine wp_region_plan_sub (.p [0, 1, 2, 3] (.q [4] (.p [5, 6, 7] (.q [8] (.p [9] (.e 10 (.e 11 (.p [12] .done)))))))) [10, 11] (by kernel_rfl) (by kernel_rfl) (fun _ _ d _ _ h => by cases d <;> exact h) H (List.Sublist.cons _ (List.Sublist.refl _)) ?_
          clear H
          (try clear hc)
          intro X nX fX wd hcf hS H
          simp only [CellsOf, KnCells, knc, Nat.reduceAdd] at hcf
          have hc := H.cells
          simp only [CellsOf, KnCells, knc, Nat.reduceAdd] at hc
          iterate 4 (refine plan_p (o := ⟨_, _, _, _, _, _⟩) rfl (fun N hN => ?_); go_big_quiet_step (fail); refine wpQuiet_nil (hN _ ?_); clear hN N)
          refine plan_p0 ?_
          iterate 1 (refine plan_q (o := ⟨_, _, _, _, _, _⟩) rfl (fun N hN => ?_); go_big_quiet_step (fail); refine wpQuiet_nil (hN _ ?_); clear hN N)
          refine plan_q0 ?_
          iterate 3 (refine plan_p (o := ⟨_, _, _, _, _, _⟩) rfl (fun N hN => ?_); go_big_quiet_step (fail); refine wpQuiet_nil (hN _ ?_); clear hN N)
          refine plan_p0 ?_
          iterate 1 (refine plan_q (o := ⟨_, _, _, _, _, _⟩) rfl (fun N hN => ?_); go_big_quiet_step (fail); refine wpQuiet_nil (hN _ ?_); clear hN N)
          refine plan_q0 ?_
          iterate 1 (refine plan_p (o := ⟨_, _, _, _, _, _⟩) rfl (fun N hN => ?_); go_big_quiet_step (fail); refine wpQuiet_nil (hN _ ?_); clear hN N)
          refine plan_p0 ?_
          refine plan_e (o := ⟨_, _, _, _, _, _⟩) rfl rfl (fun K hK => ?_)
          (first | (refine op_append_lit _ _ _ rfl elem72 (key := some kb) rfl rfl H (by repeat (first | exact Split.here _ _ | apply Split.there)) (by repeat (first | exact Split.here _ _ | apply Split.there)) (by kernel_rfl) (by kernel_rfl) (by omega) (by unfold maxLen; omega) (fun key9 cap9 w' H1 => ?_); replace H := H1; clear H1) | (refine op_box _ _ rfl H (fun b w' H1 => ?_); replace H := H1; clear H1) | (refine op_alloc _ rfl (zero_of _ _ rfl) H (fun b w' H1 => ?_); replace H := H1; clear H1) | (refine op_store _ _ _ rfl rfl rfl H (by repeat (first | exact Split.here _ _ | apply Split.there)) (by kernel_rfl) (by kernel_rfl) (by kernel_rfl) (fun w' H1 => ?_); replace H := H1; clear H1) | (refine op_buildSlice_all _ _ _ rfl (by first | exact elem22 | exact elem60 | exact elem66 | exact elem72 | exact elem74) (by kernel_rfl) (by kernel_rfl) (by kernel_rfl) H (fun b w' H1 => ?_); replace H := H1; clear H1)); (try clear hc); (try simp only [nrm, splice, Value.cells, Nat.reduceAdd, Act.eval, Act.put] at H); have hc := H.cells; simp only [CellsOf, KnCells, knc, Nat.reduceAdd] at hc; refine hK _ _ (fun h => (h (by decide)).elim) ?_; clear hK K; (try simp only [Act.put, slt])
          refine plan_e (o := ⟨_, _, _, _, _, _⟩) rfl rfl (fun K hK => ?_)
          (first | (refine op_append_lit _ _ _ rfl elem72 (key := some kb) rfl rfl H (by repeat (first | exact Split.here _ _ | apply Split.there)) (by repeat (first | exact Split.here _ _ | apply Split.there)) (by kernel_rfl) (by kernel_rfl) (by omega) (by unfold maxLen; omega) (fun key9 cap9 w' H1 => ?_); replace H := H1; clear H1) | (refine op_box _ _ rfl H (fun b w' H1 => ?_); replace H := H1; clear H1) | (refine op_alloc _ rfl (zero_of _ _ rfl) H (fun b w' H1 => ?_); replace H := H1; clear H1) | (refine op_store _ _ _ rfl rfl rfl H (by repeat (first | exact Split.here _ _ | apply Split.there)) (by kernel_rfl) (by kernel_rfl) (by kernel_rfl) (fun w' H1 => ?_); replace H := H1; clear H1) | (refine op_buildSlice_all _ _ _ rfl (by first | exact elem22 | exact elem60 | exact elem66 | exact elem72 | exact elem74) (by kernel_rfl) (by kernel_rfl) (by kernel_rfl) H (fun b w' H1 => ?_); replace H := H1; clear H1)); (try clear hc); (try simp only [nrm, splice, Value.cells, Nat.reduceAdd, Act.eval, Act.put] at H); have hc := H.cells; simp only [CellsOf, KnCells, knc, Nat.reduceAdd] at hc; refine hK _ _ (fun h => (h (by decide)).elim) ?_; clear hK K; (try simp only [Act.put, slt])
          iterate 1 (refine plan_p (o := ⟨_, _, _, _, _, _⟩) rfl (fun N hN => ?_); go_big_quiet_step (fail); refine wpQuiet_nil (hN _ ?_); clear hN N)
          refine plan_p0 ?_
          refine plan_done ?_
          obtain ⟨kb9, rfl⟩ := row_some (H.get (Split.here _ _)) (by omega)
          (try simp only [sl, Option.map_some])
          repeat' (first | (go_big_may; (first
    | ((first
        | (refine loud_ rfl ?_; refine wpList_plain rfl (fun K hK => ?_); (first | (refine op_box _ _ rfl H (fun b w' H1 => hK _ _ ?_)) | (refine op_alloc _ rfl (zero_of _ _ rfl) H (fun b w' H1 => hK _ _ ?_)) | (refine op_store _ _ _ rfl rfl rfl H (by repeat (first | exact Split.here _ _ | apply Split.there)) (by kernel_rfl) (by kernel_rfl) (by kernel_rfl) (fun w' H1 => hK _ _ ?_)) | (refine op_buildSlice_all _ _ _ rfl (by first | exact elem22 | exact elem60 | exact elem66 | exact elem72 | exact elem74) (by kernel_rfl) (by kernel_rfl) (by kernel_rfl) H (fun b w' H1 => hK _ _ ?_))); clear hK K; replace H := H1; clear H1)); (try clear hc); (try simp only [nrm, splice, Value.cells, Nat.reduceAdd, Act.eval, Act.put] at H); have hc := H.cells; simp only [CellsOf, KnCells, knc, Nat.reduceAdd] at hc))) | go_values | go_skip | go_guarded | go_step | go_upon | go_back | dsimp only)
          exact ⟨⟨j + 1, k + 1, cap9, kb9, done ++ [(s, e)], x, x, _, rfl, by go_num, by omega, by omega, by omega, hxb.1, hxb.2, ⟨by rw [hf.out.1, List.length_append]; rfl, rfl, hfx.out⟩, by rw [← hvx.out]; exact H.sel (by repeat (first | exact Sel.nil _ | (apply Sel.cons; focus (repeat (first | exact Split.here _ _ | apply Split.there)))))⟩, by simp [intOf]; omega⟩
      · have hje : j = n := by omega
        have hcj : decide ((j : Int) < (n : Int)) = false := by simp; omega
        have hfr : runs l = done ++ [(s, e)] := by
          rw [hf.out.2.2, List.drop_of_length_le (by rw [← hn.out]; omega)]
          rfl
        have hvr : vs = flat2 (runs l) := by rw [hf.out.2.1, hfr]
        have hNr : Hid (k + 1 = (runs l).length) := by show _ = _; rw [hfr, List.length_append, ← hf.out.1]; rfl
        subst hvr
        clear hf hfr
        have hext := Lib.hid H.ext
        have ht0 := Lib.hid (tabAt_ext ht'.out H.ext)
        replace H := H.rowSoft (key := some kb) (by repeat (first | exact Split.here _ _ | apply Split.there))
        (try simp only [List.append] at H)
        have hlies := Lib.hid (H.lies (s := some ⟨kb, 0, none⟩) (xs := flat2 (runs l)) (by repeat (first | exact Split.here _ _ | apply Split.there)))
        have hkN : k + 1 ≤ 50000 := by omega
        clear H hj1 hj hkj he0 he1 hlt
        have hbr := Lib.hid (runs_bounds hb'.out)
        generalize hrs : runs l = rs at *
        have hps := Lib.hid (show text l = joinc (rs.map piece) by unfold text; rw [hrs])
        have hblen : Hid ((bodyP (rs.map piece)).length ≤ 700000) := by
          cases l with
          | nil => exact absurd rfl h0
          | cons x r =>
            have hxb := hb'.out x (by simp)
            have := body_len r x x (Int.le_refl _) hxb.1 hxb.2 (fun y hy => hb'.out y (by simp [hy]))
            have hw : wgt (x, x) = 14 := by simp [wgt]
            show _ ≤ _
            rw [← hrs]
            show (bodyP ((runsFrom x x r).map piece)).length ≤ _
            simp only [List.length_cons] at hln
            omega
        have H := (St.init [] wr).soft hlies.out
        have hc := H.cells; simp only [CellsOf, KnCells, knc, Nat.reduceAdd] at hc
        repeat' (first | (go_big_may; (first
    | ((first
        | (refine loud_ rfl ?_; refine wpList_plain rfl (fun K hK => ?_); (first | (refine op_box _ _ rfl H (fun b w' H1 => hK _ _ ?_)) | (refine op_alloc _ rfl (zero_of _ _ rfl) H (fun b w' H1 => hK _ _ ?_)) | (refine op_store _ _ _ rfl rfl rfl H (by repeat (first | exact Split.here _ _ | apply Split.there)) (by kernel_rfl) (by kernel_rfl) (by kernel_rfl) (fun w' H1 => hK _ _ ?_)) | (refine op_buildSlice_all _ _ _ rfl (by first | exact elem22 | exact elem60 | exact elem66 | exact elem72 | exact elem74) (by kernel_rfl) (by kernel_rfl) (by kernel_rfl) H (fun b w' H1 => hK _ _ ?_))); clear hK K; replace H := H1; clear H1)); (try clear hc); (try simp only [nrm, splice, Value.cells, Nat.reduceAdd, Act.eval, Act.put] at H); have hc := H.cells; simp only [CellsOf, KnCells, knc, Nat.reduceAdd] at hc))) | go_values | go_skip | go_guarded | go_step | go_upon | go_back | dsimp only)
        obtain ⟨bb, rfl⟩ : ∃ q, q = b := ⟨_, rfl⟩
        obtain ⟨W0, rfl⟩ : ∃ q, q = wr := ⟨_, rfl⟩
        have hbb : W0.heap.size ≤ bb := by
          rcases H.perm _ (Split.mem (e := (true, .is bb (.cells #[.slice none 0 0, .int .i64 0, .int .i8 0] 78 (0, 0)))) (Split.here _ _)) rfl bb (by simp [Kn.fp]) with h | h
          · simp at h
          · exact h
        have hst : Buf W0.heap.size bb W0 (bodyP ((rs.map piece).take 0)) w' := buf_new (H.obj (b := bb) (Split.here _ _)) hbb H.ext
        have hst := Lib.hid hst
        clear H hc hbb hcj
        obtain ⟨N, hN⟩ : ∃ N, N = k + 1 := ⟨_, rfl⟩
        have hN5 : N ≤ 50000 := by omega
        have hN0 : 0 < N := by omega
        rw [← hN] at hNr
        have hNi : ((k : Int) + 1) = (N : Int) := by omega
        simp only [hNi, ← hN]
        clear hNi hN
        go_loopw [64] (fun i w2 => ∃ q : Nat, i = .int .i64 q ∧ q ≤ N ∧ Hid (Buf W0.heap.size bb W0 (bodyP ((rs.map piece).take q)) w2)) (fun i _ => N - (intOf i).toNat)
        case atStart => exact ⟨0, rfl, Nat.zero_le _, hst⟩
        case round =>
          clear hst
          obtain ⟨q, rfl, hq, hbuf⟩ := hrel
          have H := (St.init [] wr).soft (buf_lies hbuf.out (Nat.le_refl _) hlies.out)
          by_cases hlt : q < N
          · have hlt' : q < rs.length := by rw [← hNr.out]; exact hlt
            have hcj : decide ((q : Int) < (N : Int)) = true := by simp; omega
            have hbq := hbr.out rs[q] (List.getElem_mem _)
            obtain ⟨_, _, he, H1⟩ := H.elemSoft (Split.here _ _) (q * 2) (pc rs[q]) (by show 0 < 2; omega) (by rw [flat2_len]; show _ + 2 ≤ _; omega) (fun i hi => flat2_at hlt' i hi)
            cases he
            replace H := H1
            clear H1
            have hnext := body_take (ps := rs.map piece) (q := q) (by simpa using hlt')
            have hle := body_le (rs.map piece) (q + 1)
            rw [List.getElem_map] at hnext
            rw [hnext] at hle
            have hnext := Lib.hid hnext
            have hbl := hblen.out
            rcases hrq : rs[q] with ⟨s1, e1⟩
            rw [hrq] at hbq hnext hle H
            simp only at hbq
            have hs0 := hbq.1
            have hs1 : s1 ≤ 1099511627776 := by omega
            have he0 : 0 ≤ e1 := by omega
            have he1 := hbq.2.2.1
            clear hbq hrq
            generalize bodyP ((rs.map piece).take q) = lq at *
            by_cases hse : s1 = e1
            · have hce : (s1 == e1) = true := by simpa using hse
              have hpe : piece (s1, e1) = itx s1 := by unfold piece; rw [if_pos hse]
              rw [hpe] at hnext hle
              have hlim : Hid ((lq ++ itx s1).length ≤ 100000000 ∧ ((lq ++ itx s1) ++ [44]).length ≤ 100000000) := by
                rw [List.length_append] at hle
                refine ⟨by omega, ?_⟩
                rw [List.length_append]
                omega
              clear hle hpe
              subst hse
              have hc := H.cells; simp only [CellsOf, KnCells, knc, Nat.reduceAdd] at hc
              repeat' (first | (go_big_may; (first
    | go_skip
    | ((first
        | (go_at_call 57; refine Calls.mono (itoa_calls _ hs0 hs1 _ (tabAt_ext (buf_tab hbuf.out (Nat.le_refl _) ht0.out) H.ext)) ?_; rintro e w' ⟨rfl, H'⟩; replace H := H.of_ext H'; clear H')
        | (go_at_call 56; refine Calls.mono (buf_write _ _ (buf_ext hbuf.out H.ext) (by first | exact hlim.out.1 | exact hlim.out.2)) ?_; rintro e9 w' ⟨rfl, hbuf1⟩; replace hbuf := Lib.hid hbuf1; clear hbuf1; replace H := (St.init [] w').soft (buf_lies hbuf.out (Nat.le_refl _) hlies.out))
        | (refine loud_ rfl ?_; refine wpList_plain rfl (fun K hK => ?_); (first | (refine op_box _ _ rfl H (fun b w' H1 => hK _ _ ?_)) | (refine op_alloc _ rfl (zero_of _ _ rfl) H (fun b w' H1 => hK _ _ ?_)) | (refine op_store _ _ _ rfl rfl rfl H (by repeat (first | exact Split.here _ _ | apply Split.there)) (by kernel_rfl) (by kernel_rfl) (by kernel_rfl) (fun w' H1 => hK _ _ ?_)) | (refine op_buildSlice_all _ _ _ rfl (by first | exact elem22 | exact elem60 | exact elem66 | exact elem72 | exact elem74) (by kernel_rfl) (by kernel_rfl) (by kernel_rfl) H (fun b w' H1 => hK _ _ ?_))); clear hK K; replace H := H1; clear H1)); (try clear hc); (try simp only [nrm, splice, Value.cells, Nat.reduceAdd, Act.eval, Act.put] at H); have hc := H.cells; simp only [CellsOf, KnCells, knc, Nat.reduceAdd] at hc))) | go_values | go_skip | go_guarded | go_step | go_upon | go_back | dsimp only)
              exact ⟨⟨q + 1, by go_num, by omega, by rw [hnext.out]; exact hbuf⟩, by simp [intOf]; omega⟩
            · have hce : (s1 == e1) = false := by simpa using hse
              have hpe : piece (s1, e1) = itx s1 ++ 45 :: itx e1 := by unfold piece; rw [if_neg hse]
              have hcat : bs (itx s1) ++ { data := #[45] } ++ bs (itx e1) = bs (itx s1 ++ 45 :: itx e1) := by
                apply ByteArray.ext
                simp [ByteArray.data_append]
              rw [hpe] at hnext hle
              have hlim : Hid ((lq ++ (itx s1 ++ 45 :: itx e1)).length ≤ 100000000 ∧ ((lq ++ (itx s1 ++ 45 :: itx e1)) ++ [44]).length ≤ 100000000) := by
                rw [List.length_append] at hle
                refine ⟨by omega, ?_⟩
                rw [List.length_append]
                omega
              clear hle hpe
              have hc := H.cells; simp only [CellsOf, KnCells, knc, Nat.reduceAdd] at hc
              have li1 := itx_len hs0 hs1
              have li2 := itx_len he0 he1
              repeat' (first | (go_big_may; (first
    | ((first
        | (refine loud_ rfl ?_; refine wpList_plain rfl (fun K hK => ?_); (first | (refine op_box _ _ rfl H (fun b w' H1 => hK _ _ ?_)) | (refine op_alloc _ rfl (zero_of _ _ rfl) H (fun b w' H1 => hK _ _ ?_)) | (refine op_store _ _ _ rfl rfl rfl H (by repeat (first | exact Split.here _ _ | apply Split.there)) (by kernel_rfl) (by kernel_rfl) (by kernel_rfl) (fun w' H1 => hK _ _ ?_)) | (refine op_buildSlice_all _ _ _ rfl (by first | exact elem22 | exact elem60 | exact elem66 | exact elem72 | exact elem74) (by kernel_rfl) (by kernel_rfl) (by kernel_rfl) H (fun b w' H1 => hK _ _ ?_))); clear hK K; replace H := H1; clear H1)); (try clear hc); (try simp only [nrm, splice, Value.cells, Nat.reduceAdd, Act.eval, Act.put] at H); have hc := H.cells; simp only [CellsOf, KnCells, knc, Nat.reduceAdd] at hc))) | go_values | go_skip | go_guarded | go_step | go_upon | go_back | dsimp only)
              (try simp only [Act.put, slt])
              refine wp_region_plan (.p [0] (.q [1] (.p [4] (.q [5] (.e 2 (.p [3] (.e 6 (.p [7] (.e 8 .done))))))))) [6, 8] (by kernel_rfl) (by kernel_rfl) (fun _ _ d _ _ h => by cases d <;> exact h) H ?_
              clear H
              (try clear hc)
              intro X nX fX wd hcf hS H
              simp only [CellsOf, KnCells, knc, Nat.reduceAdd] at hcf
              have hc := H.cells
              simp only [CellsOf, KnCells, knc, Nat.reduceAdd] at hc
              iterate 1 (refine plan_p (o := ⟨_, _, _, _, _, _⟩) rfl (fun N hN => ?_); go_big_quiet_step (fail); refine wpQuiet_nil (hN _ ?_); clear hN N)
              refine plan_p0 ?_
              iterate 1 (refine plan_q (o := ⟨_, _, _, _, _, _⟩) rfl (fun N hN => ?_); go_big_quiet_step (fail); refine wpQuiet_nil (hN _ ?_); clear hN N)
              refine plan_q0 ?_
              iterate 1 (refine plan_p (o := ⟨_, _, _, _, _, _⟩) rfl (fun N hN => ?_); go_big_quiet_step (fail); refine wpQuiet_nil (hN _ ?_); clear hN N)
              refine plan_p0 ?_
              iterate 1 (refine plan_q (o := ⟨_, _, _, _, _, _⟩) rfl (fun N hN => ?_); go_big_quiet_step (fail); refine wpQuiet_nil (hN _ ?_); clear hN N)
              refine plan_q0 ?_
              refine plan_e (o := ⟨_, _, _, _, _, _⟩) rfl rfl (fun K hK => ?_)
              (first | (go_step; go_at_call 57; refine Calls.mono (itoa_calls _ hs0 hs1 _ (tabAt_ext (buf_tab hbuf.out (Nat.le_refl _) ht0.out) H.ext)) ?_; rintro e w' ⟨rfl, H'⟩; replace H := H.of_ext H'; clear H') | (go_step; go_at_call 57; refine Calls.mono (itoa_calls _ he0 he1 _ (tabAt_ext (buf_tab hbuf.out (Nat.le_refl _) ht0.out) H.ext)) ?_; rintro e w' ⟨rfl, H'⟩; replace H := H.of_ext H'; clear H') | (go_step; go_at_call 56; refine Calls.mono (buf_write _ _ (buf_ext hbuf.out H.ext) (by first | exact hlim.out.1 | exact hlim.out.2)) ?_; rintro e9 w' ⟨rfl, hbuf1⟩; replace hbuf := Lib.hid hbuf1; clear hbuf1; replace H := (St.init [] w').soft (buf_lies hbuf.out (Nat.le_refl _) hlies.out)) | (refine op_box _ _ rfl H (fun b w' H1 => ?_); replace H := H1; clear H1) | (refine op_alloc _ rfl (zero_of _ _ rfl) H (fun b w' H1 => ?_); replace H := H1; clear H1) | (refine op_store _ _ _ rfl rfl rfl H (by repeat (first | exact Split.here _ _ | apply Split.there)) (by kernel_rfl) (by kernel_rfl) (by kernel_rfl) (fun w' H1 => ?_); replace H := H1; clear H1) | (refine op_buildSlice_all _ _ _ rfl (by first | exact elem22 | exact elem60 | exact elem66 | exact elem72 | exact elem74) (by kernel_rfl) (by kernel_rfl) (by kernel_rfl) H (fun b w' H1 => ?_); replace H := H1; clear H1)); (try clear hc); (try simp only [nrm, splice, Value.cells, Nat.reduceAdd, Act.eval, Act.put] at H); have hc := H.cells; simp only [CellsOf, KnCells, knc, Nat.reduceAdd] at hc; refine hK _ _ (fun _ _ => hS _ (H.sublist (by repeat (first | exact List.Sublist.refl _ | exact List.nil_sublist _ | apply List.Sublist.cons_cons | apply List.Sublist.cons))).all) ?_; clear hK K; (try simp only [Act.put, slt])
              iterate 1 (refine plan_p (o := ⟨_, _, _, _, _, _⟩) rfl (fun N hN => ?_); go_big_quiet_step (fail); refine wpQuiet_nil (hN _ ?_); clear hN N)
              refine plan_p0 ?_
              refine plan_e (o := ⟨_, _, _, _, _, _⟩) rfl rfl (fun K hK => ?_)
              (first | (go_step; go_at_call 57; refine Calls.mono (itoa_calls _ hs0 hs1 _ (tabAt_ext (buf_tab hbuf.out (Nat.le_refl _) ht0.out) H.ext)) ?_; rintro e w' ⟨rfl, H'⟩; replace H := H.of_ext H'; clear H') | (go_step; go_at_call 57; refine Calls.mono (itoa_calls _ he0 he1 _ (tabAt_ext (buf_tab hbuf.out (Nat.le_refl _) ht0.out) H.ext)) ?_; rintro e w' ⟨rfl, H'⟩; replace H := H.of_ext H'; clear H') | (go_step; go_at_call 56; refine Calls.mono (buf_write _ _ (buf_ext hbuf.out H.ext) (by first | exact hlim.out.1 | exact hlim.out.2)) ?_; rintro e9 w' ⟨rfl, hbuf1⟩; replace hbuf := Lib.hid hbuf1; clear hbuf1; replace H := (St.init [] w').soft (buf_lies hbuf.out (Nat.le_refl _) hlies.out)) | (refine op_box _ _ rfl H (fun b w' H1 => ?_); replace H := H1; clear H1) | (refine op_alloc _ rfl (zero_of _ _ rfl) H (fun b w' H1 => ?_); replace H := H1; clear H1) | (refine op_store _ _ _ rfl rfl rfl H (by repeat (first | exact Split.here _ _ | apply Split.there)) (by kernel_rfl) (by kernel_rfl) (by kernel_rfl) (fun w' H1 => ?_); replace H := H1; clear H1) | (refine op_buildSlice_all _ _ _ rfl (by first | exact elem22 | exact elem60 | exact elem66 | exact elem72 | exact elem74) (by kernel_rfl) (by kernel_rfl) (by kernel_rfl) H (fun b w' H1 => ?_); replace H := H1; clear H1)); (try clear hc); (try simp only [nrm, splice, Value.cells, Nat.reduceAdd, Act.eval, Act.put] at H); have hc := H.cells; simp only [CellsOf, KnCells, knc, Nat.reduceAdd] at hc; refine hK _ _ (fun h => (h (by decide)).elim) ?_; clear hK K; (try simp only [Act.put, slt])
              iterate 1 (refine plan_p (o := ⟨_, _, _, _, _, _⟩) rfl (fun N hN => ?_); go_big_quiet_step (fail); refine wpQuiet_nil (hN _ ?_); clear hN N)
              refine plan_p0 ?_
              refine plan_e (o := ⟨_, _, _, _, _, _⟩) rfl rfl (fun K hK => ?_)
              (first | (go_step; go_at_call 57; refine Calls.mono (itoa_calls _ hs0 hs1 _ (tabAt_ext (buf_tab hbuf.out (Nat.le_refl _) ht0.out) H.ext)) ?_; rintro e w' ⟨rfl, H'⟩; replace H := H.of_ext H'; clear H') | (go_step; go_at_call 57; refine Calls.mono (itoa_calls _ he0 he1 _ (tabAt_ext (buf_tab hbuf.out (Nat.le_refl _) ht0.out) H.ext)) ?_; rintro e w' ⟨rfl, H'⟩; replace H := H.of_ext H'; clear H') | (go_step; go_at_call 56; refine Calls.mono (buf_write _ _ (buf_ext hbuf.out H.ext) (by first | exact hlim.out.1 | exact hlim.out.2)) ?_; rintro e9 w' ⟨rfl, hbuf1⟩; replace hbuf := Lib.hid hbuf1; clear hbuf1; replace H := (St.init [] w').soft (buf_lies hbuf.out (Nat.le_refl _) hlies.out)) | (refine op_box _ _ rfl H (fun b w' H1 => ?_); replace H := H1; clear H1) | (refine op_alloc _ rfl (zero_of _ _ rfl) H (fun b w' H1 => ?_); replace H := H1; clear H1) | (refine op_store _ _ _ rfl rfl rfl H (by repeat (first | exact Split.here _ _ | apply Split.there)) (by kernel_rfl) (by kernel_rfl) (by kernel_rfl) (fun w' H1 => ?_); replace H := H1; clear H1) | (refine op_buildSlice_all _ _ _ rfl (by first | exact elem22 | exact elem60 | exact elem66 | exact elem72 | exact elem74) (by kernel_rfl) (by kernel_rfl) (by kernel_rfl) H (fun b w' H1 => ?_); replace H := H1; clear H1)); (try clear hc); (try simp only [nrm, splice, Value.cells, Nat.reduceAdd, Act.eval, Act.put] at H); have hc := H.cells; simp only [CellsOf, KnCells, knc, Nat.reduceAdd] at hc; refine hK _ _ (fun h => (h (by decide)).elim) ?_; clear hK K; (try simp only [Act.put, slt])
              refine plan_done ?_
              repeat' (first | (go_big_may; (first
    | go_skip
    | ((first
        | (go_at_call 56; refine Calls.mono (buf_write _ _ (buf_ext hbuf.out H.ext) (by first | exact hlim.out.1 | exact hlim.out.2)) ?_; rintro e9 w' ⟨rfl, hbuf1⟩; replace hbuf := Lib.hid hbuf1; clear hbuf1; replace H := (St.init [] w').soft (buf_lies hbuf.out (Nat.le_refl _) hlies.out))
        | (refine loud_ rfl ?_; refine wpList_plain rfl (fun K hK => ?_); (first | (refine op_box _ _ rfl H (fun b w' H1 => hK _ _ ?_)) | (refine op_alloc _ rfl (zero_of _ _ rfl) H (fun b w' H1 => hK _ _ ?_)) | (refine op_store _ _ _ rfl rfl rfl H (by repeat (first | exact Split.here _ _ | apply Split.there)) (by kernel_rfl) (by kernel_rfl) (by kernel_rfl) (fun w' H1 => hK _ _ ?_)) | (refine op_buildSlice_all _ _ _ rfl (by first | exact elem22 | exact elem60 | exact elem66 | exact elem72 | exact elem74) (by kernel_rfl) (by kernel_rfl) (by kernel_rfl) H (fun b w' H1 => hK _ _ ?_))); clear hK K; replace H := H1; clear H1)); (try clear hc); (try simp only [nrm, splice, Value.cells, Nat.reduceAdd, Act.eval, Act.put] at H); have hc := H.cells; simp only [CellsOf, KnCells, knc, Nat.reduceAdd] at hc))) | go_values | go_skip | go_guarded | go_step | go_upon | go_back | dsimp only)
              exact ⟨⟨q + 1, by go_num, by omega, by rw [hnext.out]; exact hbuf⟩, by simp [intOf]; omega⟩
          · have hqe : q = N := by omega
            have hcj : decide ((q : Int) < (N : Int)) = false := by simp; omega
            have hall : (rs.map piece).take q = rs.map piece := List.take_of_length_le (by rw [List.length_map, ← hNr.out]; omega)
            have hpne : rs.map piece ≠ [] := by
              intro e
              have h1 := congrArg List.length e
              rw [List.length_map, ← hNr.out] at h1
              simp at h1
              omega
            have hpp : ∀ p ∈ rs.map piece, p ≠ [] ∧ (44 : UInt8) ∉ p := by
              intro p hp
              obtain ⟨x, hx, rfl⟩ := List.mem_map.1 hp
              have := hbr.out x hx
              exact ⟨piece_ne (by omega), piece_no44 (by omega) (by omega)⟩
            have htne : text l ≠ [] := by rw [hps.out]; exact joinc_ne _ hpne (fun p hp => (hpp p hp).1)
            have hlast : Hid ((text l).getLast htne ≠ 44) := by
              show _ ≠ _
              have := join_last (rs.map piece) hpp (joinc_ne _ hpne (fun p hp => (hpp p hp).1))
              simpa only [hps.out] using this
            have hbt : bodyP (rs.map piece) = text l ++ [44] := by rw [body_join _ hpne, hps.out]
            have htl : (text l).length ≤ 900000 := by
              have := hblen.out
              rw [hbt, List.length_append] at this
              omega
            rw [hall, hbt] at hbuf
            clear hall hbt hpp hpne
            have hc := H.cells; simp only [CellsOf, KnCells, knc, Nat.reduceAdd] at hc
            repeat' (first | (go_big_may; (first
    | go_skip
    | ((first
        | (go_at_call 59; refine Calls.mono (buf_string _ (buf_ext hbuf.out H.ext)) ?_; rintro e w' ⟨rfl, H'⟩; replace H := H.of_ext H'; clear H')
        | (go_at_call 58; refine Calls.mono (trim_calls (text l) htl htne hlast _) ?_; rintro e w' ⟨rfl, H'⟩; replace H := H.of_ext H'; clear H')
        | (refine loud_ rfl ?_; refine wpList_plain rfl (fun K hK => ?_); (first | (refine op_box _ _ rfl H (fun b w' H1 => hK _ _ ?_)) | (refine op_alloc _ rfl (zero_of _ _ rfl) H (fun b w' H1 => hK _ _ ?_)) | (refine op_store _ _ _ rfl rfl rfl H (by repeat (first | exact Split.here _ _ | apply Split.there)) (by kernel_rfl) (by kernel_rfl) (by kernel_rfl) (fun w' H1 => hK _ _ ?_)) | (refine op_buildSlice_all _ _ _ rfl (by first | exact elem22 | exact elem60 | exact elem66 | exact elem72 | exact elem74) (by kernel_rfl) (by kernel_rfl) (by kernel_rfl) H (fun b w' H1 => hK _ _ ?_))); clear hK K; replace H := H1; clear H1)); (try clear hc); (try simp only [nrm, splice, Value.cells, Nat.reduceAdd, Act.eval, Act.put] at H); have hc := H.cells; simp only [CellsOf, KnCells, knc, Nat.reduceAdd] at hc))) | go_values | go_skip | go_guarded | go_step | go_upon | go_back | dsimp only)
            go_ret
            exact ⟨rfl, (hext.out.trans (buf_out hbuf.out (Nat.le_refl _)) (by simp)).trans H.ext (by simp)⟩
end Go.Proofs.YtikaldcoakpfoaaGreatDoor
