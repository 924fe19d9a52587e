import Derived.Test.YtikaldcoakpfoaaGreatDoorCpuB
import Derived.Test.YtikaldcoakpfoaaGreatDoorVSet
-- MORE
-- SUB2
namespace Go.V
set_option linter.unusedVariables false
set_option linter.unusedSimpArgs false
set_option linter.unnecessarySimpa false
open Go Go.RowKit
open Go.ChangeMaps (setBlock)
section
variable {P : Program} {S : List Nat} {w0 w : World} {L : List Ent} {o : Oper} {a : Act} {K : Act → World → Prop} {Q : Exit → Act → World → Prop}
theorem lies_cells {w : World} {b : Nat} {T : TypeId} {xs : List Value} (h : holds w (.is b (.cells xs.toArray T (0, 0)))) : Lies w (some ⟨b, 0, none⟩) xs := by
  refine ⟨fun h2 => (by cases h2), ?_⟩
  intro ad had j u hu
  cases had
  have e : (⟨b, 0, none⟩ : Addr).add j = ⟨b, j, none⟩ := by
    unfold Addr.add
    split
    · rename_i h0
      simp_all
    · simp
  rw [e]
  have h1 : w.heap[b]? = some (.cells xs.toArray T (0, 0)) := h
  simpa [World.cell?, h1] using hu
/-- A block written out, to be read from here on. -/
theorem St.litSoft {A B : List Ent} {b : Nat} {T : TypeId} {xs : List Value} (H : St S w0 w L) (hs : Split L (true, .is b (.cells xs.toArray T (0, 0))) A B) : St S w0 w ((false, V.soft (some ⟨b, 0, none⟩) xs) :: (A ++ B)) := by
  have hl := lies_cells (H.get hs)
  have H1 := H.ro hs
  have hs1 : Split (A ++ (false, .is b (.cells xs.toArray T (0, 0))) :: B) (false, .is b (.cells xs.toArray T (0, 0))) A B := by
    clear H1 hl H hs
    induction A with
    | nil => exact .here _ _
    | cons x A ih => exact .there _ ih
  have H2 := H1.sub hs1 (V.soft (some ⟨b, 0, none⟩) xs) (soft_holds hl) (by
    intro c hc
    cases xs <;> simp [Kn.fp, softFp] at hc ⊢; exact hc)
  exact H2.sublist (List.Sublist.cons_cons _ (List.Sublist.append_left (List.sublist_cons_self _ _) _))
theorem St.litSoft' {b : Nat} {A B : List Ent} {T : TypeId} {xs : List Value} {p : Bool} (H : St S w0 w L) (hs : Split L (p, .is b (.cells xs.toArray T (0, 0))) A B) (hp : p = false) : St S w0 w ((false, V.soft (some ⟨b, 0, none⟩) xs) :: L) := by
  subst hp
  exact H.sub hs _ (soft_holds (lies_cells (H.get hs))) (by intro c hc; cases xs <;> simp [Kn.fp, softFp] at hc ⊢; exact hc)
theorem aget_set (l : List Int) (u : Value) (k : Int) : aget (l.map fun k => (k, u)) k = if k ∈ l then some u else none := by
  induction l with
  | nil => rfl
  | cons x r ih =>
    show (if x = k then some u else aget (r.map fun k => (k, u)) k) = _
    rw [ih]
    by_cases h : x = k
    · subst h; simp
    · have : ¬ k = x := fun e => h e.symm
      simp [h, this]
/-- A number looked up in the set. -/
theorem op_has (t kt e : TypeId) (m x : Operand) (ho : o.op = .lookup t m x true) (ht : P.underlying t = some (.map kt e)) {f : Int → Value} (KA : KeyAs P kt f) {u : Value} (hz : ∀ w, (zeroValue e).run P w = .ok u w) {b clock : Nat} {es : Array MapEntry} {l : List Int} {k : Int}
    (hm : a.eval m = .map (some b)) (hx : a.eval x = f k) (hb : w.heap[b]? = some (.map es clock)) (hl : SetM f u es clock l)
    (h : K (a.put o.dst (.tuple #[u, .bool (decide (k ∈ l))])) w) : o.wp P a w K Q := by
  refine op_look t kt e m x ho ht KA hz hm hx hb (setM_kv hl) (aget_set l u k) ?_
  by_cases hk : k ∈ l
  · rw [if_pos hk]
    rw [decide_eq_true hk] at h
    exact h
  · rw [if_neg hk]
    rw [decide_eq_false hk] at h
    exact h
theorem adel_set (u : Value) (k : Int) : ∀ (l : List Int), adel (l.map fun k => (k, u)) k = (l.erase k).map fun k => (k, u)
  | [] => rfl
  | x :: r => by
    show (if x = k then r.map (fun k => (k, u)) else (x, u) :: adel (r.map fun k => (k, u)) k) = _
    by_cases h : x = k
    · subst h; simp
    · rw [if_neg h, adel_set u k r, List.erase_cons_tail (by simpa using h)]
      rfl
/-- .. taken out. -/
theorem op_out (m x : Operand) (t tk kt e : TypeId) (ho : o.op = .call { callee := .builtin .delete, args := #[m, x], argTypes := #[t, tk] }) (ht : P.underlying t = some (.map kt e)) {f : Int → Value} (KA : KeyAs P kt f) {b clock : Nat} {es : Array MapEntry} {l : List Int} {k : Int} {u : Value} {A B : List Ent}
    (hm : a.eval m = .map (some b)) (hx : a.eval x = f k) (H : St S w0 w L) (hs : Split L (true, .is b (.map es clock)) A B) (hl : SetM f u es clock l)
    (h : ∀ es' w', SetM f u es' clock (l.erase k) → St S w0 w' (A ++ (true, .is b (.map es' clock)) :: B) → K (a.put o.dst (.tuple #[])) w') : o.wp P a w K Q := by
  have hkv := setM_kv hl
  have hg := H.get hs
  have hf := KA.find k es.toList _ w hkv
  cases hi : aix (l.map fun k => (k, u)) k 0 with
  | none =>
    rw [hi] at hf
    have hnin := aix_set_none hi
    have hrun : (Builtin.delete_ #[t, tk] o.type #[.map (some b), f k]).run P w = .ok (.tuple #[]) (setBlock w b (.map es clock)) := by
      simp [Builtin.delete_, run_underlying ht, MapKept.run_getObj_map hg, KA.check, hf, MapKept.run_setObj_map _ hg, Result.andThen, setBlock]
    refine op_val ?_ (h es _ (by rw [List.erase_of_not_mem hnin]; exact hl) (H.turn (k' := .is b (.map es clock)) hs (setB_ext w b _) (setB_get _ hg) rfl))
    unfold execOp
    rw [ho]
    simp only [resolve, invoke, builtin, Sem.run_bind, Sem.run_pure, Result.andThen_ok, List.map_toArray, List.map_cons, List.map_nil, hm, hx, hrun]
  | some p =>
    obtain ⟨j, u'⟩ := p
    rw [hi] at hf
    obtain ⟨_, hj⟩ := aix_some hi
    rw [Nat.sub_zero] at hj
    have hrun : (Builtin.delete_ #[t, tk] o.type #[.map (some b), f k]).run P w = .ok (.tuple #[]) (setBlock w b (.map (es.eraseIdxIfInBounds j) clock)) := by
      simp [Builtin.delete_, run_underlying ht, MapKept.run_getObj_map hg, KA.check, hf, MapKept.run_setObj_map _ hg, Result.andThen, setBlock]
    refine op_val ?_ (h (es.eraseIdxIfInBounds j) _ ?_ (H.turn (k' := .is b (.map (es.eraseIdxIfInBounds j) clock)) hs (setB_ext w b _) (setB_get _ hg) rfl))
    · unfold execOp
      rw [ho]
      simp only [resolve, invoke, builtin, Sem.run_bind, Sem.run_pure, Result.andThen_ok, List.map_toArray, List.map_cons, List.map_nil, hm, hx, hrun]
    · have hsz := setM_size hl
      have hjl : j < es.size := by have := (List.getElem?_eq_some_iff.1 hj).1; rw [hsz]; simpa using this
      have hel : (es.eraseIdxIfInBounds j).toList = es.toList.eraseIdx j := by simp [Array.eraseIdxIfInBounds, hjl]
      obtain ⟨h1, h2, h3, h4⟩ := hl
      refine ⟨?_, ?_, ?_, h4.erase k⟩
      · have e1 : (l.erase k).map (fun k => (f k, u)) = ((l.erase k).map fun k => (k, u)).map fun p => (f p.1, p.2) := by simp
        rw [hel, map_erase, h1, e1, ← adel_set, adel_old hi, Nat.sub_zero, map_erase]
        simp [Function.comp_def]
      · intro x hx
        rw [hel] at hx
        exact h2 x (List.mem_of_mem_eraseIdx hx)
      · rw [hel]
        exact h3.sublist ((List.eraseIdx_sublist _ _).map _)
end
end Go.V
namespace Go.Proofs.YtikaldcoakpfoaaGreatDoor
set_option linter.unusedVariables false
set_option linter.unusedSimpArgs false
set_option linter.unnecessarySimpa false
open Go Go.RowKit Go.V Go.Lib

abbrev SetT : TypeId := 33
theorem setU : Tryz.prog.underlying SetT = some (.map 3 81) := Tryz.underlying33
theorem zeroE : ∀ w, (zeroValue 81).run Tryz.prog w = .ok u0 w := Tryz.zeroValue81
theorem zeroS : ∀ w, (zeroValue 62).run Tryz.prog w = .ok u0 w := Tryz.zeroValue62
def AtIns (S : List Nat) (w : World) (m : Nat) (src : Option Addr) (l ks : List Int) (i : Value) (wr : World) : Prop := ∃ (j : Nat) (es : Array MapEntry) (clock : Nat), i = .int .i64 j ∧ j ≤ ks.length ∧ Hid (SetI es clock (insAll l (ks.take j))) ∧
  St S w wr [(true, .is m (.map es clock)), (false, soft src (intsN ks))]
set_option maxHeartbeats 400000 in
set_option maxRecDepth 8000 in
theorem insert_calls (S : List Nat) (m : Nat) (es : Array MapEntry) (clock : Nat) (l : List Int) (src : Option Addr) (ks : List Int) (n c : Nat) (hl : Hid (SetI es clock l)) (hn : Hid (ks.length = n)) (hnn : n ≤ 2147483647) (w : World) (H : St S w w [(true, .is m (.map es clock)), (false, soft src (intsN ks))]) :
    Calls Tryz.prog 38 #[.map (some m), .slice src n c] w fun e w' => ∃ es' clock', Hid (SetI es' clock' (insAll l ks)) ∧ e = .returned (.map (some m)) ∧ St S w w' [(true, .is m (.map es' clock'))] := by
  go_enter Tryz.func38, Tryz.ntmps38
  repeat' (first | (go_big_may; (first
    | ((first
        | (refine loud_ rfl ?_; refine wpList_plain rfl (fun K hK => ?_); (first | (refine op_box _ _ rfl H (fun b w' H1 => hK _ _ ?_)) | (refine op_alloc _ rfl (zero_of _ _ rfl) H (fun b w' H1 => hK _ _ ?_)) | (refine op_store _ _ _ rfl rfl rfl H (by repeat (first | exact Split.here _ _ | apply Split.there)) (by kernel_rfl) (by kernel_rfl) (by kernel_rfl) (fun w' H1 => hK _ _ ?_)) | (refine op_buildSlice_all _ _ _ rfl (by first | exact elem22 | exact elem60 | exact elem66 | exact elem72 | exact elem74) (by kernel_rfl) (by kernel_rfl) (by kernel_rfl) H (fun b w' H1 => hK _ _ ?_))); clear hK K; replace H := H1; clear H1)); (try clear hc); (try simp only [nrm, splice, Value.cells, Nat.reduceAdd, Act.eval, Act.put] at H); have hc := H.cells; simp only [CellsOf, KnCells, knc, Nat.reduceAdd] at hc))) | go_values | go_skip | go_guarded | go_step | go_upon | go_back | dsimp only)
  go_loopw [9] (AtIns S w m src l ks) (fun i _ => n - (intOf i).toNat)
  case atStart => exact ⟨0, es, clock, rfl, Nat.zero_le _, hl, H⟩
  case round =>
    clear H hl
    obtain ⟨j, es, clock, rfl, hj, hset, H⟩ := hrel
    rw [hn.out] at hj
    by_cases hlt : j < n
    · have hlt' : j < ks.length := by rw [hn.out]; exact hlt
      obtain ⟨b1, o1, rfl, H1⟩ := H.elemSoft (Split.there _ (Split.here _ _)) j [ki ks[j]] (by show 0 < 1; omega) (by rw [intsN_len]; show j + 1 ≤ _; omega) (by intro i hi; obtain rfl : i = 0 := (by simpa using hi); simp [intsN, hlt'])
      have hnx : Hid (insAll l (ks.take (j + 1)) = ins (insAll l (ks.take j)) ks[j]) := by show _ = _; rw [← List.take_append_getElem hlt', insAll_snoc]
      generalize ks[j] = k at *
      replace H := H1
      clear H1
      have hc := H.cells; simp only [CellsOf, KnCells, knc, Nat.reduceAdd] at hc
      repeat' (first | (go_big_may; (first
    | go_skip
    | (refine wpList_plain rfl (fun K hK => ?_); (refine op_ins _ _ _ _ _ _ rfl setU keyN rfl rfl rfl H (by repeat (first | exact Split.here _ _ | apply Split.there)) hset.out (fun es' clock' w' hl1 H1 => hK _ _ ?_); clear hK K; replace H := H1; clear H1; (try clear hc); (try simp only [nrm, splice, Value.cells, Nat.reduceAdd, Act.eval, Act.put] at H); have hc := H.cells; simp only [CellsOf, KnCells, knc, Nat.reduceAdd] at hc))
    | ((first
        | (refine loud_ rfl ?_; refine wpList_plain rfl (fun K hK => ?_); (first | (refine op_box _ _ rfl H (fun b w' H1 => hK _ _ ?_)) | (refine op_alloc _ rfl (zero_of _ _ rfl) H (fun b w' H1 => hK _ _ ?_)) | (refine op_store _ _ _ rfl rfl rfl H (by repeat (first | exact Split.here _ _ | apply Split.there)) (by kernel_rfl) (by kernel_rfl) (by kernel_rfl) (fun w' H1 => hK _ _ ?_)) | (refine op_buildSlice_all _ _ _ rfl (by first | exact elem22 | exact elem60 | exact elem66 | exact elem72 | exact elem74) (by kernel_rfl) (by kernel_rfl) (by kernel_rfl) H (fun b w' H1 => hK _ _ ?_))); clear hK K; replace H := H1; clear H1)); (try clear hc); (try simp only [nrm, splice, Value.cells, Nat.reduceAdd, Act.eval, Act.put] at H); have hc := H.cells; simp only [CellsOf, KnCells, knc, Nat.reduceAdd] at hc))) | go_values | go_skip | go_guarded | go_step | go_upon | go_back | dsimp only)
      (try simp only [Act.put])
      repeat' (first | (go_big_may; (first
    | ((first
        | (refine loud_ rfl ?_; refine wpList_plain rfl (fun K hK => ?_); (first | (refine op_box _ _ rfl H (fun b w' H1 => hK _ _ ?_)) | (refine op_alloc _ rfl (zero_of _ _ rfl) H (fun b w' H1 => hK _ _ ?_)) | (refine op_store _ _ _ rfl rfl rfl H (by repeat (first | exact Split.here _ _ | apply Split.there)) (by kernel_rfl) (by kernel_rfl) (by kernel_rfl) (fun w' H1 => hK _ _ ?_)) | (refine op_buildSlice_all _ _ _ rfl (by first | exact elem22 | exact elem60 | exact elem66 | exact elem72 | exact elem74) (by kernel_rfl) (by kernel_rfl) (by kernel_rfl) H (fun b w' H1 => hK _ _ ?_))); clear hK K; replace H := H1; clear H1)); (try clear hc); (try simp only [nrm, splice, Value.cells, Nat.reduceAdd, Act.eval, Act.put] at H); have hc := H.cells; simp only [CellsOf, KnCells, knc, Nat.reduceAdd] at hc))) | go_values | go_skip | go_guarded | go_step | go_upon | go_back | dsimp only)
      exact ⟨⟨j + 1, es', clock', by go_num, by omega, by rw [hnx.out]; exact hl1, H.sel (by repeat (first | exact Sel.nil _ | (apply Sel.cons; focus (repeat (first | exact Split.here _ _ | apply Split.there)))))⟩, by simp [intOf]; omega⟩
    · obtain rfl : j = n := by omega
      have hfin := hn.out
      rw [← hfin, List.take_length] at hset
      have hc := H.cells; simp only [CellsOf, KnCells, knc, Nat.reduceAdd] at hc
      repeat' (first | (go_big_may; (first
    | ((first
        | (refine loud_ rfl ?_; refine wpList_plain rfl (fun K hK => ?_); (first | (refine op_box _ _ rfl H (fun b w' H1 => hK _ _ ?_)) | (refine op_alloc _ rfl (zero_of _ _ rfl) H (fun b w' H1 => hK _ _ ?_)) | (refine op_store _ _ _ rfl rfl rfl H (by repeat (first | exact Split.here _ _ | apply Split.there)) (by kernel_rfl) (by kernel_rfl) (by kernel_rfl) (fun w' H1 => hK _ _ ?_)) | (refine op_buildSlice_all _ _ _ rfl (by first | exact elem22 | exact elem60 | exact elem66 | exact elem72 | exact elem74) (by kernel_rfl) (by kernel_rfl) (by kernel_rfl) H (fun b w' H1 => hK _ _ ?_))); clear hK K; replace H := H1; clear H1)); (try clear hc); (try simp only [nrm, splice, Value.cells, Nat.reduceAdd, Act.eval, Act.put] at H); have hc := H.cells; simp only [CellsOf, KnCells, knc, Nat.reduceAdd] at hc))) | go_values | go_skip | go_guarded | go_step | go_upon | go_back | dsimp only)
      go_ret
      exact ⟨es, clock, hset, rfl, H.top1⟩
set_option maxHeartbeats 400000 in
set_option maxRecDepth 8000 in
theorem snew_calls (src : Option Addr) (ks : List Int) (n c : Nat) (hn : Hid (ks.length = n)) (hnn : n ≤ 2147483647) (w : World) (H : St [] w w [(false, soft src (intsN ks))]) :
    Calls Tryz.prog 13 #[.slice src n c] w fun e w' => ∃ m es clock, Hid (SetI es clock (insAll [] ks)) ∧ e = .returned (.map (some m)) ∧ St [] w w' [(true, .is m (.map es clock))] := by
  go_enter Tryz.func13, Tryz.ntmps13
  repeat' (first | (go_big_may; (first
    | go_skip
    | ((first
        | (go_at_call 38; refine Calls.mono (insert_calls _ m #[] 0 [] src ks n c (setM_nil _ _) hn hnn _ (H.pick (by repeat (first | exact Picks.nil _ | (apply Picks.wr; focus (repeat (first | exact Split.here _ _ | apply Split.there))) | (apply Picks.rd; focus (repeat (first | exact Split.here _ _ | apply Split.there))))))) ?_; rintro e w' ⟨es', clock', hset', rfl, H'⟩; replace H := H.merge (by first | exact Strikes.nil _ | (repeat (first | exact Strikes.nil _ | (apply Strikes.cons; focus (repeat (first | exact Split.here _ _ | apply Split.there)))))) H' rfl; clear H')
        | (refine loud_ rfl ?_; refine wpList_plain rfl (fun K hK => ?_); (first | (refine op_makeMap _ rfl H (fun m w' H1 => hK _ _ ?_)) | (refine op_box _ _ rfl H (fun b w' H1 => hK _ _ ?_)) | (refine op_alloc _ rfl (zero_of _ _ rfl) H (fun b w' H1 => hK _ _ ?_)) | (refine op_store _ _ _ rfl rfl rfl H (by repeat (first | exact Split.here _ _ | apply Split.there)) (by kernel_rfl) (by kernel_rfl) (by kernel_rfl) (fun w' H1 => hK _ _ ?_)) | (refine op_buildSlice_all _ _ _ rfl (by first | exact elem22 | exact elem60 | exact elem66 | exact elem72 | exact elem74) (by kernel_rfl) (by kernel_rfl) (by kernel_rfl) H (fun b w' H1 => hK _ _ ?_))); clear hK K; replace H := H1; clear H1)); (try clear hc); (try simp only [nrm, splice, Value.cells, Nat.reduceAdd, Act.eval, Act.put] at H); have hc := H.cells; simp only [CellsOf, KnCells, knc, Nat.reduceAdd] at hc))) | go_values | go_skip | go_guarded | go_step | go_upon | go_back | dsimp only)
  go_ret
  exact ⟨m, es', clock', hset', rfl, H.sel (by repeat (first | exact Sel.nil _ | (apply Sel.cons; focus (repeat (first | exact Split.here _ _ | apply Split.there)))))⟩
set_option maxHeartbeats 400000 in
set_option maxRecDepth 8000 in
theorem has_calls (m clock : Nat) (es : Array MapEntry) (l : List Int) (k : Int) (hl : Hid (SetI es clock l)) (w : World) (hm : w.heap[m]? = some (.map es clock)) :
    Calls Tryz.prog 42 #[.map (some m), .int .i64 k] w fun e w' => e = .returned (.bool (decide (k ∈ l))) ∧ Ext [] w w' := by
  have H : St [] w w [(false, .is m (.map es clock))] := (St.init [] w).read _ hm (by simp)
  go_enter Tryz.func42, Tryz.ntmps42
  repeat' (first | (go_big_may; (first
    | go_skip
    | (refine wpList_plain rfl (fun K hK => ?_); refine op_has _ _ _ _ _ rfl setU keyN zeroE rfl rfl (H.obj (by repeat (first | exact Split.here _ _ | apply Split.there))) hl.out (hK _ _ ?_); clear hK K)
    | ((first
        | (refine loud_ rfl ?_; refine wpList_plain rfl (fun K hK => ?_); (first | (refine op_box _ _ rfl H (fun b w' H1 => hK _ _ ?_)) | (refine op_alloc _ rfl (zero_of _ _ rfl) H (fun b w' H1 => hK _ _ ?_)) | (refine op_store _ _ _ rfl rfl rfl H (by repeat (first | exact Split.here _ _ | apply Split.there)) (by kernel_rfl) (by kernel_rfl) (by kernel_rfl) (fun w' H1 => hK _ _ ?_)) | (refine op_buildSlice_all _ _ _ rfl (by first | exact elem22 | exact elem60 | exact elem66 | exact elem72 | exact elem74) (by kernel_rfl) (by kernel_rfl) (by kernel_rfl) H (fun b w' H1 => hK _ _ ?_))); clear hK K; replace H := H1; clear H1)); (try clear hc); (try simp only [nrm, splice, Value.cells, Nat.reduceAdd, Act.eval, Act.put] at H); have hc := H.cells; simp only [CellsOf, KnCells, knc, Nat.reduceAdd] at hc))) | go_values | go_skip | go_guarded | go_step | go_upon | go_back | dsimp only)
  go_ret
  exact ⟨rfl, H.ext⟩
end Go.Proofs.YtikaldcoakpfoaaGreatDoor
