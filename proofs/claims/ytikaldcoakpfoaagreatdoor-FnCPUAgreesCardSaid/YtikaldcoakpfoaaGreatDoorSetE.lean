import Derived.Test.YtikaldcoakpfoaaGreatDoorSetC
import Derived.Test.YtikaldcoakpfoaaGreatDoorCpuT
import Derived.Deep.DeepCutAuto
-- MORE
-- SUB2
namespace Go.Proofs.YtikaldcoakpfoaaGreatDoor
set_option linter.unusedVariables false
set_option linter.unusedSimpArgs false
set_option linter.unnecessarySimpa false
open Go Go.RowKit Go.V Go.Lib

def AtIx (n : Nat) (vs : List Int) (x : Int) (src : Option Addr) (w : World) (i : Value) (wr : World) : Prop := ∃ j : Nat, i = .int .i64 j ∧ j ≤ n ∧ Hid (x ∉ vs.take j) ∧ St [] w wr [(false, soft src (intsN vs))]
set_option maxRecDepth 8000 in
set_option maxHeartbeats 1000000 in
theorem index_calls (vs : List Int) (x : Int) (src : Option Addr) (n c : Nat) (hn : Hid (vs.length = n)) (hl : n ≤ 2147483647) (w : World) (H : St [] w w [(false, soft src (intsN vs))]) :
    Calls Tryz.prog 45 #[.slice src n c, .int .i64 x] w fun e w' => ∃ k : Int, Hid (decide (0 ≤ k) = decide (x ∈ vs)) ∧ e = .returned (.int .i64 k) ∧ Ext [] w w' := by
  go_enter Tryz.func45, Tryz.ntmps45
  repeat' (first | (go_big_may; (first
    | ((first
        | (refine loud_ rfl ?_; refine wpList_plain rfl (fun K hK => ?_); (first | (refine op_box _ _ rfl H (fun b w' H1 => hK _ _ ?_)) | (refine op_alloc _ rfl (zero_of _ _ rfl) H (fun b w' H1 => hK _ _ ?_)) | (refine op_store _ _ _ rfl rfl rfl H (by repeat (first | exact Split.here _ _ | apply Split.there)) (by kernel_rfl) (by kernel_rfl) (by kernel_rfl) (fun w' H1 => hK _ _ ?_)) | (refine op_buildSlice_all _ _ _ rfl (by first | exact elem22 | exact elem60 | exact elem66 | exact elem72 | exact elem74) (by kernel_rfl) (by kernel_rfl) (by kernel_rfl) H (fun b w' H1 => hK _ _ ?_))); clear hK K; replace H := H1; clear H1)); (try clear hc); (try simp only [nrm, splice, Value.cells, Nat.reduceAdd, Act.eval, Act.put] at H); have hc := H.cells; simp only [CellsOf, KnCells, knc, Nat.reduceAdd] at hc))) | go_values | go_skip | go_guarded | go_step | go_upon | go_back | dsimp only)
  go_loopw [8] (AtIx n vs x src w) (fun i _ => n - (intOf i).toNat)
  case atStart => exact ⟨0, rfl, Nat.zero_le _, Lib.hid (by simp), H⟩
  case round =>
    clear H
    obtain ⟨j, rfl, hj, hno, H⟩ := hrel
    by_cases hlt : j < n
    · have hj' : j < vs.length := by rw [hn.out]; exact hlt
      have hcat : Hid (vs.take (j + 1) = vs.take j ++ [vs[j]]) := (List.take_append_getElem hj').symm
      have hkm : Hid (vs[j] ∈ vs) := List.getElem_mem hj'
      obtain ⟨b1, o1, rfl, H1⟩ := H.elemSoft (Split.here _ _) j [ki vs[j]] (by show 0 < 1; omega) (by rw [intsN_len, hn.out]; show j + 1 ≤ n; omega) (by intro i hi; obtain rfl : i = 0 := (by simpa using hi); simp [intsN, hj'])
      clear H
      have H := H1
      clear H1
      generalize vs[j] = y at *
      clear hj'
      by_cases e1 : x = y
      · subst e1
        have hc := H.cells; simp only [CellsOf, KnCells, knc, Nat.reduceAdd] at hc
        repeat' (first | (go_big_may; (first
    | ((first
        | (refine loud_ rfl ?_; refine wpList_plain rfl (fun K hK => ?_); (first | (refine op_box _ _ rfl H (fun b w' H1 => hK _ _ ?_)) | (refine op_alloc _ rfl (zero_of _ _ rfl) H (fun b w' H1 => hK _ _ ?_)) | (refine op_store _ _ _ rfl rfl rfl H (by repeat (first | exact Split.here _ _ | apply Split.there)) (by kernel_rfl) (by kernel_rfl) (by kernel_rfl) (fun w' H1 => hK _ _ ?_)) | (refine op_buildSlice_all _ _ _ rfl (by first | exact elem22 | exact elem60 | exact elem66 | exact elem72 | exact elem74) (by kernel_rfl) (by kernel_rfl) (by kernel_rfl) H (fun b w' H1 => hK _ _ ?_))); clear hK K; replace H := H1; clear H1)); (try clear hc); (try simp only [nrm, splice, Value.cells, Nat.reduceAdd, Act.eval, Act.put] at H); have hc := H.cells; simp only [CellsOf, KnCells, knc, Nat.reduceAdd] at hc))) | go_values | go_skip | go_guarded | go_step | go_upon | go_back | dsimp only)
        go_ret
        exact ⟨j, Lib.hid (by rw [decide_eq_true hkm.out, decide_eq_true]; omega), rfl, H.ext⟩
      · have e2 := Lib.hid e1
        have hc := H.cells; simp only [CellsOf, KnCells, knc, Nat.reduceAdd] at hc
        repeat' (first | (go_big_may; (first
    | ((first
        | (refine loud_ rfl ?_; refine wpList_plain rfl (fun K hK => ?_); (first | (refine op_box _ _ rfl H (fun b w' H1 => hK _ _ ?_)) | (refine op_alloc _ rfl (zero_of _ _ rfl) H (fun b w' H1 => hK _ _ ?_)) | (refine op_store _ _ _ rfl rfl rfl H (by repeat (first | exact Split.here _ _ | apply Split.there)) (by kernel_rfl) (by kernel_rfl) (by kernel_rfl) (fun w' H1 => hK _ _ ?_)) | (refine op_buildSlice_all _ _ _ rfl (by first | exact elem22 | exact elem60 | exact elem66 | exact elem72 | exact elem74) (by kernel_rfl) (by kernel_rfl) (by kernel_rfl) H (fun b w' H1 => hK _ _ ?_))); clear hK K; replace H := H1; clear H1)); (try clear hc); (try simp only [nrm, splice, Value.cells, Nat.reduceAdd, Act.eval, Act.put] at H); have hc := H.cells; simp only [CellsOf, KnCells, knc, Nat.reduceAdd] at hc))) | go_values | go_skip | go_guarded | go_step | go_upon | go_back | dsimp only)
        refine ⟨⟨j + 1, by go_num, by omega, ?_, H.sel (by repeat (first | exact Sel.nil _ | (apply Sel.cons; focus (repeat (first | exact Split.here _ _ | apply Split.there)))))⟩, by simp [intOf]; omega⟩
        show x ∉ _
        rw [hcat.out, List.mem_append, List.mem_singleton]
        exact fun h => h.elim hno.out e2.out
    · obtain rfl : j = n := by omega
      rw [List.take_of_length_le (by rw [hn.out]; exact Nat.le_refl _)] at hno
      have hc := H.cells; simp only [CellsOf, KnCells, knc, Nat.reduceAdd] at hc
      repeat' (first | (go_big_may; (first
    | ((first
        | (refine loud_ rfl ?_; refine wpList_plain rfl (fun K hK => ?_); (first | (refine op_box _ _ rfl H (fun b w' H1 => hK _ _ ?_)) | (refine op_alloc _ rfl (zero_of _ _ rfl) H (fun b w' H1 => hK _ _ ?_)) | (refine op_store _ _ _ rfl rfl rfl H (by repeat (first | exact Split.here _ _ | apply Split.there)) (by kernel_rfl) (by kernel_rfl) (by kernel_rfl) (fun w' H1 => hK _ _ ?_)) | (refine op_buildSlice_all _ _ _ rfl (by first | exact elem22 | exact elem60 | exact elem66 | exact elem72 | exact elem74) (by kernel_rfl) (by kernel_rfl) (by kernel_rfl) H (fun b w' H1 => hK _ _ ?_))); clear hK K; replace H := H1; clear H1)); (try clear hc); (try simp only [nrm, splice, Value.cells, Nat.reduceAdd, Act.eval, Act.put] at H); have hc := H.cells; simp only [CellsOf, KnCells, knc, Nat.reduceAdd] at hc))) | go_values | go_skip | go_guarded | go_step | go_upon | go_back | dsimp only)
      go_ret
      exact ⟨-1, Lib.hid (by rw [decide_eq_false hno.out]; rfl), rfl, H.ext⟩
set_option maxRecDepth 8000 in
set_option maxHeartbeats 1000000 in
theorem contains_calls (vs : List Int) (x : Int) (src : Option Addr) (n c : Nat) (hn : Hid (vs.length = n)) (hl : n ≤ 2147483647) (w : World) (H : St [] w w [(false, soft src (intsN vs))]) :
    Calls Tryz.prog 26 #[.slice src n c, .int .i64 x] w fun e w' => e = .returned (.bool (decide (x ∈ vs))) ∧ Ext [] w w' := by
  go_enter Tryz.func26, Tryz.ntmps26
  repeat' (first | (go_big_may; (first
    | ((first
        | (refine loud_ rfl ?_; refine wpList_plain rfl (fun K hK => ?_); (first | (refine op_box _ _ rfl H (fun b w' H1 => hK _ _ ?_)) | (refine op_alloc _ rfl (zero_of _ _ rfl) H (fun b w' H1 => hK _ _ ?_)) | (refine op_store _ _ _ rfl rfl rfl H (by repeat (first | exact Split.here _ _ | apply Split.there)) (by kernel_rfl) (by kernel_rfl) (by kernel_rfl) (fun w' H1 => hK _ _ ?_)) | (refine op_buildSlice_all _ _ _ rfl (by first | exact elem22 | exact elem60 | exact elem66 | exact elem72 | exact elem74) (by kernel_rfl) (by kernel_rfl) (by kernel_rfl) H (fun b w' H1 => hK _ _ ?_))); clear hK K; replace H := H1; clear H1)); (try clear hc); (try simp only [nrm, splice, Value.cells, Nat.reduceAdd, Act.eval, Act.put] at H); have hc := H.cells; simp only [CellsOf, KnCells, knc, Nat.reduceAdd] at hc))) | go_values | go_skip | go_guarded | go_step | go_upon | go_back | dsimp only)
  go_at_call 45
  refine Calls.mono (index_calls vs x src n c hn hl _ (H.pick (by repeat (first | exact Picks.nil _ | (apply Picks.wr; focus (repeat (first | exact Split.here _ _ | apply Split.there))) | (apply Picks.rd; focus (repeat (first | exact Split.here _ _ | apply Split.there))))))) ?_
  rintro e9 w' ⟨k, hk, rfl, H'⟩
  replace H := H.of_ext H'
  clear H'
  (try clear hc)
  (try simp only [nrm, splice, Value.cells, Nat.reduceAdd, Act.eval, Act.put] at H); have hc := H.cells; simp only [CellsOf, KnCells, knc, Nat.reduceAdd] at hc
  repeat' (first | (go_big_may; (first
    | ((first
        | (refine loud_ rfl ?_; refine wpList_plain rfl (fun K hK => ?_); (first | (refine op_box _ _ rfl H (fun b w' H1 => hK _ _ ?_)) | (refine op_alloc _ rfl (zero_of _ _ rfl) H (fun b w' H1 => hK _ _ ?_)) | (refine op_store _ _ _ rfl rfl rfl H (by repeat (first | exact Split.here _ _ | apply Split.there)) (by kernel_rfl) (by kernel_rfl) (by kernel_rfl) (fun w' H1 => hK _ _ ?_)) | (refine op_buildSlice_all _ _ _ rfl (by first | exact elem22 | exact elem60 | exact elem66 | exact elem72 | exact elem74) (by kernel_rfl) (by kernel_rfl) (by kernel_rfl) H (fun b w' H1 => hK _ _ ?_))); clear hK K; replace H := H1; clear H1)); (try clear hc); (try simp only [nrm, splice, Value.cells, Nat.reduceAdd, Act.eval, Act.put] at H); have hc := H.cells; simp only [CellsOf, KnCells, knc, Nat.reduceAdd] at hc))) | go_values | go_skip | go_guarded | go_step | go_upon | go_back | dsimp only)
  go_ret
  exact ⟨by rw [← hk.out]; rfl, H.ext⟩
theorem one_intsN : ∀ (l : List Int), One (intsN l)
  | [] => One.nil
  | _ :: l => One.cons rfl (one_intsN l)
def bothP (a b : List Int) (f s t : Bool) (x : Int) : Bool := (decide (x ∈ a) && decide (x ∈ b) && t) || (decide (x ∈ a) && !decide (x ∈ b) && f) || (!decide (x ∈ a) && decide (x ∈ b) && s)
def both (a b : List Int) (f s t : Bool) : List Int := (rising (a ++ b)).filter (bothP a b f s t)
theorem both_strict (a b : List Int) (f s t : Bool) : (both a b f s t).Pairwise (· < ·) := (rising_facts (a ++ b)).1.filter _
theorem both_mem (a b : List Int) (f s t : Bool) (x : Int) : x ∈ both a b f s t ↔ (x ∈ a ∧ x ∈ b ∧ t = true) ∨ (x ∈ a ∧ x ∉ b ∧ f = true) ∨ (x ∉ a ∧ x ∈ b ∧ s = true) := by
  unfold both
  rw [List.mem_filter, (rising_facts (a ++ b)).2, List.mem_append]
  unfold bothP
  by_cases h1 : x ∈ a <;> by_cases h2 : x ∈ b <;> simp [h1, h2]
/-- What a set holds is what the reference reckons. -/
theorem both_sort {lr a b : List Int} {f s t : Bool} (hn : lr.Nodup) (hm : ∀ x, x ∈ lr ↔ (x ∈ a ∧ x ∈ b ∧ t = true) ∨ (x ∈ a ∧ x ∉ b ∧ f = true) ∨ (x ∉ a ∧ x ∈ b ∧ s = true)) : sortI lr = both a b f s t :=
  strict_eq (sortI_strict hn) (both_strict a b f s t) (fun x => by rw [(sortI_perm lr).mem_iff, hm, both_mem])
def AtBo (w : World) (a b rs : List Int) (f s t : Bool) (sa sb sr : Option Addr) (ov i : Value) (wr : World) : Prop := ∃ (j k cap : Nat) (key : Option Nat), i = .int .i64 j ∧ j ≤ rs.length ∧ k ≤ j ∧ ov = sl key k cap ∧ Hid (k = ((rs.take j).filter (bothP a b f s t)).length) ∧
  St [] w wr [(true, .row key 3 1 k cap (intsN ((rs.take j).filter (bothP a b f s t)))), (false, soft sr (intsN rs)), (false, soft sa (intsN a)), (false, soft sb (intsN b))]
set_option maxRecDepth 8000 in
set_option maxHeartbeats 4000000 in
theorem both_calls (a b : List Int) (f s t : Bool) (sa sb : Option Addr) (na ca nb cb : Nat) (hna : Hid (a.length = na)) (hnb : Hid (b.length = nb)) (h1 : na ≤ 300) (h2 : nb ≤ 300) (w : World) (H : St [] w w [(false, soft sa (intsN a)), (false, soft sb (intsN b))]) :
    Calls Tryz.prog 8 #[.slice sa na ca, .slice sb nb cb, .bool f, .bool s, .bool t] w fun e w' => ∃ key n cap, Hid (n = (both a b f s t).length) ∧ n ≤ 600 ∧ e = .returned (sl key n cap) ∧ St [] w w' [(true, .row key 3 1 n cap (intsN (both a b f s t)))] := by
  have hnil : Hid (sb = none → nb = 0) := by
    intro h
    have h3 := (H.lies (s := sb) (xs := intsN b) (by repeat (first | exact Split.here _ _ | apply Split.there))).1 h
    have h4 := hnb.out
    rw [← h4, ← intsN_len, h3]
    rfl
  have hone : One (intsN b) := one_intsN b
  go_enter Tryz.func8, Tryz.ntmps8
  repeat' (first | (go_big_may; (first
    | go_skip
    | ((first
        | (go_at_call 25; refine Calls.mono (clone_calls sa a na ca hna (by omega) _ (H.pick (by repeat (first | exact Picks.nil _ | (apply Picks.wr; focus (repeat (first | exact Split.here _ _ | apply Split.there))) | (apply Picks.rd; focus (repeat (first | exact Split.here _ _ | apply Split.there))))))) ?_; rintro e w' ⟨key, cap, rfl, H'⟩; replace H := H.merge (by first | exact Strikes.nil _ | (repeat (first | exact Strikes.nil _ | (apply Strikes.cons; focus (repeat (first | exact Split.here _ _ | apply Split.there)))))) H' rfl; clear H')
        | (refine loud_ rfl ?_; refine wpList_plain rfl (fun K hK => ?_); (first | (refine op_append_lies _ _ _ rfl elem22 (ys := intsN b) rfl rfl H (by repeat (first | exact Split.here _ _ | apply Split.there)) (H.lies (s := sb) (by repeat (first | exact Split.here _ _ | apply Split.there))) (by rw [intsN_len, hnb.out]; omega) hnil.out hone (by omega) (by unfold maxLen; omega) (fun key2 cap2 w' H1 => hK _ _ ?_)) | (refine op_box _ _ rfl H (fun b w' H1 => hK _ _ ?_)) | (refine op_alloc _ rfl (zero_of _ _ rfl) H (fun b w' H1 => hK _ _ ?_)) | (refine op_store _ _ _ rfl rfl rfl H (by repeat (first | exact Split.here _ _ | apply Split.there)) (by kernel_rfl) (by kernel_rfl) (by kernel_rfl) (fun w' H1 => hK _ _ ?_)) | (refine op_buildSlice_all _ _ _ rfl (by first | exact elem22 | exact elem60 | exact elem66 | exact elem72 | exact elem74) (by kernel_rfl) (by kernel_rfl) (by kernel_rfl) H (fun b w' H1 => hK _ _ ?_))); clear hK K; replace H := H1; clear H1)); (try clear hc); (try simp only [nrm, splice, Value.cells, Nat.reduceAdd, Act.eval, Act.put] at H); have hc := H.cells; simp only [CellsOf, KnCells, knc, Nat.reduceAdd] at hc))) | go_values | go_skip | go_guarded | go_step | go_upon | go_back | dsimp only)
  have hcl : Hid ((a ++ b).length = na + nb) := by show _ = _; rw [List.length_append, hna.out, hnb.out]
  have happ : intsN a ++ intsN b = intsN (a ++ b) := by simp [intsN]
  rw [happ] at H
  replace H := H.rowSoft (key := key2) (by repeat (first | exact Split.here _ _ | apply Split.there))
  (try simp only [List.append, List.cons_append, List.nil_append] at H)
  (try simp only [show sl key2 (na + nb) cap2 = Value.slice (key2.map fun b => (⟨b, 0, none⟩ : Addr)) (na + nb) cap2 from rfl])
  generalize (key2.map fun b => (⟨b, 0, none⟩ : Addr)) = s2 at *
  clear hc happ
  generalize hab : a ++ b = ab at *
  have hab2 := Lib.hid hab
  clear hab
  have hc := H.cells; simp only [CellsOf, KnCells, knc, Nat.reduceAdd] at hc
  repeat' (first | (go_big_may; (first
    | go_skip
    | ((first
        | (go_at_call 24; refine Calls.mono (rising_calls s2 ab (na + nb) cap2 hcl (by omega) _ (H.pick (by repeat (first | exact Picks.nil _ | (apply Picks.wr; focus (repeat (first | exact Split.here _ _ | apply Split.there))) | (apply Picks.rd; focus (repeat (first | exact Split.here _ _ | apply Split.there))))))) ?_; rintro e w' ⟨rkey, rn, rcap, hrn, hrle, rfl, H'⟩; replace H := H.merge (by first | exact Strikes.nil _ | (repeat (first | exact Strikes.nil _ | (apply Strikes.cons; focus (repeat (first | exact Split.here _ _ | apply Split.there)))))) H' rfl; clear H')
        | (refine loud_ rfl ?_; refine wpList_plain rfl (fun K hK => ?_); (first | (refine op_box _ _ rfl H (fun b w' H1 => hK _ _ ?_)) | (refine op_alloc _ rfl (zero_of _ _ rfl) H (fun b w' H1 => hK _ _ ?_)) | (refine op_store _ _ _ rfl rfl rfl H (by repeat (first | exact Split.here _ _ | apply Split.there)) (by kernel_rfl) (by kernel_rfl) (by kernel_rfl) (fun w' H1 => hK _ _ ?_)) | (refine op_buildSlice_all _ _ _ rfl (by first | exact elem22 | exact elem60 | exact elem66 | exact elem72 | exact elem74) (by kernel_rfl) (by kernel_rfl) (by kernel_rfl) H (fun b w' H1 => hK _ _ ?_))); clear hK K; replace H := H1; clear H1)); (try clear hc); (try simp only [nrm, splice, Value.cells, Nat.reduceAdd, Act.eval, Act.put] at H); have hc := H.cells; simp only [CellsOf, KnCells, knc, Nat.reduceAdd] at hc))) | go_values | go_skip | go_guarded | go_step | go_upon | go_back | dsimp only)
  have hbdef : Hid (both a b f s t = (rising ab).filter (bothP a b f s t)) := by show _ = _; unfold both; rw [hab2.out]
  have hrall : Hid (∀ x ∈ rising ab, x ∈ a ∨ x ∈ b) := by
    intro x hx
    have := (rising_facts ab).2 x
    rw [← hab2.out, List.mem_append] at this
    rw [hab2.out] at this
    exact this.1 hx
  generalize rising ab = rs at *
  replace H := H.rowSoft (key := rkey) (by repeat (first | exact Split.here _ _ | apply Split.there))
  (try simp only [List.append, List.cons_append, List.nil_append] at H)
  (try simp only [show sl rkey rn rcap = Value.slice (rkey.map fun b => (⟨b, 0, none⟩ : Addr)) rn rcap from rfl])
  generalize (rkey.map fun b => (⟨b, 0, none⟩ : Addr)) = sr at *
  have hrs : Hid (rs.length = rn) := hrn.out.symm
  have H0 : St [] w w' [(true, .row none 3 1 0 0 (intsN ((rs.take 0).filter (bothP a b f s t)))), (false, soft sr (intsN rs)), (false, soft sa (intsN a)), (false, soft sb (intsN b))] := (H.nilRow _ _).sel (by repeat (first | exact Sel.nil _ | (apply Sel.cons; focus (repeat (first | exact Split.here _ _ | apply Split.there)))))
  clear H
  (try clear hc)
  go_loopw [11, 22] (AtBo w a b rs f s t sa sb sr) (fun _ i _ => rn - (intOf i).toNat)
  case atStart => exact ⟨0, 0, 0, none, rfl, Nat.zero_le _, Nat.le_refl _, rfl, rfl, H0⟩
  case round =>
    clear H0
    obtain ⟨j, k, cap, key, rfl, hj, hkj, rfl, hk, H⟩ := hrel
    rw [hrs.out] at hj
    by_cases hlt : j < rn
    · have hj' : j < rs.length := by rw [hrs.out]; exact hlt
      have hcat : Hid (rs.take (j + 1) = rs.take j ++ [rs[j]]) := (List.take_append_getElem hj').symm
      obtain ⟨b1, o1, rfl, H1⟩ := H.elemSoft (Split.there _ (Split.here _ _)) j [ki rs[j]] (by show 0 < 1; omega) (by rw [intsN_len, hrs.out]; show j + 1 ≤ rn; omega) (by intro i hi; obtain rfl : i = 0 := (by simpa using hi); simp [intsN, hj'])
      clear H
      have H := H1
      clear H1
      generalize rs[j] = x at *
      clear hj'
      generalize hfl : (rs.take j).filter (bothP a b f s t) = fl at *
      have hfl2 := Lib.hid hfl
      clear hfl
      have hskip : bothP a b f s t x = false → (rs.take (j + 1)).filter (bothP a b f s t) = fl := by
        intro h
        rw [hcat.out, List.filter_append, hfl2.out]
        simp [h]
      have htake : bothP a b f s t x = true → (rs.take (j + 1)).filter (bothP a b f s t) = fl ++ [x] := by
        intro h
        rw [hcat.out, List.filter_append, hfl2.out]
        simp [h]
      replace hskip := Lib.hid hskip
      replace htake := Lib.hid htake
      by_cases ha : x ∈ a
      · by_cases hb : x ∈ b
        · cases t with
          | true =>
            have hq : bothP a b f s true x = true := by simp [bothP, ha, hb]
            have hd1 : decide (x ∈ a) = true := by simpa using ha
            have hd2 : decide (x ∈ b) = true := by simpa using hb
            have hq2 := Lib.hid (htake.out hq)
            clear hq hskip htake
            replace ha := Lib.hid ha
            replace hb := Lib.hid hb
            have hc := H.cells; simp only [CellsOf, KnCells, knc, Nat.reduceAdd] at hc
            repeat' (first | (go_big_may; (first
    | go_skip
    | ((first
        | (go_at_call 26; refine Calls.mono (contains_calls a x sa na ca hna (by omega) _ (H.pick (by repeat (first | exact Picks.nil _ | (apply Picks.wr; focus (repeat (first | exact Split.here _ _ | apply Split.there))) | (apply Picks.rd; focus (repeat (first | exact Split.here _ _ | apply Split.there))))))) ?_; rintro e w' ⟨rfl, H'⟩; replace H := H.of_ext H'; clear H')
        | (go_at_call 26; refine Calls.mono (contains_calls b x sb nb cb hnb (by omega) _ (H.pick (by repeat (first | exact Picks.nil _ | (apply Picks.wr; focus (repeat (first | exact Split.here _ _ | apply Split.there))) | (apply Picks.rd; focus (repeat (first | exact Split.here _ _ | apply Split.there))))))) ?_; rintro e w' ⟨rfl, H'⟩; replace H := H.of_ext H'; clear H')
        | (refine loud_ rfl ?_; refine wpList_plain rfl (fun K hK => ?_); (first | (refine op_append_lit _ _ _ rfl elem22 rfl rfl H (by repeat (first | exact Split.here _ _ | apply Split.there)) (by repeat (first | exact Split.here _ _ | apply Split.there)) (by kernel_rfl) (by kernel_rfl) (by omega) (by unfold maxLen; omega) (fun key cap' w' H1 => hK _ _ ?_)) | (refine op_box _ _ rfl H (fun b w' H1 => hK _ _ ?_)) | (refine op_alloc _ rfl (zero_of _ _ rfl) H (fun b w' H1 => hK _ _ ?_)) | (refine op_store _ _ _ rfl rfl rfl H (by repeat (first | exact Split.here _ _ | apply Split.there)) (by kernel_rfl) (by kernel_rfl) (by kernel_rfl) (fun w' H1 => hK _ _ ?_)) | (refine op_buildSlice_all _ _ _ rfl (by first | exact elem22 | exact elem60 | exact elem66 | exact elem72 | exact elem74) (by kernel_rfl) (by kernel_rfl) (by kernel_rfl) H (fun b w' H1 => hK _ _ ?_))); clear hK K; replace H := H1; clear H1)); (try clear hc); (try simp only [nrm, splice, Value.cells, Nat.reduceAdd, Act.eval, Act.put] at H); have hc := H.cells; simp only [CellsOf, KnCells, knc, Nat.reduceAdd] at hc))) | go_values | go_skip | go_guarded | go_step | go_upon | go_back | dsimp only)
            refine ⟨⟨j + 1, k + 1, _, _, by go_num, by rw [hrs.out]; omega, by omega, rfl, (by show k + 1 = _; rw [hq2.out, List.length_append, ← hk.out]; rfl), ?_⟩, by simp [intOf]; omega⟩
            rw [hq2.out, show intsN (fl ++ [x]) = intsN fl ++ [ki x] by simp [intsN]]
            exact H.sel (by repeat (first | exact Sel.nil _ | (apply Sel.cons; focus (repeat (first | exact Split.here _ _ | apply Split.there)))))
          | false =>
            have hq : bothP a b f s false x = false := by simp [bothP, ha, hb]
            have hd1 : decide (x ∈ a) = true := by simpa using ha
            have hd2 : decide (x ∈ b) = true := by simpa using hb
            have hq2 := Lib.hid (hskip.out hq)
            clear hq hskip htake
            replace ha := Lib.hid ha
            replace hb := Lib.hid hb
            have hc := H.cells; simp only [CellsOf, KnCells, knc, Nat.reduceAdd] at hc
            repeat' (first | (go_big_may; (first
    | go_skip
    | ((first
        | (go_at_call 26; refine Calls.mono (contains_calls a x sa na ca hna (by omega) _ (H.pick (by repeat (first | exact Picks.nil _ | (apply Picks.wr; focus (repeat (first | exact Split.here _ _ | apply Split.there))) | (apply Picks.rd; focus (repeat (first | exact Split.here _ _ | apply Split.there))))))) ?_; rintro e w' ⟨rfl, H'⟩; replace H := H.of_ext H'; clear H')
        | (go_at_call 26; refine Calls.mono (contains_calls b x sb nb cb hnb (by omega) _ (H.pick (by repeat (first | exact Picks.nil _ | (apply Picks.wr; focus (repeat (first | exact Split.here _ _ | apply Split.there))) | (apply Picks.rd; focus (repeat (first | exact Split.here _ _ | apply Split.there))))))) ?_; rintro e w' ⟨rfl, H'⟩; replace H := H.of_ext H'; clear H')
        | (refine loud_ rfl ?_; refine wpList_plain rfl (fun K hK => ?_); (first | (refine op_box _ _ rfl H (fun b w' H1 => hK _ _ ?_)) | (refine op_alloc _ rfl (zero_of _ _ rfl) H (fun b w' H1 => hK _ _ ?_)) | (refine op_store _ _ _ rfl rfl rfl H (by repeat (first | exact Split.here _ _ | apply Split.there)) (by kernel_rfl) (by kernel_rfl) (by kernel_rfl) (fun w' H1 => hK _ _ ?_)) | (refine op_buildSlice_all _ _ _ rfl (by first | exact elem22 | exact elem60 | exact elem66 | exact elem72 | exact elem74) (by kernel_rfl) (by kernel_rfl) (by kernel_rfl) H (fun b w' H1 => hK _ _ ?_))); clear hK K; replace H := H1; clear H1)); (try clear hc); (try simp only [nrm, splice, Value.cells, Nat.reduceAdd, Act.eval, Act.put] at H); have hc := H.cells; simp only [CellsOf, KnCells, knc, Nat.reduceAdd] at hc))) | go_values | go_skip | go_guarded | go_step | go_upon | go_back | dsimp only)
            refine ⟨⟨j + 1, k, _, _, by go_num, by rw [hrs.out]; omega, by omega, rfl, (by show k = _; rw [hq2.out, ← hk.out]), ?_⟩, by simp [intOf]; omega⟩
            rw [hq2.out]
            exact H.sel (by repeat (first | exact Sel.nil _ | (apply Sel.cons; focus (repeat (first | exact Split.here _ _ | apply Split.there)))))
        · cases f with
          | true =>
            have hq : bothP a b true s t x = true := by simp [bothP, ha, hb]
            have hd1 : decide (x ∈ a) = true := by simpa using ha
            have hd2 : decide (x ∈ b) = false := by simpa using hb
            have hq2 := Lib.hid (htake.out hq)
            clear hq hskip htake
            replace ha := Lib.hid ha
            replace hb := Lib.hid hb
            have hc := H.cells; simp only [CellsOf, KnCells, knc, Nat.reduceAdd] at hc
            repeat' (first | (go_big_may; (first
    | go_skip
    | ((first
        | (go_at_call 26; refine Calls.mono (contains_calls a x sa na ca hna (by omega) _ (H.pick (by repeat (first | exact Picks.nil _ | (apply Picks.wr; focus (repeat (first | exact Split.here _ _ | apply Split.there))) | (apply Picks.rd; focus (repeat (first | exact Split.here _ _ | apply Split.there))))))) ?_; rintro e w' ⟨rfl, H'⟩; replace H := H.of_ext H'; clear H')
        | (go_at_call 26; refine Calls.mono (contains_calls b x sb nb cb hnb (by omega) _ (H.pick (by repeat (first | exact Picks.nil _ | (apply Picks.wr; focus (repeat (first | exact Split.here _ _ | apply Split.there))) | (apply Picks.rd; focus (repeat (first | exact Split.here _ _ | apply Split.there))))))) ?_; rintro e w' ⟨rfl, H'⟩; replace H := H.of_ext H'; clear H')
        | (refine loud_ rfl ?_; refine wpList_plain rfl (fun K hK => ?_); (first | (refine op_append_lit _ _ _ rfl elem22 rfl rfl H (by repeat (first | exact Split.here _ _ | apply Split.there)) (by repeat (first | exact Split.here _ _ | apply Split.there)) (by kernel_rfl) (by kernel_rfl) (by omega) (by unfold maxLen; omega) (fun key cap' w' H1 => hK _ _ ?_)) | (refine op_box _ _ rfl H (fun b w' H1 => hK _ _ ?_)) | (refine op_alloc _ rfl (zero_of _ _ rfl) H (fun b w' H1 => hK _ _ ?_)) | (refine op_store _ _ _ rfl rfl rfl H (by repeat (first | exact Split.here _ _ | apply Split.there)) (by kernel_rfl) (by kernel_rfl) (by kernel_rfl) (fun w' H1 => hK _ _ ?_)) | (refine op_buildSlice_all _ _ _ rfl (by first | exact elem22 | exact elem60 | exact elem66 | exact elem72 | exact elem74) (by kernel_rfl) (by kernel_rfl) (by kernel_rfl) H (fun b w' H1 => hK _ _ ?_))); clear hK K; replace H := H1; clear H1)); (try clear hc); (try simp only [nrm, splice, Value.cells, Nat.reduceAdd, Act.eval, Act.put] at H); have hc := H.cells; simp only [CellsOf, KnCells, knc, Nat.reduceAdd] at hc))) | go_values | go_skip | go_guarded | go_step | go_upon | go_back | dsimp only)
            refine ⟨⟨j + 1, k + 1, _, _, by go_num, by rw [hrs.out]; omega, by omega, rfl, (by show k + 1 = _; rw [hq2.out, List.length_append, ← hk.out]; rfl), ?_⟩, by simp [intOf]; omega⟩
            rw [hq2.out, show intsN (fl ++ [x]) = intsN fl ++ [ki x] by simp [intsN]]
            exact H.sel (by repeat (first | exact Sel.nil _ | (apply Sel.cons; focus (repeat (first | exact Split.here _ _ | apply Split.there)))))
          | false =>
            have hq : bothP a b false s t x = false := by simp [bothP, ha, hb]
            have hd1 : decide (x ∈ a) = true := by simpa using ha
            have hd2 : decide (x ∈ b) = false := by simpa using hb
            have hq2 := Lib.hid (hskip.out hq)
            clear hq hskip htake
            replace ha := Lib.hid ha
            replace hb := Lib.hid hb
            have hc := H.cells; simp only [CellsOf, KnCells, knc, Nat.reduceAdd] at hc
            repeat' (first | (go_big_may; (first
    | go_skip
    | ((first
        | (go_at_call 26; refine Calls.mono (contains_calls a x sa na ca hna (by omega) _ (H.pick (by repeat (first | exact Picks.nil _ | (apply Picks.wr; focus (repeat (first | exact Split.here _ _ | apply Split.there))) | (apply Picks.rd; focus (repeat (first | exact Split.here _ _ | apply Split.there))))))) ?_; rintro e w' ⟨rfl, H'⟩; replace H := H.of_ext H'; clear H')
        | (go_at_call 26; refine Calls.mono (contains_calls b x sb nb cb hnb (by omega) _ (H.pick (by repeat (first | exact Picks.nil _ | (apply Picks.wr; focus (repeat (first | exact Split.here _ _ | apply Split.there))) | (apply Picks.rd; focus (repeat (first | exact Split.here _ _ | apply Split.there))))))) ?_; rintro e w' ⟨rfl, H'⟩; replace H := H.of_ext H'; clear H')
        | (refine loud_ rfl ?_; refine wpList_plain rfl (fun K hK => ?_); (first | (refine op_box _ _ rfl H (fun b w' H1 => hK _ _ ?_)) | (refine op_alloc _ rfl (zero_of _ _ rfl) H (fun b w' H1 => hK _ _ ?_)) | (refine op_store _ _ _ rfl rfl rfl H (by repeat (first | exact Split.here _ _ | apply Split.there)) (by kernel_rfl) (by kernel_rfl) (by kernel_rfl) (fun w' H1 => hK _ _ ?_)) | (refine op_buildSlice_all _ _ _ rfl (by first | exact elem22 | exact elem60 | exact elem66 | exact elem72 | exact elem74) (by kernel_rfl) (by kernel_rfl) (by kernel_rfl) H (fun b w' H1 => hK _ _ ?_))); clear hK K; replace H := H1; clear H1)); (try clear hc); (try simp only [nrm, splice, Value.cells, Nat.reduceAdd, Act.eval, Act.put] at H); have hc := H.cells; simp only [CellsOf, KnCells, knc, Nat.reduceAdd] at hc))) | go_values | go_skip | go_guarded | go_step | go_upon | go_back | dsimp only)
            refine ⟨⟨j + 1, k, _, _, by go_num, by rw [hrs.out]; omega, by omega, rfl, (by show k = _; rw [hq2.out, ← hk.out]), ?_⟩, by simp [intOf]; omega⟩
            rw [hq2.out]
            exact H.sel (by repeat (first | exact Sel.nil _ | (apply Sel.cons; focus (repeat (first | exact Split.here _ _ | apply Split.there)))))
      · by_cases hb : x ∈ b
        · cases s with
          | true =>
            have hq : bothP a b f true t x = true := by simp [bothP, ha, hb]
            have hd1 : decide (x ∈ a) = false := by simpa using ha
            have hd2 : decide (x ∈ b) = true := by simpa using hb
            have hq2 := Lib.hid (htake.out hq)
            clear hq hskip htake
            replace ha := Lib.hid ha
            replace hb := Lib.hid hb
            have hc := H.cells; simp only [CellsOf, KnCells, knc, Nat.reduceAdd] at hc
            repeat' (first | (go_big_may; (first
    | go_skip
    | ((first
        | (go_at_call 26; refine Calls.mono (contains_calls a x sa na ca hna (by omega) _ (H.pick (by repeat (first | exact Picks.nil _ | (apply Picks.wr; focus (repeat (first | exact Split.here _ _ | apply Split.there))) | (apply Picks.rd; focus (repeat (first | exact Split.here _ _ | apply Split.there))))))) ?_; rintro e w' ⟨rfl, H'⟩; replace H := H.of_ext H'; clear H')
        | (go_at_call 26; refine Calls.mono (contains_calls b x sb nb cb hnb (by omega) _ (H.pick (by repeat (first | exact Picks.nil _ | (apply Picks.wr; focus (repeat (first | exact Split.here _ _ | apply Split.there))) | (apply Picks.rd; focus (repeat (first | exact Split.here _ _ | apply Split.there))))))) ?_; rintro e w' ⟨rfl, H'⟩; replace H := H.of_ext H'; clear H')
        | (refine loud_ rfl ?_; refine wpList_plain rfl (fun K hK => ?_); (first | (refine op_append_lit _ _ _ rfl elem22 rfl rfl H (by repeat (first | exact Split.here _ _ | apply Split.there)) (by repeat (first | exact Split.here _ _ | apply Split.there)) (by kernel_rfl) (by kernel_rfl) (by omega) (by unfold maxLen; omega) (fun key cap' w' H1 => hK _ _ ?_)) | (refine op_box _ _ rfl H (fun b w' H1 => hK _ _ ?_)) | (refine op_alloc _ rfl (zero_of _ _ rfl) H (fun b w' H1 => hK _ _ ?_)) | (refine op_store _ _ _ rfl rfl rfl H (by repeat (first | exact Split.here _ _ | apply Split.there)) (by kernel_rfl) (by kernel_rfl) (by kernel_rfl) (fun w' H1 => hK _ _ ?_)) | (refine op_buildSlice_all _ _ _ rfl (by first | exact elem22 | exact elem60 | exact elem66 | exact elem72 | exact elem74) (by kernel_rfl) (by kernel_rfl) (by kernel_rfl) H (fun b w' H1 => hK _ _ ?_))); clear hK K; replace H := H1; clear H1)); (try clear hc); (try simp only [nrm, splice, Value.cells, Nat.reduceAdd, Act.eval, Act.put] at H); have hc := H.cells; simp only [CellsOf, KnCells, knc, Nat.reduceAdd] at hc))) | go_values | go_skip | go_guarded | go_step | go_upon | go_back | dsimp only)
            refine ⟨⟨j + 1, k + 1, _, _, by go_num, by rw [hrs.out]; omega, by omega, rfl, (by show k + 1 = _; rw [hq2.out, List.length_append, ← hk.out]; rfl), ?_⟩, by simp [intOf]; omega⟩
            rw [hq2.out, show intsN (fl ++ [x]) = intsN fl ++ [ki x] by simp [intsN]]
            exact H.sel (by repeat (first | exact Sel.nil _ | (apply Sel.cons; focus (repeat (first | exact Split.here _ _ | apply Split.there)))))
          | false =>
            have hq : bothP a b f false t x = false := by simp [bothP, ha, hb]
            have hd1 : decide (x ∈ a) = false := by simpa using ha
            have hd2 : decide (x ∈ b) = true := by simpa using hb
            have hq2 := Lib.hid (hskip.out hq)
            clear hq hskip htake
            replace ha := Lib.hid ha
            replace hb := Lib.hid hb
            have hc := H.cells; simp only [CellsOf, KnCells, knc, Nat.reduceAdd] at hc
            repeat' (first | (go_big_may; (first
    | go_skip
    | ((first
        | (go_at_call 26; refine Calls.mono (contains_calls a x sa na ca hna (by omega) _ (H.pick (by repeat (first | exact Picks.nil _ | (apply Picks.wr; focus (repeat (first | exact Split.here _ _ | apply Split.there))) | (apply Picks.rd; focus (repeat (first | exact Split.here _ _ | apply Split.there))))))) ?_; rintro e w' ⟨rfl, H'⟩; replace H := H.of_ext H'; clear H')
        | (go_at_call 26; refine Calls.mono (contains_calls b x sb nb cb hnb (by omega) _ (H.pick (by repeat (first | exact Picks.nil _ | (apply Picks.wr; focus (repeat (first | exact Split.here _ _ | apply Split.there))) | (apply Picks.rd; focus (repeat (first | exact Split.here _ _ | apply Split.there))))))) ?_; rintro e w' ⟨rfl, H'⟩; replace H := H.of_ext H'; clear H')
        | (refine loud_ rfl ?_; refine wpList_plain rfl (fun K hK => ?_); (first | (refine op_box _ _ rfl H (fun b w' H1 => hK _ _ ?_)) | (refine op_alloc _ rfl (zero_of _ _ rfl) H (fun b w' H1 => hK _ _ ?_)) | (refine op_store _ _ _ rfl rfl rfl H (by repeat (first | exact Split.here _ _ | apply Split.there)) (by kernel_rfl) (by kernel_rfl) (by kernel_rfl) (fun w' H1 => hK _ _ ?_)) | (refine op_buildSlice_all _ _ _ rfl (by first | exact elem22 | exact elem60 | exact elem66 | exact elem72 | exact elem74) (by kernel_rfl) (by kernel_rfl) (by kernel_rfl) H (fun b w' H1 => hK _ _ ?_))); clear hK K; replace H := H1; clear H1)); (try clear hc); (try simp only [nrm, splice, Value.cells, Nat.reduceAdd, Act.eval, Act.put] at H); have hc := H.cells; simp only [CellsOf, KnCells, knc, Nat.reduceAdd] at hc))) | go_values | go_skip | go_guarded | go_step | go_upon | go_back | dsimp only)
            refine ⟨⟨j + 1, k, _, _, by go_num, by rw [hrs.out]; omega, by omega, rfl, (by show k = _; rw [hq2.out, ← hk.out]), ?_⟩, by simp [intOf]; omega⟩
            rw [hq2.out]
            exact H.sel (by repeat (first | exact Sel.nil _ | (apply Sel.cons; focus (repeat (first | exact Split.here _ _ | apply Split.there)))))
        · have hq : bothP a b f s t x = false := by simp [bothP, ha, hb]
          have hd1 : decide (x ∈ a) = false := by simpa using ha
          have hd2 : decide (x ∈ b) = false := by simpa using hb
          have hq2 := Lib.hid (hskip.out hq)
          clear hq hskip htake
          replace ha := Lib.hid ha
          replace hb := Lib.hid hb
          have hc := H.cells; simp only [CellsOf, KnCells, knc, Nat.reduceAdd] at hc
          repeat' (first | (go_big_may; (first
    | go_skip
    | ((first
        | (go_at_call 26; refine Calls.mono (contains_calls a x sa na ca hna (by omega) _ (H.pick (by repeat (first | exact Picks.nil _ | (apply Picks.wr; focus (repeat (first | exact Split.here _ _ | apply Split.there))) | (apply Picks.rd; focus (repeat (first | exact Split.here _ _ | apply Split.there))))))) ?_; rintro e w' ⟨rfl, H'⟩; replace H := H.of_ext H'; clear H')
        | (go_at_call 26; refine Calls.mono (contains_calls b x sb nb cb hnb (by omega) _ (H.pick (by repeat (first | exact Picks.nil _ | (apply Picks.wr; focus (repeat (first | exact Split.here _ _ | apply Split.there))) | (apply Picks.rd; focus (repeat (first | exact Split.here _ _ | apply Split.there))))))) ?_; rintro e w' ⟨rfl, H'⟩; replace H := H.of_ext H'; clear H')
        | (refine loud_ rfl ?_; refine wpList_plain rfl (fun K hK => ?_); (first | (refine op_box _ _ rfl H (fun b w' H1 => hK _ _ ?_)) | (refine op_alloc _ rfl (zero_of _ _ rfl) H (fun b w' H1 => hK _ _ ?_)) | (refine op_store _ _ _ rfl rfl rfl H (by repeat (first | exact Split.here _ _ | apply Split.there)) (by kernel_rfl) (by kernel_rfl) (by kernel_rfl) (fun w' H1 => hK _ _ ?_)) | (refine op_buildSlice_all _ _ _ rfl (by first | exact elem22 | exact elem60 | exact elem66 | exact elem72 | exact elem74) (by kernel_rfl) (by kernel_rfl) (by kernel_rfl) H (fun b w' H1 => hK _ _ ?_))); clear hK K; replace H := H1; clear H1)); (try clear hc); (try simp only [nrm, splice, Value.cells, Nat.reduceAdd, Act.eval, Act.put] at H); have hc := H.cells; simp only [CellsOf, KnCells, knc, Nat.reduceAdd] at hc))) | go_values | go_skip | go_guarded | go_step | go_upon | go_back | dsimp only)
          refine ⟨⟨j + 1, k, _, _, by go_num, by rw [hrs.out]; omega, by omega, rfl, (by show k = _; rw [hq2.out, ← hk.out]), ?_⟩, by simp [intOf]; omega⟩
          rw [hq2.out]
          exact H.sel (by repeat (first | exact Sel.nil _ | (apply Sel.cons; focus (repeat (first | exact Split.here _ _ | apply Split.there)))))
    · obtain rfl : j = rn := by omega
      rw [List.take_of_length_le (by rw [hrs.out]; exact Nat.le_refl _), ← hbdef.out] at hk H
      have hc := H.cells; simp only [CellsOf, KnCells, knc, Nat.reduceAdd] at hc
      repeat' (first | (go_big_may; (first
    | ((first
        | (refine loud_ rfl ?_; refine wpList_plain rfl (fun K hK => ?_); (first | (refine op_box _ _ rfl H (fun b w' H1 => hK _ _ ?_)) | (refine op_alloc _ rfl (zero_of _ _ rfl) H (fun b w' H1 => hK _ _ ?_)) | (refine op_store _ _ _ rfl rfl rfl H (by repeat (first | exact Split.here _ _ | apply Split.there)) (by kernel_rfl) (by kernel_rfl) (by kernel_rfl) (fun w' H1 => hK _ _ ?_)) | (refine op_buildSlice_all _ _ _ rfl (by first | exact elem22 | exact elem60 | exact elem66 | exact elem72 | exact elem74) (by kernel_rfl) (by kernel_rfl) (by kernel_rfl) H (fun b w' H1 => hK _ _ ?_))); clear hK K; replace H := H1; clear H1)); (try clear hc); (try simp only [nrm, splice, Value.cells, Nat.reduceAdd, Act.eval, Act.put] at H); have hc := H.cells; simp only [CellsOf, KnCells, knc, Nat.reduceAdd] at hc))) | go_values | go_skip | go_guarded | go_step | go_upon | go_back | dsimp only)
      go_ret
      exact ⟨key, k, cap, hk, by omega, rfl, H.top1⟩
end Go.Proofs.YtikaldcoakpfoaaGreatDoor
