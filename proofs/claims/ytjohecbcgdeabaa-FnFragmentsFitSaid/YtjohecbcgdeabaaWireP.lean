import Derived.Test.YtjohecbcgdeabaaWireO
namespace Go.Proofs.Ytjohecbcgdeabaa
set_option linter.unusedVariables false
set_option linter.unusedSimpArgs false
set_option linter.unnecessarySimpa false
open Go.RowKit Go.V

theorem isArr {S : List Nat} {w0 w : World} {L A B : List Ent} {b : Nat} {cs : Array Value} {T : TypeId} {fr : Nat × Nat} (h : St S w0 w L) (hs : Split L (true, .is b (.cells cs T fr)) A B) : St S w0 w (A ++ (true, .arr (some ⟨b, 0, none⟩) cs.toList) :: B) := by
  refine h.turn hs (Ext.refl _ _) ⟨rfl, lt_of_get (h.obj hs), fun j hj => ?_⟩ rfl
  rw [cell_of_row w b (0 + j) _ _ _ (h.obj hs), Nat.zero_add]
  simp

theorem rspl_pos (d : WSd) : 1 ≤ rspl d := by unfold rspl partl; omega
theorem cuts_one {d : WSd} {hi : Nat} {l : List (Nat × Nat)} (h : Cuts 1 d hi l) : l = (List.range hi).map fun i => (i, 1) := by
  induction h with
  | nil => rfl
  | @snoc lo j l h h1 h2 h3 h4 ih =>
    have hj : j = 1 := by
      rcases Nat.lt_or_ge 1 j with hj | hj
      · have := rspl_pos (part d lo j true)
        have := h3 hj
        omega
      · omega
    subst hj
    rw [ih, List.range_succ, List.map_append]
    rfl
theorem cut_two {d : WSd} {l : List (Nat × Nat × Bool)} (h : Cut 1 d l) (hn : d.events.length = 2) : l = [(0, 1, true), (1, 1, false)] := by
  rcases h with ⟨_, h | h⟩ | ⟨l0, lo, h, hlo, h1, rfl, _⟩
  · have := rspl_pos d
    omega
  · omega
  · rw [hn] at hlo h1 ⊢
    have hlo' : lo = 1 := by
      rcases Nat.lt_or_ge 1 (2 - lo) with hj | hj
      · have := rspl_pos (part d lo (2 - lo) true)
        have := h1 hj
        omega
      · omega
    subst hlo'
    rw [cuts_one h]
    rfl

theorem two_of {α : Type} (l : List α) (h : l.length = 2) : ∃ a b, l = [a, b] := by
  match l, h with
  | [a, b], _ => exact ⟨a, b, rfl⟩

def liveKv (k : ByteArray) : KVd := ⟨k, ByteArray.empty, 0, 0, 0, 0⟩
def liveD : WSd := ⟨0, 0, 0, false, false, false, ByteArray.empty, [⟨false, liveKv ⟨#[97]⟩, false, zeroKv⟩, ⟨false, liveKv ⟨#[98]⟩, false, zeroKv⟩]⟩
theorem liveD_short : liveD.Short := by
  refine ⟨by decide, by decide, ?_⟩
  intro e he
  simp only [liveD, List.mem_cons, List.not_mem_nil, or_false] at he
  rcases he with rfl | rfl <;> exact ⟨⟨by decide, by decide⟩, by decide, by decide⟩

set_option maxRecDepth 4000 in
set_option maxHeartbeats 2000000 in
theorem frLive_calls (w : World) : Calls Try.prog 7 #[] w fun e w' => e = .returned (.bool true) ∧ St [] w w' [] := by
  have H := St.init [] w
  go_enter Try.func7, Try.ntmps7
  go_wp2_with (first
    | (refine loud_ rfl ?_; refine wpList_plain rfl (fun K hK => ?_); first
      | (refine op_buildSlice_all _ _ _ rfl elem22 (by kernel_rfl) (by kernel_rfl) (by kernel_rfl) H (fun be w' H1 => hK _ _ ?_); clear hK K; replace H := H1; clear H1; (try clear hc); (try simp only [List.nil_append, List.cons_append, List.append_assoc, splice, Value.cells, List.take_succ_cons, List.take_zero, List.drop_succ_cons, List.drop_zero, List.length_cons, List.length_nil, List.size_toArray, Nat.zero_add, Nat.reduceAdd, Act.eval, Array.getD_eq_getD_getElem?, List.getElem?_toArray, List.getElem?_cons_succ, List.getElem?_cons_zero, Option.getD_some, List.flatMap_cons, List.flatMap_nil, List.append_nil, Act.put, List.setIfInBounds_toArray, List.set_cons_succ, List.set_cons_zero] at H); have hc := H.cells; simp only [CellsOf, KnCells] at hc)
      | (refine op_box _ _ rfl H (fun b w' H1 => hK _ _ ?_); clear hK K; replace H := H1; clear H1; (try clear hc); (try simp only [List.nil_append, List.cons_append, List.append_assoc, splice, Value.cells, List.take_succ_cons, List.take_zero, List.drop_succ_cons, List.drop_zero, List.length_cons, List.length_nil, List.size_toArray, Nat.zero_add, Nat.reduceAdd, Act.eval, Array.getD_eq_getD_getElem?, List.getElem?_toArray, List.getElem?_cons_succ, List.getElem?_cons_zero, Option.getD_some, List.flatMap_cons, List.flatMap_nil, List.append_nil, Act.put, List.setIfInBounds_toArray, List.set_cons_succ, List.set_cons_zero] at H); have hc := H.cells; simp only [CellsOf, KnCells] at hc)
      | (refine op_alloc _ rfl (zero_of _ _ rfl) H (fun b w' H1 => hK _ _ ?_); clear hK K; replace H := H1; clear H1; (try clear hc); (try simp only [List.nil_append, List.cons_append, List.append_assoc, splice, Value.cells, List.take_succ_cons, List.take_zero, List.drop_succ_cons, List.drop_zero, List.length_cons, List.length_nil, List.size_toArray, Nat.zero_add, Nat.reduceAdd, Act.eval, Array.getD_eq_getD_getElem?, List.getElem?_toArray, List.getElem?_cons_succ, List.getElem?_cons_zero, Option.getD_some, List.flatMap_cons, List.flatMap_nil, List.append_nil, Act.put, List.setIfInBounds_toArray, List.set_cons_succ, List.set_cons_zero] at H); have hc := H.cells; simp only [CellsOf, KnCells] at hc)
      | (refine op_store _ _ _ rfl rfl rfl H (by repeat (first | exact Split.here _ _ | apply Split.there)) (by kernel_rfl) (by kernel_rfl) (by kernel_rfl) (fun w' H1 => hK _ _ ?_); clear hK K; replace H := H1; clear H1; (try clear hc); (try simp only [List.nil_append, List.cons_append, List.append_assoc, splice, Value.cells, List.take_succ_cons, List.take_zero, List.drop_succ_cons, List.drop_zero, List.length_cons, List.length_nil, List.size_toArray, Nat.zero_add, Nat.reduceAdd, Act.eval, Array.getD_eq_getD_getElem?, List.getElem?_toArray, List.getElem?_cons_succ, List.getElem?_cons_zero, Option.getD_some, List.flatMap_cons, List.flatMap_nil, List.append_nil, Act.put, List.setIfInBounds_toArray, List.set_cons_succ, List.set_cons_zero] at H); have hc := H.cells; simp only [CellsOf, KnCells] at hc)
      | (refine op_buildSlice_all _ _ _ rfl (by first | exact elem22 | exact elem28 | exact elem44 | exact elem53 | exact elem59) (by kernel_rfl) (by kernel_rfl) (by kernel_rfl) H (fun b w' H1 => hK _ _ ?_); clear hK K; replace H := H1; clear H1; (try clear hc); (try simp only [List.nil_append, List.cons_append, List.append_assoc, splice, Value.cells, List.take_succ_cons, List.take_zero, List.drop_succ_cons, List.drop_zero, List.length_cons, List.length_nil, List.size_toArray, Nat.zero_add, Nat.reduceAdd, Act.eval, Array.getD_eq_getD_getElem?, List.getElem?_toArray, List.getElem?_cons_succ, List.getElem?_cons_zero, Option.getD_some, List.flatMap_cons, List.flatMap_nil, List.append_nil, Act.put, List.setIfInBounds_toArray, List.set_cons_succ, List.set_cons_zero] at H); have hc := H.cells; simp only [CellsOf, KnCells] at hc)))
  have H1 : St [] w w' [(true, .arr (some ⟨be, 0, none⟩) (liveD.events.flatMap EVd.cells))] := (isArr H (Split.there _ (Split.here _ _))).sel (by repeat (first | exact Sel.nil _ | (apply Sel.cons; focus (repeat (first | exact Split.here _ _ | apply Split.there)))))
  refine Calls.mono (fragments_calls liveD (some ⟨be, 0, none⟩) 2 1 (by decide : (1 : Nat) ≤ 1073741824) _ (H1.pick (Picks.rd (.here _ _) (Picks.nil _))) liveD_short) ?_
  rintro e w' ⟨okey, ocap, os, fp, ⟨l, hcut, hod⟩, hol, rfl, H'⟩
  replace H := H.merge (.nil _) H' rfl
  clear H' H1
  rw [cut_two hcut rfl] at hod
  obtain ⟨o1, o2, rfl⟩ := two_of os (by simpa using congrArg List.length hod)
  have h1 : o1.d.fragment = true := by
    have := (List.cons.inj hod).1
    rw [this]
    rfl
  have h2 : o2.d.fragment = false := by
    have := (List.cons.inj (List.cons.inj hod).2).1
    rw [this]
    rfl
  clear hod hcut
  obtain ⟨kb, rfl⟩ : ∃ kb, okey = some kb := by
    have h := H.get (Split.here _ _)
    cases okey with
    | none =>
      have : ([o1, o2] : List Out).length = 0 := h.1
      simp at this
    | some kb => exact ⟨kb, rfl⟩
  have hc5 : w'.cell? ⟨kb, 5, none⟩ = some (.bool true) := by
    rw [row_cell (H.get (Split.here _ _)) 5 (by simp)]
    simp [Out.cells, h1]
  have hc13 : w'.cell? ⟨kb, 13, none⟩ = some (.bool false) := by
    rw [row_cell (H.get (Split.here _ _)) 13 (by simp)]
    simp [Out.cells, h2]
  rw [show sl (some kb) ([o1, o2] : List Out).length ocap = .slice (some ⟨kb, 0, none⟩) 2 ocap from rfl]
  clear hc
  go_wp2_with (first
    | (refine loud_ rfl ?_; refine wpList_plain rfl (fun K hK => ?_); first
      | (refine op_box _ _ rfl H (fun b w' H1 => hK _ _ ?_); clear hK K; replace H := H1; clear H1; (try clear hc); (try simp only [List.nil_append, List.cons_append, List.append_assoc, splice, Value.cells, List.take_succ_cons, List.take_zero, List.drop_succ_cons, List.drop_zero, List.length_cons, List.length_nil, List.size_toArray, Nat.zero_add, Nat.reduceAdd, Act.eval, Array.getD_eq_getD_getElem?, List.getElem?_toArray, List.getElem?_cons_succ, List.getElem?_cons_zero, Option.getD_some, List.flatMap_cons, List.flatMap_nil, List.append_nil, Act.put, List.setIfInBounds_toArray, List.set_cons_succ, List.set_cons_zero] at H); have hc := H.cells; simp only [CellsOf, KnCells] at hc)
      | (refine op_alloc _ rfl (zero_of _ _ rfl) H (fun b w' H1 => hK _ _ ?_); clear hK K; replace H := H1; clear H1; (try clear hc); (try simp only [List.nil_append, List.cons_append, List.append_assoc, splice, Value.cells, List.take_succ_cons, List.take_zero, List.drop_succ_cons, List.drop_zero, List.length_cons, List.length_nil, List.size_toArray, Nat.zero_add, Nat.reduceAdd, Act.eval, Array.getD_eq_getD_getElem?, List.getElem?_toArray, List.getElem?_cons_succ, List.getElem?_cons_zero, Option.getD_some, List.flatMap_cons, List.flatMap_nil, List.append_nil, Act.put, List.setIfInBounds_toArray, List.set_cons_succ, List.set_cons_zero] at H); have hc := H.cells; simp only [CellsOf, KnCells] at hc)
      | (refine op_store _ _ _ rfl rfl rfl H (by repeat (first | exact Split.here _ _ | apply Split.there)) (by kernel_rfl) (by kernel_rfl) (by kernel_rfl) (fun w' H1 => hK _ _ ?_); clear hK K; replace H := H1; clear H1; (try clear hc); (try simp only [List.nil_append, List.cons_append, List.append_assoc, splice, Value.cells, List.take_succ_cons, List.take_zero, List.drop_succ_cons, List.drop_zero, List.length_cons, List.length_nil, List.size_toArray, Nat.zero_add, Nat.reduceAdd, Act.eval, Array.getD_eq_getD_getElem?, List.getElem?_toArray, List.getElem?_cons_succ, List.getElem?_cons_zero, Option.getD_some, List.flatMap_cons, List.flatMap_nil, List.append_nil, Act.put, List.setIfInBounds_toArray, List.set_cons_succ, List.set_cons_zero] at H); have hc := H.cells; simp only [CellsOf, KnCells] at hc)
      | (refine op_buildSlice_all _ _ _ rfl (by first | exact elem22 | exact elem28 | exact elem44 | exact elem53 | exact elem59) (by kernel_rfl) (by kernel_rfl) (by kernel_rfl) H (fun b w' H1 => hK _ _ ?_); clear hK K; replace H := H1; clear H1; (try clear hc); (try simp only [List.nil_append, List.cons_append, List.append_assoc, splice, Value.cells, List.take_succ_cons, List.take_zero, List.drop_succ_cons, List.drop_zero, List.length_cons, List.length_nil, List.size_toArray, Nat.zero_add, Nat.reduceAdd, Act.eval, Array.getD_eq_getD_getElem?, List.getElem?_toArray, List.getElem?_cons_succ, List.getElem?_cons_zero, Option.getD_some, List.flatMap_cons, List.flatMap_nil, List.append_nil, Act.put, List.setIfInBounds_toArray, List.set_cons_succ, List.set_cons_zero] at H); have hc := H.cells; simp only [CellsOf, KnCells] at hc)))
  go_ret
  exact ⟨rfl, H.top0⟩
end Go.Proofs.Ytjohecbcgdeabaa
