import Derived.Test.YtelddhcggmfloaaCkC
-- MORE
-- SUB2
namespace Go.Proofs.Ytelddhcggmfloaa
set_option linter.unusedVariables false
set_option linter.unusedSimpArgs false
set_option linter.unnecessarySimpa false
open Go Go.RowKit Go.V

/-! Hashes from the greatest revision down. -/
def cmp3 (a b : Int) : Int := if a < b then -1 else if b < a then 1 else 0
set_option maxRecDepth 8000 in
theorem nan_calls (x : Int) (w : World) : Calls Try.prog 68 #[.int .i64 x] w fun e w' => e = .returned (.bool false) ∧ Ext [] w w' := by
  have H := St.init [] w
  go_enter Try.func68, Try.ntmps68
  repeat' (first | (go_big_may; (first
    | ((first
        | (refine loud_ rfl ?_; refine wpList_plain rfl (fun K hK => ?_); (first | (refine op_box _ _ rfl H (fun b w' H1 => hK _ _ ?_)) | (refine op_alloc _ rfl (zero_of _ _ rfl) H (fun b w' H1 => hK _ _ ?_)) | (refine op_store _ _ _ rfl rfl rfl H (by repeat (first | exact Split.here _ _ | apply Split.there)) (by kernel_rfl) (by kernel_rfl) (by kernel_rfl) (fun w' H1 => hK _ _ ?_)) | (refine op_buildSlice_all _ _ _ rfl (by first | exact elem25 | exact elem32 | exact elem35 | exact elem36 | exact elem37 | exact elem38 | exact elem41 | exact elem42 | exact elem45 | exact elem57 | exact elem62 | exact elem74 | exact elem98 | exact elem100 | exact elem137 | exact elem178 | exact elem179) (by kernel_rfl) (by kernel_rfl) (by kernel_rfl) H (fun b w' H1 => hK _ _ ?_))); clear hK K; replace H := H1; clear H1)); (try clear hc); (try simp only [nrm, splice, Value.cells, Nat.reduceAdd, Act.eval, Act.put] at H); have hc := H.cells; simp only [CellsOf, KnCells, knc, Nat.reduceAdd] at hc))) | go_values | go_skip | go_guarded | go_step | go_upon | go_back | dsimp only)
  go_ret
  exact ⟨by simp, H.ext⟩
set_option maxRecDepth 8000 in
theorem compare_calls (a b : Int) (w : World) : Calls Try.prog 59 #[.int .i64 a, .int .i64 b] w fun e w' => e = .returned (.int .i64 (cmp3 a b)) ∧ Ext [] w w' := by
  have H := St.init [] w
  by_cases h1 : a < b
  · have hx : cmp3 a b = -1 := by simp [cmp3, h1]
    rw [hx]
    go_enter Try.func59, Try.ntmps59
    repeat' (first | (go_big_may; (first
    | go_skip
    | ((first
        | (go_at_call 68; refine Calls.mono (nan_calls _ _) ?_; rintro e w' ⟨rfl, H'⟩; replace H := H.of_ext H'; clear H')
        | (refine loud_ rfl ?_; refine wpList_plain rfl (fun K hK => ?_); (first | (refine op_box _ _ rfl H (fun b w' H1 => hK _ _ ?_)) | (refine op_alloc _ rfl (zero_of _ _ rfl) H (fun b w' H1 => hK _ _ ?_)) | (refine op_store _ _ _ rfl rfl rfl H (by repeat (first | exact Split.here _ _ | apply Split.there)) (by kernel_rfl) (by kernel_rfl) (by kernel_rfl) (fun w' H1 => hK _ _ ?_)) | (refine op_buildSlice_all _ _ _ rfl (by first | exact elem25 | exact elem32 | exact elem35 | exact elem36 | exact elem37 | exact elem38 | exact elem41 | exact elem42 | exact elem45 | exact elem57 | exact elem62 | exact elem74 | exact elem98 | exact elem100 | exact elem137 | exact elem178 | exact elem179) (by kernel_rfl) (by kernel_rfl) (by kernel_rfl) H (fun b w' H1 => hK _ _ ?_))); clear hK K; replace H := H1; clear H1)); (try clear hc); (try simp only [nrm, splice, Value.cells, Nat.reduceAdd, Act.eval, Act.put] at H); have hc := H.cells; simp only [CellsOf, KnCells, knc, Nat.reduceAdd] at hc))) | go_values | go_skip | go_guarded | go_step | go_upon | go_back | dsimp only)
    go_ret
    exact ⟨rfl, H.ext⟩
  · by_cases h2 : b < a
    · have hx : cmp3 a b = 1 := by simp [cmp3, h1, h2]
      rw [hx]
      go_enter Try.func59, Try.ntmps59
      repeat' (first | (go_big_may; (first
    | go_skip
    | ((first
        | (go_at_call 68; refine Calls.mono (nan_calls _ _) ?_; rintro e w' ⟨rfl, H'⟩; replace H := H.of_ext H'; clear H')
        | (refine loud_ rfl ?_; refine wpList_plain rfl (fun K hK => ?_); (first | (refine op_box _ _ rfl H (fun b w' H1 => hK _ _ ?_)) | (refine op_alloc _ rfl (zero_of _ _ rfl) H (fun b w' H1 => hK _ _ ?_)) | (refine op_store _ _ _ rfl rfl rfl H (by repeat (first | exact Split.here _ _ | apply Split.there)) (by kernel_rfl) (by kernel_rfl) (by kernel_rfl) (fun w' H1 => hK _ _ ?_)) | (refine op_buildSlice_all _ _ _ rfl (by first | exact elem25 | exact elem32 | exact elem35 | exact elem36 | exact elem37 | exact elem38 | exact elem41 | exact elem42 | exact elem45 | exact elem57 | exact elem62 | exact elem74 | exact elem98 | exact elem100 | exact elem137 | exact elem178 | exact elem179) (by kernel_rfl) (by kernel_rfl) (by kernel_rfl) H (fun b w' H1 => hK _ _ ?_))); clear hK K; replace H := H1; clear H1)); (try clear hc); (try simp only [nrm, splice, Value.cells, Nat.reduceAdd, Act.eval, Act.put] at H); have hc := H.cells; simp only [CellsOf, KnCells, knc, Nat.reduceAdd] at hc))) | go_values | go_skip | go_guarded | go_step | go_upon | go_back | dsimp only)
      go_ret
      exact ⟨rfl, H.ext⟩
    · have hx : cmp3 a b = 0 := by simp [cmp3, h1, h2]
      rw [hx]
      go_enter Try.func59, Try.ntmps59
      repeat' (first | (go_big_may; (first
    | go_skip
    | ((first
        | (go_at_call 68; refine Calls.mono (nan_calls _ _) ?_; rintro e w' ⟨rfl, H'⟩; replace H := H.of_ext H'; clear H')
        | (refine loud_ rfl ?_; refine wpList_plain rfl (fun K hK => ?_); (first | (refine op_box _ _ rfl H (fun b w' H1 => hK _ _ ?_)) | (refine op_alloc _ rfl (zero_of _ _ rfl) H (fun b w' H1 => hK _ _ ?_)) | (refine op_store _ _ _ rfl rfl rfl H (by repeat (first | exact Split.here _ _ | apply Split.there)) (by kernel_rfl) (by kernel_rfl) (by kernel_rfl) (fun w' H1 => hK _ _ ?_)) | (refine op_buildSlice_all _ _ _ rfl (by first | exact elem25 | exact elem32 | exact elem35 | exact elem36 | exact elem37 | exact elem38 | exact elem41 | exact elem42 | exact elem45 | exact elem57 | exact elem62 | exact elem74 | exact elem98 | exact elem100 | exact elem137 | exact elem178 | exact elem179) (by kernel_rfl) (by kernel_rfl) (by kernel_rfl) H (fun b w' H1 => hK _ _ ?_))); clear hK K; replace H := H1; clear H1)); (try clear hc); (try simp only [nrm, splice, Value.cells, Nat.reduceAdd, Act.eval, Act.put] at H); have hc := H.cells; simp only [CellsOf, KnCells, knc, Nat.reduceAdd] at hc))) | go_values | go_skip | go_guarded | go_step | go_upon | go_back | dsimp only)
      go_ret
      exact ⟨rfl, H.ext⟩
set_option maxRecDepth 8000 in
theorem less_calls (a b : KH) (w : World) : Calls Try.prog 58 #[a.val, b.val] w fun e w' => e = .returned (.int .i64 (cmp3 b.rev a.rev)) ∧ Ext [] w w' := by
  have H := St.init [] w
  obtain ⟨ah, ac, ar⟩ := a
  obtain ⟨bh, bc, br⟩ := b
  go_enter Try.func58, Try.ntmps58
  repeat' (first | (go_big_may; (first
    | go_skip
    | ((first
        | (go_at_call 59; refine Calls.mono (compare_calls _ _ _) ?_; rintro e w' ⟨rfl, H'⟩; replace H := H.of_ext H'; clear H')
        | (refine loud_ rfl ?_; refine wpList_plain rfl (fun K hK => ?_); (first | (refine op_box _ _ rfl H (fun b w' H1 => hK _ _ ?_)) | (refine op_alloc _ rfl (zero_of _ _ rfl) H (fun b w' H1 => hK _ _ ?_)) | (refine op_store _ _ _ rfl rfl rfl H (by repeat (first | exact Split.here _ _ | apply Split.there)) (by kernel_rfl) (by kernel_rfl) (by kernel_rfl) (fun w' H1 => hK _ _ ?_)) | (refine op_buildSlice_all _ _ _ rfl (by first | exact elem25 | exact elem32 | exact elem35 | exact elem36 | exact elem37 | exact elem38 | exact elem41 | exact elem42 | exact elem45 | exact elem57 | exact elem62 | exact elem74 | exact elem98 | exact elem100 | exact elem137 | exact elem178 | exact elem179) (by kernel_rfl) (by kernel_rfl) (by kernel_rfl) H (fun b w' H1 => hK _ _ ?_))); clear hK K; replace H := H1; clear H1)); (try clear hc); (try simp only [nrm, splice, Value.cells, Nat.reduceAdd, Act.eval, Act.put] at H); have hc := H.cells; simp only [CellsOf, KnCells, knc, Nat.reduceAdd] at hc))) | go_values | go_skip | go_guarded | go_step | go_upon | go_back | dsimp only)
  go_ret
  exact ⟨rfl, H.ext⟩
def rv (l : List KH) (k : Nat) : Int := match l[k]? with
  | some h => h.rev
  | none => 0
def SortedTo (l : List KH) (i : Nat) : Prop := ∀ a b, a < b → b < i → rv l b ≤ rv l a
def Inv (l : List KH) (i j : Nat) : Prop := ∀ a b, a < b → b ≤ i → (a ≠ j → b ≠ j → rv l b ≤ rv l a) ∧ (a = j → rv l b ≤ rv l a)
theorem inv_start {l : List KH} {i : Nat} (h : SortedTo l i) : Inv l i i := fun a b hab hb => ⟨fun _ h2 => h a b hab (by omega), fun h2 => by omega⟩
theorem inv_end0 {l : List KH} {i : Nat} (h : Inv l i 0) : SortedTo l (i + 1) := by
  intro a b hab hb
  by_cases ha : a = 0
  · exact (h a b hab (by omega)).2 ha
  · exact (h a b hab (by omega)).1 ha (by omega)
theorem inv_end {l : List KH} {i j : Nat} (h : Inv l i (j + 1)) (hji : j + 1 ≤ i) (hle : rv l (j + 1) ≤ rv l j) : SortedTo l (i + 1) := by
  intro a b hab hb
  by_cases ha : a = j + 1
  · exact (h a b hab (by omega)).2 ha
  · by_cases hb2 : b = j + 1
    · subst hb2
      by_cases ha2 : a = j
      · subst ha2
        exact hle
      · exact Int.le_trans hle ((h a j (by omega) (by omega)).1 (by omega) (by omega))
    · exact (h a b hab (by omega)).1 ha hb2
theorem rv_mid {P Q : List KH} {x y : KH} (k : Nat) : rv (P ++ x :: y :: Q) k = if k = P.length then x.rev else if k = P.length + 1 then y.rev else if k < P.length then rv P k else rv Q (k - (P.length + 2)) := by
  unfold rv
  by_cases h1 : k = P.length
  · subst h1
    simp
  · by_cases h2 : k = P.length + 1
    · subst h2
      simp
    · rw [if_neg h1, if_neg h2]
      by_cases h3 : k < P.length
      · rw [if_pos h3, List.getElem?_append_left h3]
      · rw [if_neg h3, List.getElem?_append_right (by omega)]
        obtain ⟨d, hd⟩ : ∃ d, k - P.length = d + 2 := ⟨k - P.length - 2, by omega⟩
        rw [hd, List.getElem?_cons_succ, List.getElem?_cons_succ, show k - (P.length + 2) = d by omega]
theorem inv_swap {P Q : List KH} {x y : KH} {i : Nat} (h : Inv (P ++ x :: y :: Q) i (P.length + 1)) (hlt : x.rev < y.rev) : Inv (P ++ y :: x :: Q) i P.length := by
  have e1 : rv (P ++ x :: y :: Q) P.length = x.rev := by rw [rv_mid]; simp
  have e2 : rv (P ++ x :: y :: Q) (P.length + 1) = y.rev := by rw [rv_mid]; simp
  have f1 : rv (P ++ y :: x :: Q) P.length = y.rev := by rw [rv_mid]; simp
  have f2 : rv (P ++ y :: x :: Q) (P.length + 1) = x.rev := by rw [rv_mid]; simp
  have g : ∀ k, k ≠ P.length → k ≠ P.length + 1 → rv (P ++ y :: x :: Q) k = rv (P ++ x :: y :: Q) k := by
    intro k h1 h2
    rw [rv_mid, rv_mid, if_neg h1, if_neg h2, if_neg h1, if_neg h2]
  intro a b hab hb
  refine ⟨fun ha hb2 => ?_, fun ha => ?_⟩
  · by_cases a1 : a = P.length + 1
    · subst a1
      rw [f2, g b (by omega) (by omega), ← e1]
      exact (h P.length b (by omega) hb).1 (by omega) (by omega)
    · by_cases b1 : b = P.length + 1
      · subst b1
        rw [f2, g a (by omega) (by omega), ← e1]
        exact (h a P.length (by omega) (by omega)).1 (by omega) (by omega)
      · rw [g a ha a1, g b hb2 b1]
        exact (h a b hab hb).1 a1 b1
  · subst ha
    rw [f1]
    by_cases b1 : b = P.length + 1
    · subst b1
      rw [f2]
      omega
    · rw [g b (by omega) b1, ← e2]
      exact (h (P.length + 1) b (by omega) hb).2 rfl
theorem split2 {l : List KH} {j : Nat} (h : j + 1 < l.length) : ∃ P x y Q, l = P ++ x :: y :: Q ∧ P.length = j := by
  refine ⟨l.take j, l[j], l[j + 1], l.drop (j + 2), ?_, by simp; omega⟩
  rw [show l[j + 1] :: l.drop (j + 2) = l.drop (j + 1) from (List.drop_eq_getElem_cons h).symm]
  rw [show l[j] :: l.drop (j + 1) = l.drop j from (List.drop_eq_getElem_cons (by omega)).symm]
  exact (List.take_append_drop j l).symm
theorem kh_flat (P : List KH) : (P.flatMap KH.cells).length = P.length * 3 := by
  induction P with
  | nil => rfl
  | cons a l ih => rw [List.flatMap_cons, List.length_append, ih, List.length_cons]; show 3 + _ = _; omega
theorem swap_flat {pf xc yc qf : List Value} {j : Nat} (hp : pf.length = j * 3) (hx : xc.length = 3) (hy : yc.length = 3) :
    (((pf ++ (xc ++ (yc ++ qf))).take ((j + 1) * 3) ++ xc ++ (pf ++ (xc ++ (yc ++ qf))).drop ((j + 1) * 3 + 3)).take (j * 3) ++ yc ++
      ((pf ++ (xc ++ (yc ++ qf))).take ((j + 1) * 3) ++ xc ++ (pf ++ (xc ++ (yc ++ qf))).drop ((j + 1) * 3 + 3)).drop (j * 3 + 3)) = pf ++ (yc ++ (xc ++ qf)) := by
  have h1 : (pf ++ (xc ++ (yc ++ qf))).take ((j + 1) * 3) = pf ++ xc := by
    rw [← List.append_assoc, List.take_append_of_le_length (by simp; omega), List.take_of_length_le (by simp; omega)]
  have h2 : (pf ++ (xc ++ (yc ++ qf))).drop ((j + 1) * 3 + 3) = qf := by
    rw [← List.append_assoc, ← List.append_assoc, List.drop_append_of_le_length (by simp; omega), List.drop_of_length_le (by simp; omega), List.nil_append]
  rw [h1, h2]
  have h3 : (pf ++ xc ++ xc ++ qf).take (j * 3) = pf := by
    rw [List.append_assoc, List.append_assoc, List.take_append_of_le_length (by omega), List.take_of_length_le (by omega)]
  have h4 : (pf ++ xc ++ xc ++ qf).drop (j * 3 + 3) = xc ++ qf := by
    rw [List.append_assoc (pf ++ xc), List.drop_append_of_le_length (by simp; omega), List.drop_of_length_le (by simp; omega), List.nil_append]
  rw [h3, h4]
  simp
end Go.Proofs.Ytelddhcggmfloaa
