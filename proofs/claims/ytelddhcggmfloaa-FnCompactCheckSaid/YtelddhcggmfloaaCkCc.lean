import Derived.Test.YtelddhcggmfloaaCkCb
-- MORE
-- SUB2
namespace Go.Proofs.Ytelddhcggmfloaa
set_option linter.unusedVariables false
set_option linter.unusedSimpArgs false
set_option linter.unnecessarySimpa false
open Go Go.RowKit Go.V

/-- The answers of one revision, as they lie. -/
def rowOf : List Int → List (Row Pr) → Int → Row Pr
  | v :: vs, r :: rs, x => if v = x then r else rowOf vs rs x
  | _, _, _ => ⟨none, 0, []⟩
theorem rowOf_list : ∀ (vs : List Int) (rs : List (Row Pr)) (x : Int), (rowOf vs rs x).list = prsAt vs rs x
  | [], _, _ => rfl
  | _ :: _, [], _ => rfl
  | v :: vs, r :: rs, x => by
    unfold rowOf prsAt
    split
    · rfl
    · exact rowOf_list vs rs x
theorem rowOf_at : ∀ (vs : List Int) (rs : List (Row Pr)) (x : Int) (i : Nat) (h : i < vs.length) (hl : vs.length = rs.length), vs[i] = x → (∀ (a : Nat) (ha : a < vs.length), a < i → vs[a] ≠ x) → rowOf vs rs x = (rs[i]'(hl ▸ h))
  | [], _, _, i, h, _, _, _ => by simp at h
  | _ :: _, [], _, _, _, hl, _, _ => by simp at hl
  | v :: vs, r :: rs, x, 0, _, _, he, _ => by
    show (if v = x then r else _) = _
    rw [if_pos (by simpa using he)]
    rfl
  | v :: vs, r :: rs, x, i + 1, h, hl, he, hno => by
    have h0 : ¬ v = x := hno 0 (by simp) (by omega)
    show (if v = x then r else rowOf vs rs x) = _
    rw [if_neg h0, rowOf_at vs rs x i (by simpa using h) (by simpa using hl) (by simpa using he) (fun a ha hai => hno (a + 1) (by simpa using ha) (by omega))]
    rfl
theorem rowOf_no : ∀ (vs : List Int) (rs : List (Row Pr)) (x : Int), x ∉ vs → rowOf vs rs x = ⟨none, 0, []⟩
  | [], _, _, _ => rfl
  | _ :: _, [], _, _ => rfl
  | v :: vs, r :: rs, x, h => by
    simp only [List.mem_cons, not_or] at h
    show (if v = x then r else rowOf vs rs x) = _
    rw [if_neg (fun e => h.1 e.symm), rowOf_no vs rs x h.2]
def AtCp (n : Nat) (vs : List Int) (rs : List (Row Pr)) (x : Int) (s1 s2 : Option Addr) (b2 : Nat) (o : Obj) (w : World) (i : Value) (wr : World) : Prop := ∃ j : Nat, j ≤ n ∧ i = .int .i64 j ∧ Hid (∀ (a : Nat) (ha : a < vs.length), a < j → vs[a] ≠ x) ∧ St [] w wr [(true, .is b2 o), (false, soft s1 (vs.map i8)), (false, soft s2 (rs.map Row.val))]
set_option maxRecDepth 8000 in
set_option maxHeartbeats 2000000 in
theorem ckPeers_calls (hv : Value) (vs : List Int) (rs : List (Row Pr)) (x : Int) (s1 s2 : Option Addr) (n c d : Nat) (hn : Hid (vs.length = n)) (hn2 : Hid (rs.length = n)) (hl : n ≤ 1000) (w : World) (H : St [] w w [(false, soft s1 (vs.map i8)), (false, soft s2 (rs.map Row.val))]) :
    Calls Try.prog 27 #[.agg #[hv, .slice s1 n c, .slice s2 n d], .int .i64 x] w fun e w' => e = .returned (rowOf vs rs x).val ∧ Ext [] w w' := by
  go_enter Try.func27, Try.ntmps27
  repeat' (first | (go_big_may; (first
    | ((first
        | (refine loud_ rfl ?_; refine wpList_plain rfl (fun K hK => ?_); (first | (refine op_box _ _ rfl H (fun b w' H1 => hK _ _ ?_)) | (refine op_alloc _ rfl (zero_of _ _ rfl) H (fun b w' H1 => hK _ _ ?_)) | (refine op_store _ _ _ rfl rfl rfl H (by repeat (first | exact Split.here _ _ | apply Split.there)) (by kernel_rfl) (by kernel_rfl) (by kernel_rfl) (fun w' H1 => hK _ _ ?_)) | (refine op_buildSlice_all _ _ _ rfl (by first | exact elem25 | exact elem32 | exact elem35 | exact elem36 | exact elem37 | exact elem38 | exact elem41 | exact elem42 | exact elem45 | exact elem57 | exact elem62 | exact elem74 | exact elem98 | exact elem100 | exact elem137 | exact elem178 | exact elem179) (by kernel_rfl) (by kernel_rfl) (by kernel_rfl) H (fun b w' H1 => hK _ _ ?_))); clear hK K; replace H := H1; clear H1)); (try clear hc); (try simp only [nrm, splice, Value.cells, Nat.reduceAdd, Act.eval, Act.put] at H); have hc := H.cells; simp only [CellsOf, KnCells, knc, Nat.reduceAdd] at hc))) | go_values | go_skip | go_guarded | go_step | go_upon | go_back | dsimp only)
  go_loopw [10] (AtCp n vs rs x s1 s2 b (Obj.cells #[hv, .slice s1 n c, .slice s2 n d] 44) w) (fun i _ => n - (intOf i).toNat)
  case atStart => exact ⟨0, Nat.zero_le _, rfl, Lib.hid (by intro a ha h; omega), H.sel (by repeat (first | exact Sel.nil _ | (apply Sel.cons; focus (repeat (first | exact Split.here _ _ | apply Split.there)))))⟩
  case round =>
    clear H
    obtain ⟨j, hj, rfl, hno, H⟩ := hrel
    by_cases hlt : j < n
    · have hj' : j < vs.length := by rw [hn.out]; exact hlt
      have hj2 : j < rs.length := by rw [hn2.out]; exact hlt
      have hlen : vs.length = rs.length := by rw [hn.out, hn2.out]
      have hjx := Lib.hid (show vs[j] ≠ x → ∀ (a : Nat) (ha : a < vs.length), a < j + 1 → vs[a] ≠ x by
        intro h2 a ha h1
        by_cases haj : a = j
        · subst haj
          exact h2
        · exact hno.out a ha (by omega))
      have hje : Hid (vs[j] = x → rowOf vs rs x = rs[j]) := Lib.hid (fun h => rowOf_at vs rs x j hj' hlen h hno.out)
      obtain ⟨b1, o1, rfl, H1⟩ := H.elemSoft (Split.there _ (Split.here _ _)) j [i8 vs[j]] (by show 0 < 1; omega) (by rw [List.length_map, hn.out]; show j + 1 ≤ n; omega) (by
        intro i hi
        have : i = 0 := by simp at hi; omega
        subst this
        simp [hj'])
      clear H
      have H := H1
      clear H1
      obtain ⟨b2, o2, rfl, H1⟩ := H.elemSoft (Split.there _ (Split.there _ (Split.there _ (Split.here _ _)))) j [Row.val rs[j]] (by show 0 < 1; omega) (by rw [List.length_map, hn2.out]; show j + 1 ≤ n; omega) (by
        intro i hi
        have : i = 0 := by simp at hi; omega
        subst this
        simp [hj2])
      clear H
      have H := H1
      clear H1
      generalize vs[j] = y at *
      generalize rs[j] = r at *
      generalize hrr : rowOf vs rs x = rr at *
      clear hj' hj2 hlen hno
      by_cases e1 : y = x
      · obtain rfl := hje.out e1
        subst e1
        obtain ⟨ra, rc, rl⟩ := rr
        simp only [Row.val] at H ⊢
        have hc := H.cells; simp only [CellsOf, KnCells, knc, Nat.reduceAdd] at hc
        repeat' (first | (go_big_may; (first
    | ((first
        | (refine loud_ rfl ?_; refine wpList_plain rfl (fun K hK => ?_); (first | (refine op_box _ _ rfl H (fun b w' H1 => hK _ _ ?_)) | (refine op_alloc _ rfl (zero_of _ _ rfl) H (fun b w' H1 => hK _ _ ?_)) | (refine op_store _ _ _ rfl rfl rfl H (by repeat (first | exact Split.here _ _ | apply Split.there)) (by kernel_rfl) (by kernel_rfl) (by kernel_rfl) (fun w' H1 => hK _ _ ?_)) | (refine op_buildSlice_all _ _ _ rfl (by first | exact elem25 | exact elem32 | exact elem35 | exact elem36 | exact elem37 | exact elem38 | exact elem41 | exact elem42 | exact elem45 | exact elem57 | exact elem62 | exact elem74 | exact elem98 | exact elem100 | exact elem137 | exact elem178 | exact elem179) (by kernel_rfl) (by kernel_rfl) (by kernel_rfl) H (fun b w' H1 => hK _ _ ?_))); clear hK K; replace H := H1; clear H1)); (try clear hc); (try simp only [nrm, splice, Value.cells, Nat.reduceAdd, Act.eval, Act.put] at H); have hc := H.cells; simp only [CellsOf, KnCells, knc, Nat.reduceAdd] at hc))) | go_values | go_skip | go_guarded | go_step | go_upon | go_back | dsimp only)
        go_ret
        exact ⟨by rw [hrr]; rfl, H.ext⟩
      · replace hjx := Lib.hid (hjx.out e1)
        have hc := H.cells; simp only [CellsOf, KnCells, knc, Nat.reduceAdd] at hc
        repeat' (first | (go_big_may; (first
    | ((first
        | (refine loud_ rfl ?_; refine wpList_plain rfl (fun K hK => ?_); (first | (refine op_box _ _ rfl H (fun b w' H1 => hK _ _ ?_)) | (refine op_alloc _ rfl (zero_of _ _ rfl) H (fun b w' H1 => hK _ _ ?_)) | (refine op_store _ _ _ rfl rfl rfl H (by repeat (first | exact Split.here _ _ | apply Split.there)) (by kernel_rfl) (by kernel_rfl) (by kernel_rfl) (fun w' H1 => hK _ _ ?_)) | (refine op_buildSlice_all _ _ _ rfl (by first | exact elem25 | exact elem32 | exact elem35 | exact elem36 | exact elem37 | exact elem38 | exact elem41 | exact elem42 | exact elem45 | exact elem57 | exact elem62 | exact elem74 | exact elem98 | exact elem100 | exact elem137 | exact elem178 | exact elem179) (by kernel_rfl) (by kernel_rfl) (by kernel_rfl) H (fun b w' H1 => hK _ _ ?_))); clear hK K; replace H := H1; clear H1)); (try clear hc); (try simp only [nrm, splice, Value.cells, Nat.reduceAdd, Act.eval, Act.put] at H); have hc := H.cells; simp only [CellsOf, KnCells, knc, Nat.reduceAdd] at hc))) | go_values | go_skip | go_guarded | go_step | go_upon | go_back | dsimp only)
        exact ⟨⟨j + 1, by omega, by go_num, hjx, H.sel (by repeat (first | exact Sel.nil _ | (apply Sel.cons; focus (repeat (first | exact Split.here _ _ | apply Split.there)))))⟩, by simp [intOf]; omega⟩
    · obtain rfl : j = n := by omega
      have hx : x ∉ vs := by
        intro hm
        obtain ⟨a, ha, hae⟩ := List.getElem_of_mem hm
        exact hno.out a ha (by rw [← hn.out]; exact ha) hae
      have hx' := rowOf_no vs rs x hx
      have hc := H.cells; simp only [CellsOf, KnCells, knc, Nat.reduceAdd] at hc
      repeat' (first | (go_big_may; (first
    | ((first
        | (refine loud_ rfl ?_; refine wpList_plain rfl (fun K hK => ?_); (first | (refine op_box _ _ rfl H (fun b w' H1 => hK _ _ ?_)) | (refine op_alloc _ rfl (zero_of _ _ rfl) H (fun b w' H1 => hK _ _ ?_)) | (refine op_store _ _ _ rfl rfl rfl H (by repeat (first | exact Split.here _ _ | apply Split.there)) (by kernel_rfl) (by kernel_rfl) (by kernel_rfl) (fun w' H1 => hK _ _ ?_)) | (refine op_buildSlice_all _ _ _ rfl (by first | exact elem25 | exact elem32 | exact elem35 | exact elem36 | exact elem37 | exact elem38 | exact elem41 | exact elem42 | exact elem45 | exact elem57 | exact elem62 | exact elem74 | exact elem98 | exact elem100 | exact elem137 | exact elem178 | exact elem179) (by kernel_rfl) (by kernel_rfl) (by kernel_rfl) H (fun b w' H1 => hK _ _ ?_))); clear hK K; replace H := H1; clear H1)); (try clear hc); (try simp only [nrm, splice, Value.cells, Nat.reduceAdd, Act.eval, Act.put] at H); have hc := H.cells; simp only [CellsOf, KnCells, knc, Nat.reduceAdd] at hc))) | go_values | go_skip | go_guarded | go_step | go_upon | go_back | dsimp only)
      go_ret
      exact ⟨by rw [hx']; rfl, H.ext⟩
end Go.Proofs.Ytelddhcggmfloaa
