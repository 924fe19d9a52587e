import Derived.Test.YtelddhcggmfloaaCkCd
import Derived.Test.YtelddhcggmfloaaCkMa
import Derived.Test.YtelddhcggmfloaaCkQ
-- MORE
-- SUB2
namespace Go.Proofs.Ytelddhcggmfloaa
set_option linter.unusedVariables false
set_option linter.unusedSimpArgs false
set_option linter.unnecessarySimpa false
open Go Go.RowKit Go.V

/-! The votes of one revision, as the reference counts them. -/
abbrev h4 (k : Int) : Value := .int .u32 k
def vq (l : List (Int × Int)) (x : Int) : Nat := (l.filter fun p => decide (p.1 = x)).length
def VtTold (own : Int) (h : KH) (ps : List Pr) (zs : List Int) (s r : Bool) : Prop :=
  ((∀ p ∈ prs own h ps, p.1 = h.hash) ∧ zs = [] ∧ s = decide ((prs own h ps).length = ps.length + 1) ∧ r = s) ∨
  ((∃ p ∈ prs own h ps, p.1 ≠ h.hash) ∧ s = true ∧ r = false ∧ ((∃ x ∈ prs own h ps, (ps.length + 1) / 2 + 1 ≤ vq (prs own h ps) x.1 ∧ zs = ((prs own h ps).filter fun p => decide (p.1 ≠ x.1)).map (·.2)) ∨
    ((∀ x ∈ prs own h ps, vq (prs own h ps) x.1 < (ps.length + 1) / 2 + 1) ∧ zs = [0])))
abbrev ckHO (h : KH) : Obj := .cells #[.int .u32 h.hash, .int .i64 h.compact, .int .i64 h.rev] 24 (0, 0)
def AlikeIn (h : KH) (l : List (Int × Int)) (al : Bool) : Prop := al = decide (∀ p ∈ l, p.1 = h.hash)
def AtV1 (n : Nat) (own : Int) (h : KH) (ps : List Pr) (src : Option Addr) (b4 : Nat) (w : World) (iv9 hv9 al i : Value) (wr : World) : Prop :=
  ∃ (j m c1 c2 : Nat) (k1 k2 : Option Nat) (a : Bool), j ≤ n ∧ i = .int .i64 j ∧ iv9 = sl k1 m c1 ∧ hv9 = sl k2 m c2 ∧ al = .bool a ∧ m ≤ j + 1 ∧ Hid (m = (prs own h (ps.take j)).length) ∧ Hid (AlikeIn h (prs own h (ps.take j)) a) ∧
  St [] w wr [(true, .row k1 27 1 m c1 (((prs own h (ps.take j)).map (·.2)).map iv)), (true, .row k2 22 1 m c2 (((prs own h (ps.take j)).map (·.1)).map h4)), (false, .is b4 (ckHO h)), (false, soft src (ps.flatMap Pr.cells))]
def AtV2 (m q : Nat) (l : List (Int × Int)) (s1 s2 : Option Addr) (w : World) (z i : Value) (wr : World) : Prop :=
  ∃ k : Nat, k ≤ m ∧ i = .int .i64 k ∧ z = .slice none 0 0 ∧ Hid (∀ x ∈ l.take k, vq l x.1 < q) ∧ St [] w wr [(false, soft s1 ((l.map (·.2)).map iv)), (false, soft s2 ((l.map (·.1)).map h4))]
def AtV3 (m : Nat) (x : Int) (l : List (Int × Int)) (s1 s2 : Option Addr) (w : World) (c i : Value) (wr : World) : Prop :=
  ∃ (k d : Nat), k ≤ m ∧ i = .int .i64 k ∧ c = .int .i64 d ∧ d ≤ k ∧ Hid (d = vq (l.take k) x) ∧ St [] w wr [(false, soft s1 ((l.map (·.2)).map iv)), (false, soft s2 ((l.map (·.1)).map h4))]
def notX (x : Int) (l : List (Int × Int)) : List Int := (l.filter fun p => decide (p.1 ≠ x)).map (·.2)
def AtV4 (m : Nat) (x : Int) (l : List (Int × Int)) (s1 s2 : Option Addr) (w : World) (z i : Value) (wr : World) : Prop :=
  ∃ (k d cap : Nat) (key : Option Nat), k ≤ m ∧ i = .int .i64 k ∧ z = sl key d cap ∧ d ≤ k ∧ Hid (d = (notX x (l.take k)).length) ∧ St [] w wr [(true, .row key 27 1 d cap ((notX x (l.take k)).map iv)), (false, soft s1 ((l.map (·.2)).map iv)), (false, soft s2 ((l.map (·.1)).map h4))]
def VtPost (own : Int) (h : KH) (ps : List Pr) (w : World) (e : Ending) (w' : World) : Prop :=
  ∃ (zs : List Int) (s r : Bool) (key : Option Nat) (zn cap : Nat), Hid (VtTold own h ps zs s r) ∧ Hid (zn = zs.length) ∧ e = .returned (.tuple #[sl key zn cap, .bool s, .bool r]) ∧ St [] w w' [(true, .row key 27 1 zn cap (zs.map iv))]
theorem vq_snoc_yes {l : List (Int × Int)} {p : Int × Int} : vq (l ++ [p]) p.1 = vq l p.1 + 1 := by simp [vq]
theorem vq_snoc_no {l : List (Int × Int)} {p : Int × Int} {x : Int} (h : ¬ p.1 = x) : vq (l ++ [p]) x = vq l x := by simp [vq, h]
theorem notX_yes {l : List (Int × Int)} {p : Int × Int} {x : Int} (h : ¬ p.1 = x) : notX x (l ++ [p]) = notX x l ++ [p.2] := by simp [notX, h]
theorem notX_no {l : List (Int × Int)} {p : Int × Int} {x : Int} (h : p.1 = x) : notX x (l ++ [p]) = notX x l := by simp [notX, h]
theorem alike_yes {h : KH} {l : List (Int × Int)} {a : Bool} {p : Int × Int} (ha : AlikeIn h l a) (hp : p.1 = h.hash) : AlikeIn h (l ++ [p]) a := by
  unfold AlikeIn at *
  rw [ha]
  congr 1
  simp [or_imp, forall_and, hp]
theorem alike_no {h : KH} {l : List (Int × Int)} {p : Int × Int} (hp : ¬ p.1 = h.hash) : AlikeIn h (l ++ [p]) false := by
  unfold AlikeIn
  symm
  rw [decide_eq_false_iff_not]
  intro hh
  exact hp (hh p (by simp))
theorem prs_len1 (own : Int) (h : KH) (ps : List Pr) : (prs own h ps).length ≤ ps.length + 1 := by
  have := List.length_filter_le (selP h) ps
  simp [prs]
  omega
theorem nested_at {l : List (Int × Int)} {k : Nat} (hk : k < l.length) (f : Int × Int → Value) : ∀ i, i < 1 → (l.map f)[k + i]? = [f l[k]][i]? := by
  intro i hi
  have : i = 0 := by omega
  subst this
  simp [hk]
set_option maxRecDepth 10000 in
set_option maxHeartbeats 8000000 in
theorem votes_calls (own : Int) (h : KH) (ps : List Pr) (src : Option Addr) (n c : Nat) (hn : Hid (ps.length = n)) (hl : n ≤ 1000) (w : World) (H : St [] w w [(false, soft src (ps.flatMap Pr.cells))]) :
    Calls Try.prog 28 #[.int .u64 own, h.val, .slice src n c] w (VtPost own h ps w) := by
  obtain ⟨fh, fc, fr⟩ := h
  simp only [KH.val]
  go_enter Try.func28, Try.ntmps28
  repeat' (first | (go_big_may; (first
    | ((first
        | (refine loud_ rfl ?_; refine wpList_plain rfl (fun K hK => ?_); (first | (refine op_box _ _ rfl H (fun b w' H1 => hK _ _ ?_)) | (refine op_alloc _ rfl (zero_of _ _ rfl) H (fun b w' H1 => hK _ _ ?_)) | (refine op_store _ _ _ rfl rfl rfl H (by repeat (first | exact Split.here _ _ | apply Split.there)) (by kernel_rfl) (by kernel_rfl) (by kernel_rfl) (fun w' H1 => hK _ _ ?_)) | (refine op_buildSlice_all _ _ _ rfl (by first | exact elem25 | exact elem32 | exact elem35 | exact elem36 | exact elem37 | exact elem38 | exact elem41 | exact elem42 | exact elem45 | exact elem57 | exact elem62 | exact elem74 | exact elem98 | exact elem100 | exact elem137 | exact elem178 | exact elem179) (by kernel_rfl) (by kernel_rfl) (by kernel_rfl) H (fun b w' H1 => hK _ _ ?_))); clear hK K; replace H := H1; clear H1)); (try clear hc); (try simp only [nrm, splice, Value.cells, Nat.reduceAdd, Act.eval, Act.put] at H); have hc := H.cells; simp only [CellsOf, KnCells, knc, Nat.reduceAdd] at hc))) | go_values | go_skip | go_guarded | go_step | go_upon | go_back | dsimp only)
  rename_i b4 w1 b7 w2 x8 w3
  have H1 := lit_row (lit_row H (b := b) (by repeat (first | exact Split.here _ _ | apply Split.there))) (b := b7) (by repeat (first | exact Split.here _ _ | apply Split.there))
  (try simp only [List.append, List.cons_append, List.nil_append] at H1)
  have H2 := H1.ro (k := .is b4 _) (by repeat (first | exact Split.here _ _ | apply Split.there))
  (try simp only [List.append, List.cons_append, List.nil_append] at H2)
  have H0 : St [] w w' [(true, .row (some b7) 27 1 1 1 (((prs own ⟨fh, fc, fr⟩ (ps.take 0)).map (·.2)).map iv)), (true, .row (some b) 22 1 1 1 (((prs own ⟨fh, fc, fr⟩ (ps.take 0)).map (·.1)).map h4)), (false, .is b4 (ckHO ⟨fh, fc, fr⟩)), (false, soft src (ps.flatMap Pr.cells))] := H2.sel (by repeat (first | exact Sel.nil _ | (apply Sel.cons; focus (repeat (first | exact Split.here _ _ | apply Split.there)))))
  clear H H1 H2 hc
  go_loopw [9, 10, 11, 29] (AtV1 n own ⟨fh, fc, fr⟩ ps src b4 w) (fun _ _ _ i _ => n - (intOf i).toNat)
  case atStart => exact ⟨0, 1, 1, 1, some b7, some b, true, Nat.zero_le _, rfl, rfl, rfl, rfl, by omega, Lib.hid rfl, Lib.hid (by simp [AlikeIn, prs]), H0⟩
  case round =>
    clear H0
    obtain ⟨j, m, c1, c2, k1, k2, a, hj, rfl, rfl, rfl, rfl, hmj, hm, hal, H⟩ := hrel
    by_cases hlt : j < n
    · have hj' : j < ps.length := by rw [hn.out]; exact hlt
      have hcat : Hid (ps.take (j + 1) = ps.take j ++ [ps[j]]) := (List.take_append_getElem hj').symm
      obtain ⟨b1, o1, rfl, H1⟩ := H.elemSoft (Split.there _ (Split.there _ (Split.there _ (Split.here _ _)))) (j * 6) (ps[j]).cells (by show 0 < 6; omega) (by rw [pr_len]; show _ + 6 ≤ _; omega) (fun i hi => flat_at Pr.cells 6 ps (fun _ _ => rfl) j i hj' hi)
      clear H
      have H := H1
      clear H1
      generalize ps[j] = p at *
      clear hj'
      obtain ⟨id, has, hash, compact, rev, err⟩ := p
      simp only [Pr.cells] at H
      generalize hP : prs own ⟨fh, fc, fr⟩ (ps.take j) = P at *
      have hP2 := Lib.hid hP
      clear hP
      cases has with
      | false =>
        have hsel : Hid (prs own ⟨fh, fc, fr⟩ (ps.take (j + 1)) = P) := by
          show _ = _
          rw [hcat.out, prs_snoc_no (by simp [selP]), hP2.out]
        have hc := H.cells; simp only [CellsOf, KnCells, knc, Nat.reduceAdd] at hc
        repeat' (first | (go_big_may; (first
    | ((first
        | (refine loud_ rfl ?_; refine wpList_plain rfl (fun K hK => ?_); (first | (refine op_box _ _ rfl H (fun b w' H1 => hK _ _ ?_)) | (refine op_alloc _ rfl (zero_of _ _ rfl) H (fun b w' H1 => hK _ _ ?_)) | (refine op_store _ _ _ rfl rfl rfl H (by repeat (first | exact Split.here _ _ | apply Split.there)) (by kernel_rfl) (by kernel_rfl) (by kernel_rfl) (fun w' H1 => hK _ _ ?_)) | (refine op_buildSlice_all _ _ _ rfl (by first | exact elem25 | exact elem32 | exact elem35 | exact elem36 | exact elem37 | exact elem38 | exact elem41 | exact elem42 | exact elem45 | exact elem57 | exact elem62 | exact elem74 | exact elem98 | exact elem100 | exact elem137 | exact elem178 | exact elem179) (by kernel_rfl) (by kernel_rfl) (by kernel_rfl) H (fun b w' H1 => hK _ _ ?_))); clear hK K; replace H := H1; clear H1)); (try clear hc); (try simp only [nrm, splice, Value.cells, Nat.reduceAdd, Act.eval, Act.put] at H); have hc := H.cells; simp only [CellsOf, KnCells, knc, Nat.reduceAdd] at hc))) | go_values | go_skip | go_guarded | go_step | go_upon | go_back | dsimp only)
        refine ⟨⟨j + 1, m, c1, c2, k1, k2, a, by omega, by go_num, rfl, rfl, rfl, by omega, ?_, ?_, ?_⟩, by simp [intOf]; omega⟩
        · show m = _
          rw [hsel.out]; exact hm.out
        · show AlikeIn _ _ _
          rw [hsel.out]; exact hal.out
        · rw [hsel.out]; exact H.sel (by repeat (first | exact Sel.nil _ | (apply Sel.cons; focus (repeat (first | exact Split.here _ _ | apply Split.there)))))
      | true =>
        by_cases e1 : compact = fc
        case neg =>
          have hsel : Hid (prs own ⟨fh, fc, fr⟩ (ps.take (j + 1)) = P) := by
            show _ = _
            rw [hcat.out, prs_snoc_no (by simp [selP, e1]), hP2.out]
          have hc := H.cells; simp only [CellsOf, KnCells, knc, Nat.reduceAdd] at hc
          repeat' (first | (go_big_may; (first
    | ((first
        | (refine loud_ rfl ?_; refine wpList_plain rfl (fun K hK => ?_); (first | (refine op_box _ _ rfl H (fun b w' H1 => hK _ _ ?_)) | (refine op_alloc _ rfl (zero_of _ _ rfl) H (fun b w' H1 => hK _ _ ?_)) | (refine op_store _ _ _ rfl rfl rfl H (by repeat (first | exact Split.here _ _ | apply Split.there)) (by kernel_rfl) (by kernel_rfl) (by kernel_rfl) (fun w' H1 => hK _ _ ?_)) | (refine op_buildSlice_all _ _ _ rfl (by first | exact elem25 | exact elem32 | exact elem35 | exact elem36 | exact elem37 | exact elem38 | exact elem41 | exact elem42 | exact elem45 | exact elem57 | exact elem62 | exact elem74 | exact elem98 | exact elem100 | exact elem137 | exact elem178 | exact elem179) (by kernel_rfl) (by kernel_rfl) (by kernel_rfl) H (fun b w' H1 => hK _ _ ?_))); clear hK K; replace H := H1; clear H1)); (try clear hc); (try simp only [nrm, splice, Value.cells, Nat.reduceAdd, Act.eval, Act.put] at H); have hc := H.cells; simp only [CellsOf, KnCells, knc, Nat.reduceAdd] at hc))) | go_values | go_skip | go_guarded | go_step | go_upon | go_back | dsimp only)
          refine ⟨⟨j + 1, m, c1, c2, k1, k2, a, by omega, by go_num, rfl, rfl, rfl, by omega, ?_, ?_, ?_⟩, by simp [intOf]; omega⟩
          · show m = _
            rw [hsel.out]; exact hm.out
          · show AlikeIn _ _ _
            rw [hsel.out]; exact hal.out
          · rw [hsel.out]; exact H.sel (by repeat (first | exact Sel.nil _ | (apply Sel.cons; focus (repeat (first | exact Split.here _ _ | apply Split.there)))))
        subst e1
        have hsel : Hid (prs own ⟨fh, compact, fr⟩ (ps.take (j + 1)) = P ++ [(hash, id)]) := by
          show _ = _
          rw [hcat.out, prs_snoc_yes (by simp [selP]), hP2.out]
        by_cases e2 : hash = fh
        · subst e2
          cases a with
          | true =>
            have hc := H.cells; simp only [CellsOf, KnCells, knc, Nat.reduceAdd] at hc
            repeat' (first | (go_big_may; (first
    | ((first
        | (refine loud_ rfl ?_; refine wpList_plain rfl (fun K hK => ?_); (first | (refine op_append_lit _ _ _ rfl elem32 rfl rfl H (by repeat (first | exact Split.here _ _ | apply Split.there)) (by repeat (first | exact Split.here _ _ | apply Split.there)) (by kernel_rfl) (by kernel_rfl) (by omega) (by unfold maxLen; omega) (fun key cap' w' H1 => hK _ _ ?_)) | (refine op_append_lit _ _ _ rfl elem98 rfl rfl H (by repeat (first | exact Split.here _ _ | apply Split.there)) (by repeat (first | exact Split.here _ _ | apply Split.there)) (by kernel_rfl) (by kernel_rfl) (by omega) (by unfold maxLen; omega) (fun key cap' w' H1 => hK _ _ ?_)) | (refine op_box _ _ rfl H (fun b w' H1 => hK _ _ ?_)) | (refine op_alloc _ rfl (zero_of _ _ rfl) H (fun b w' H1 => hK _ _ ?_)) | (refine op_store _ _ _ rfl rfl rfl H (by repeat (first | exact Split.here _ _ | apply Split.there)) (by kernel_rfl) (by kernel_rfl) (by kernel_rfl) (fun w' H1 => hK _ _ ?_)) | (refine op_buildSlice_all _ _ _ rfl (by first | exact elem25 | exact elem32 | exact elem35 | exact elem36 | exact elem37 | exact elem38 | exact elem41 | exact elem42 | exact elem45 | exact elem57 | exact elem62 | exact elem74 | exact elem98 | exact elem100 | exact elem137 | exact elem178 | exact elem179) (by kernel_rfl) (by kernel_rfl) (by kernel_rfl) H (fun b w' H1 => hK _ _ ?_))); clear hK K; replace H := H1; clear H1)); (try clear hc); (try simp only [nrm, splice, Value.cells, Nat.reduceAdd, Act.eval, Act.put] at H); have hc := H.cells; simp only [CellsOf, KnCells, knc, Nat.reduceAdd] at hc))) | go_values | go_skip | go_guarded | go_step | go_upon | go_back | dsimp only)
            refine ⟨⟨j + 1, m + 1, _, _, _, _, true, by omega, by go_num, rfl, rfl, rfl, by omega, ?_, ?_, ?_⟩, by simp [intOf]; omega⟩
            · show m + 1 = _
              rw [hsel.out, List.length_append, ← hm.out]; rfl
            · show AlikeIn _ _ _
              rw [hsel.out]; exact alike_yes hal.out rfl
            · rw [hsel.out]
              simp only [List.map_append, List.map_cons, List.map_nil]
              exact H.sel (by repeat (first | exact Sel.nil _ | (apply Sel.cons; focus (repeat (first | exact Split.here _ _ | apply Split.there)))))
          | false =>
            have hc := H.cells; simp only [CellsOf, KnCells, knc, Nat.reduceAdd] at hc
            repeat' (first | (go_big_may; (first
    | ((first
        | (refine loud_ rfl ?_; refine wpList_plain rfl (fun K hK => ?_); (first | (refine op_append_lit _ _ _ rfl elem32 rfl rfl H (by repeat (first | exact Split.here _ _ | apply Split.there)) (by repeat (first | exact Split.here _ _ | apply Split.there)) (by kernel_rfl) (by kernel_rfl) (by omega) (by unfold maxLen; omega) (fun key cap' w' H1 => hK _ _ ?_)) | (refine op_append_lit _ _ _ rfl elem98 rfl rfl H (by repeat (first | exact Split.here _ _ | apply Split.there)) (by repeat (first | exact Split.here _ _ | apply Split.there)) (by kernel_rfl) (by kernel_rfl) (by omega) (by unfold maxLen; omega) (fun key cap' w' H1 => hK _ _ ?_)) | (refine op_box _ _ rfl H (fun b w' H1 => hK _ _ ?_)) | (refine op_alloc _ rfl (zero_of _ _ rfl) H (fun b w' H1 => hK _ _ ?_)) | (refine op_store _ _ _ rfl rfl rfl H (by repeat (first | exact Split.here _ _ | apply Split.there)) (by kernel_rfl) (by kernel_rfl) (by kernel_rfl) (fun w' H1 => hK _ _ ?_)) | (refine op_buildSlice_all _ _ _ rfl (by first | exact elem25 | exact elem32 | exact elem35 | exact elem36 | exact elem37 | exact elem38 | exact elem41 | exact elem42 | exact elem45 | exact elem57 | exact elem62 | exact elem74 | exact elem98 | exact elem100 | exact elem137 | exact elem178 | exact elem179) (by kernel_rfl) (by kernel_rfl) (by kernel_rfl) H (fun b w' H1 => hK _ _ ?_))); clear hK K; replace H := H1; clear H1)); (try clear hc); (try simp only [nrm, splice, Value.cells, Nat.reduceAdd, Act.eval, Act.put] at H); have hc := H.cells; simp only [CellsOf, KnCells, knc, Nat.reduceAdd] at hc))) | go_values | go_skip | go_guarded | go_step | go_upon | go_back | dsimp only)
            refine ⟨⟨j + 1, m + 1, _, _, _, _, false, by omega, by go_num, rfl, rfl, rfl, by omega, ?_, ?_, ?_⟩, by simp [intOf]; omega⟩
            · show m + 1 = _
              rw [hsel.out, List.length_append, ← hm.out]; rfl
            · show AlikeIn _ _ _
              rw [hsel.out]; exact alike_yes hal.out rfl
            · rw [hsel.out]
              simp only [List.map_append, List.map_cons, List.map_nil]
              exact H.sel (by repeat (first | exact Sel.nil _ | (apply Sel.cons; focus (repeat (first | exact Split.here _ _ | apply Split.there)))))
        · cases a with
          | true =>
            have hc := H.cells; simp only [CellsOf, KnCells, knc, Nat.reduceAdd] at hc
            repeat' (first | (go_big_may; (first
    | ((first
        | (refine loud_ rfl ?_; refine wpList_plain rfl (fun K hK => ?_); (first | (refine op_append_lit _ _ _ rfl elem32 rfl rfl H (by repeat (first | exact Split.here _ _ | apply Split.there)) (by repeat (first | exact Split.here _ _ | apply Split.there)) (by kernel_rfl) (by kernel_rfl) (by omega) (by unfold maxLen; omega) (fun key cap' w' H1 => hK _ _ ?_)) | (refine op_append_lit _ _ _ rfl elem98 rfl rfl H (by repeat (first | exact Split.here _ _ | apply Split.there)) (by repeat (first | exact Split.here _ _ | apply Split.there)) (by kernel_rfl) (by kernel_rfl) (by omega) (by unfold maxLen; omega) (fun key cap' w' H1 => hK _ _ ?_)) | (refine op_box _ _ rfl H (fun b w' H1 => hK _ _ ?_)) | (refine op_alloc _ rfl (zero_of _ _ rfl) H (fun b w' H1 => hK _ _ ?_)) | (refine op_store _ _ _ rfl rfl rfl H (by repeat (first | exact Split.here _ _ | apply Split.there)) (by kernel_rfl) (by kernel_rfl) (by kernel_rfl) (fun w' H1 => hK _ _ ?_)) | (refine op_buildSlice_all _ _ _ rfl (by first | exact elem25 | exact elem32 | exact elem35 | exact elem36 | exact elem37 | exact elem38 | exact elem41 | exact elem42 | exact elem45 | exact elem57 | exact elem62 | exact elem74 | exact elem98 | exact elem100 | exact elem137 | exact elem178 | exact elem179) (by kernel_rfl) (by kernel_rfl) (by kernel_rfl) H (fun b w' H1 => hK _ _ ?_))); clear hK K; replace H := H1; clear H1)); (try clear hc); (try simp only [nrm, splice, Value.cells, Nat.reduceAdd, Act.eval, Act.put] at H); have hc := H.cells; simp only [CellsOf, KnCells, knc, Nat.reduceAdd] at hc))) | go_values | go_skip | go_guarded | go_step | go_upon | go_back | dsimp only)
            refine ⟨⟨j + 1, m + 1, _, _, _, _, false, by omega, by go_num, rfl, rfl, by simp [e2], by omega, ?_, ?_, ?_⟩, by simp [intOf]; omega⟩
            · show m + 1 = _
              rw [hsel.out, List.length_append, ← hm.out]; rfl
            · show AlikeIn _ _ _
              rw [hsel.out]; exact alike_no e2
            · rw [hsel.out]
              simp only [List.map_append, List.map_cons, List.map_nil]
              exact H.sel (by repeat (first | exact Sel.nil _ | (apply Sel.cons; focus (repeat (first | exact Split.here _ _ | apply Split.there)))))
          | false =>
            have hc := H.cells; simp only [CellsOf, KnCells, knc, Nat.reduceAdd] at hc
            repeat' (first | (go_big_may; (first
    | ((first
        | (refine loud_ rfl ?_; refine wpList_plain rfl (fun K hK => ?_); (first | (refine op_append_lit _ _ _ rfl elem32 rfl rfl H (by repeat (first | exact Split.here _ _ | apply Split.there)) (by repeat (first | exact Split.here _ _ | apply Split.there)) (by kernel_rfl) (by kernel_rfl) (by omega) (by unfold maxLen; omega) (fun key cap' w' H1 => hK _ _ ?_)) | (refine op_append_lit _ _ _ rfl elem98 rfl rfl H (by repeat (first | exact Split.here _ _ | apply Split.there)) (by repeat (first | exact Split.here _ _ | apply Split.there)) (by kernel_rfl) (by kernel_rfl) (by omega) (by unfold maxLen; omega) (fun key cap' w' H1 => hK _ _ ?_)) | (refine op_box _ _ rfl H (fun b w' H1 => hK _ _ ?_)) | (refine op_alloc _ rfl (zero_of _ _ rfl) H (fun b w' H1 => hK _ _ ?_)) | (refine op_store _ _ _ rfl rfl rfl H (by repeat (first | exact Split.here _ _ | apply Split.there)) (by kernel_rfl) (by kernel_rfl) (by kernel_rfl) (fun w' H1 => hK _ _ ?_)) | (refine op_buildSlice_all _ _ _ rfl (by first | exact elem25 | exact elem32 | exact elem35 | exact elem36 | exact elem37 | exact elem38 | exact elem41 | exact elem42 | exact elem45 | exact elem57 | exact elem62 | exact elem74 | exact elem98 | exact elem100 | exact elem137 | exact elem178 | exact elem179) (by kernel_rfl) (by kernel_rfl) (by kernel_rfl) H (fun b w' H1 => hK _ _ ?_))); clear hK K; replace H := H1; clear H1)); (try clear hc); (try simp only [nrm, splice, Value.cells, Nat.reduceAdd, Act.eval, Act.put] at H); have hc := H.cells; simp only [CellsOf, KnCells, knc, Nat.reduceAdd] at hc))) | go_values | go_skip | go_guarded | go_step | go_upon | go_back | dsimp only)
            refine ⟨⟨j + 1, m + 1, _, _, _, _, false, by omega, by go_num, rfl, rfl, rfl, by omega, ?_, ?_, ?_⟩, by simp [intOf]; omega⟩
            · show m + 1 = _
              rw [hsel.out, List.length_append, ← hm.out]; rfl
            · show AlikeIn _ _ _
              rw [hsel.out]; exact alike_no e2
            · rw [hsel.out]
              simp only [List.map_append, List.map_cons, List.map_nil]
              exact H.sel (by repeat (first | exact Sel.nil _ | (apply Sel.cons; focus (repeat (first | exact Split.here _ _ | apply Split.there)))))
    · obtain rfl : j = n := by omega
      rw [List.take_of_length_le (by rw [hn.out]; exact Nat.le_refl _)] at hm hal H
      generalize hP : prs own ⟨fh, fc, fr⟩ ps = P at *
      have hP2 := Lib.hid hP
      clear hP
      cases a with
      | true =>
        have hall : ∀ p ∈ P, p.1 = fh := by have := hal.out; unfold AlikeIn at this; exact of_decide_eq_true this.symm
        by_cases e3 : (m : Int) = (j : Int) + 1
        case neg =>
          have h9 : ((m : Int) == (j : Int) + 1) = false := by simp; exact e3
          have hc := H.cells; simp only [CellsOf, KnCells, knc, Nat.reduceAdd] at hc
          repeat' (first | (go_big_may; (first
    | ((first
        | (refine loud_ rfl ?_; refine wpList_plain rfl (fun K hK => ?_); (first | (refine op_box _ _ rfl H (fun b w' H1 => hK _ _ ?_)) | (refine op_alloc _ rfl (zero_of _ _ rfl) H (fun b w' H1 => hK _ _ ?_)) | (refine op_store _ _ _ rfl rfl rfl H (by repeat (first | exact Split.here _ _ | apply Split.there)) (by kernel_rfl) (by kernel_rfl) (by kernel_rfl) (fun w' H1 => hK _ _ ?_)) | (refine op_buildSlice_all _ _ _ rfl (by first | exact elem25 | exact elem32 | exact elem35 | exact elem36 | exact elem37 | exact elem38 | exact elem41 | exact elem42 | exact elem45 | exact elem57 | exact elem62 | exact elem74 | exact elem98 | exact elem100 | exact elem137 | exact elem178 | exact elem179) (by kernel_rfl) (by kernel_rfl) (by kernel_rfl) H (fun b w' H1 => hK _ _ ?_))); clear hK K; replace H := H1; clear H1)); (try clear hc); (try simp only [nrm, splice, Value.cells, Nat.reduceAdd, Act.eval, Act.put] at H); have hc := H.cells; simp only [CellsOf, KnCells, knc, Nat.reduceAdd] at hc))) | go_values | go_skip | go_guarded | go_step | go_upon | go_back | dsimp only)
          go_ret3
          exact ⟨[], false, false, none, 0, 0, .inl ⟨by rw [hP2.out]; exact hall, rfl, by rw [hP2.out, hn.out, ← hm.out]; symm; rw [decide_eq_false_iff_not]; omega, rfl⟩, rfl, by simp only [h9]; rfl, (H.nilRow _ _).sel (by repeat (first | exact Sel.nil _ | (apply Sel.cons; focus (repeat (first | exact Split.here _ _ | apply Split.there)))))⟩
        case pos =>
          have hc := H.cells; simp only [CellsOf, KnCells, knc, Nat.reduceAdd] at hc
          repeat' (first | (go_big_may; (first
    | ((first
        | (refine loud_ rfl ?_; refine wpList_plain rfl (fun K hK => ?_); (first | (refine op_box _ _ rfl H (fun b w' H1 => hK _ _ ?_)) | (refine op_alloc _ rfl (zero_of _ _ rfl) H (fun b w' H1 => hK _ _ ?_)) | (refine op_store _ _ _ rfl rfl rfl H (by repeat (first | exact Split.here _ _ | apply Split.there)) (by kernel_rfl) (by kernel_rfl) (by kernel_rfl) (fun w' H1 => hK _ _ ?_)) | (refine op_buildSlice_all _ _ _ rfl (by first | exact elem25 | exact elem32 | exact elem35 | exact elem36 | exact elem37 | exact elem38 | exact elem41 | exact elem42 | exact elem45 | exact elem57 | exact elem62 | exact elem74 | exact elem98 | exact elem100 | exact elem137 | exact elem178 | exact elem179) (by kernel_rfl) (by kernel_rfl) (by kernel_rfl) H (fun b w' H1 => hK _ _ ?_))); clear hK K; replace H := H1; clear H1)); (try clear hc); (try simp only [nrm, splice, Value.cells, Nat.reduceAdd, Act.eval, Act.put] at H); have hc := H.cells; simp only [CellsOf, KnCells, knc, Nat.reduceAdd] at hc))) | go_values | go_skip | go_guarded | go_step | go_upon | go_back | dsimp only)
          go_ret3
          exact ⟨[], true, true, none, 0, 0, .inl ⟨by rw [hP2.out]; exact hall, rfl, by rw [hP2.out, hn.out, ← hm.out]; symm; rw [decide_eq_true_iff]; omega, rfl⟩, rfl, rfl, (H.nilRow _ _).sel (by repeat (first | exact Sel.nil _ | (apply Sel.cons; focus (repeat (first | exact Split.here _ _ | apply Split.there)))))⟩
      | false =>
        have hsome : Hid (∃ p ∈ P, p.1 ≠ fh) := by
          have := hal.out; unfold AlikeIn at this
          have h2 := of_decide_eq_false this.symm
          show ∃ p ∈ P, p.1 ≠ fh
          apply Classical.byContradiction
          intro h3
          exact h2 (fun p hp => Classical.byContradiction (fun h4 => h3 ⟨p, hp, h4⟩))
        clear hal
        replace H := H.rowSoft (key := k1) (by repeat (first | exact Split.here _ _ | apply Split.there))
        (try simp only [List.append, List.cons_append, List.nil_append] at H)
        replace H := H.rowSoft (key := k2) (by repeat (first | exact Split.here _ _ | apply Split.there))
        (try simp only [List.append, List.cons_append, List.nil_append] at H)
        (try rw [show sl k1 m c1 = Value.slice (k1.map fun b => (⟨b, 0, none⟩ : Addr)) m c1 from rfl])
        (try rw [show sl k2 m c2 = Value.slice (k2.map fun b => (⟨b, 0, none⟩ : Addr)) m c2 from rfl])
        generalize (k1.map fun b => (⟨b, 0, none⟩ : Addr)) = s1 at *
        generalize (k2.map fun b => (⟨b, 0, none⟩ : Addr)) = s2 at *
        have hm1 : m ≤ j + 1 := hmj
        obtain ⟨q, hq⟩ : ∃ q : Nat, q = (j + 1) / 2 + 1 := ⟨_, rfl⟩
        have hqq : ((j : Int) + 1) / 2 + 1 = (q : Nat) := by omega
        have hql : q ≤ 1000 := by omega
        have hq2 := Lib.hid hq
        clear hq
        have hc := H.cells; simp only [CellsOf, KnCells, knc, Nat.reduceAdd] at hc
        repeat' (first | (go_big_may; (first
    | ((first
        | (refine loud_ rfl ?_; refine wpList_plain rfl (fun K hK => ?_); (first | (refine op_box _ _ rfl H (fun b w' H1 => hK _ _ ?_)) | (refine op_alloc _ rfl (zero_of _ _ rfl) H (fun b w' H1 => hK _ _ ?_)) | (refine op_store _ _ _ rfl rfl rfl H (by repeat (first | exact Split.here _ _ | apply Split.there)) (by kernel_rfl) (by kernel_rfl) (by kernel_rfl) (fun w' H1 => hK _ _ ?_)) | (refine op_buildSlice_all _ _ _ rfl (by first | exact elem25 | exact elem32 | exact elem35 | exact elem36 | exact elem37 | exact elem38 | exact elem41 | exact elem42 | exact elem45 | exact elem57 | exact elem62 | exact elem74 | exact elem98 | exact elem100 | exact elem137 | exact elem178 | exact elem179) (by kernel_rfl) (by kernel_rfl) (by kernel_rfl) H (fun b w' H1 => hK _ _ ?_))); clear hK K; replace H := H1; clear H1)); (try clear hc); (try simp only [nrm, splice, Value.cells, Nat.reduceAdd, Act.eval, Act.put] at H); have hc := H.cells; simp only [CellsOf, KnCells, knc, Nat.reduceAdd] at hc))) | go_values | go_skip | go_guarded | go_step | go_upon | go_back | dsimp only)
        have H0 : St [] w wr [(false, soft s1 ((P.map (·.2)).map iv)), (false, soft s2 ((P.map (·.1)).map h4))] := H.sel (by repeat (first | exact Sel.nil _ | (apply Sel.cons; focus (repeat (first | exact Split.here _ _ | apply Split.there)))))
        clear H hc
        go_loopw [6, 82] (AtV2 m q P s1 s2 w) (fun _ i _ => m - (intOf i).toNat)
        case atStart => exact ⟨0, Nat.zero_le _, rfl, rfl, Lib.hid (by simp), H0⟩
        case round =>
          clear H0
          obtain ⟨k, hk, rfl, rfl, hno, H⟩ := hrel
          by_cases hlt2 : k < m
          case neg =>
            obtain rfl : k = m := by omega
            rw [List.take_of_length_le (by rw [hm.out]; exact Nat.le_refl _)] at hno
            have hc := H.cells; simp only [CellsOf, KnCells, knc, Nat.reduceAdd] at hc
            repeat' (first | (go_big_may; (first
    | ((first
        | (refine loud_ rfl ?_; refine wpList_plain rfl (fun K hK => ?_); (first | (refine op_box _ _ rfl H (fun b w' H1 => hK _ _ ?_)) | (refine op_alloc _ rfl (zero_of _ _ rfl) H (fun b w' H1 => hK _ _ ?_)) | (refine op_store _ _ _ rfl rfl rfl H (by repeat (first | exact Split.here _ _ | apply Split.there)) (by kernel_rfl) (by kernel_rfl) (by kernel_rfl) (fun w' H1 => hK _ _ ?_)) | (refine op_buildSlice_all _ _ _ rfl (by first | exact elem25 | exact elem32 | exact elem35 | exact elem36 | exact elem37 | exact elem38 | exact elem41 | exact elem42 | exact elem45 | exact elem57 | exact elem62 | exact elem74 | exact elem98 | exact elem100 | exact elem137 | exact elem178 | exact elem179) (by kernel_rfl) (by kernel_rfl) (by kernel_rfl) H (fun b w' H1 => hK _ _ ?_))); clear hK K; replace H := H1; clear H1)); (try clear hc); (try simp only [nrm, splice, Value.cells, Nat.reduceAdd, Act.eval, Act.put] at H); have hc := H.cells; simp only [CellsOf, KnCells, knc, Nat.reduceAdd] at hc))) | go_values | go_skip | go_guarded | go_step | go_upon | go_back | dsimp only)
            have H1 := lit_row H (b := b) (by repeat (first | exact Split.here _ _ | apply Split.there))
            (try simp only [List.append, List.cons_append, List.nil_append] at H1)
            go_ret3
            exact ⟨[0], true, false, some b, 1, 1, .inr ⟨by rw [hP2.out]; exact hsome.out, rfl, rfl, .inr ⟨by rw [hP2.out, hn.out, ← hq2.out]; exact hno.out, rfl⟩⟩, rfl, rfl, H1.sel (by repeat (first | exact Sel.nil _ | (apply Sel.cons; focus (repeat (first | exact Split.here _ _ | apply Split.there)))))⟩
          have hk' : k < P.length := by rw [← hm.out]; exact hlt2
          have hcat : Hid (P.take (k + 1) = P.take k ++ [P[k]]) := (List.take_append_getElem hk').symm
          have hmem := Lib.hid (List.getElem_mem hk')
          obtain ⟨b2, o2, rfl, H1⟩ := H.elemSoft (Split.there _ (Split.here _ _)) k [h4 (P[k]).1] (by show 0 < 1; omega) (by rw [List.length_map, List.length_map, ← hm.out]; show k + 1 ≤ m; omega) (by rw [List.map_map]; exact nested_at hk' (fun p => h4 p.1))
          clear H
          have H := H1
          clear H1
          generalize P[k] = x at *
          obtain ⟨xh, xi⟩ := x
          clear hk'
          simp only at H
          have hc := H.cells; simp only [CellsOf, KnCells, knc, Nat.reduceAdd] at hc
          repeat' (first | (go_big_may; (first
    | ((first
        | (refine loud_ rfl ?_; refine wpList_plain rfl (fun K hK => ?_); (first | (refine op_box _ _ rfl H (fun b w' H1 => hK _ _ ?_)) | (refine op_alloc _ rfl (zero_of _ _ rfl) H (fun b w' H1 => hK _ _ ?_)) | (refine op_store _ _ _ rfl rfl rfl H (by repeat (first | exact Split.here _ _ | apply Split.there)) (by kernel_rfl) (by kernel_rfl) (by kernel_rfl) (fun w' H1 => hK _ _ ?_)) | (refine op_buildSlice_all _ _ _ rfl (by first | exact elem25 | exact elem32 | exact elem35 | exact elem36 | exact elem37 | exact elem38 | exact elem41 | exact elem42 | exact elem45 | exact elem57 | exact elem62 | exact elem74 | exact elem98 | exact elem100 | exact elem137 | exact elem178 | exact elem179) (by kernel_rfl) (by kernel_rfl) (by kernel_rfl) H (fun b w' H1 => hK _ _ ?_))); clear hK K; replace H := H1; clear H1)); (try clear hc); (try simp only [nrm, splice, Value.cells, Nat.reduceAdd, Act.eval, Act.put] at H); have hc := H.cells; simp only [CellsOf, KnCells, knc, Nat.reduceAdd] at hc))) | go_values | go_skip | go_guarded | go_step | go_upon | go_back | dsimp only)
          have H0 : St [] w wr [(false, soft s1 ((P.map (·.2)).map iv)), (false, soft (some ⟨b2, o2, none⟩) ((P.map (·.1)).map h4))] := H.sel (by repeat (first | exact Sel.nil _ | (apply Sel.cons; focus (repeat (first | exact Split.here _ _ | apply Split.there)))))
          clear H hc
          go_loopw [17, 88] (AtV3 m xh P s1 (some ⟨b2, o2, none⟩) w) (fun _ i _ => m - (intOf i).toNat)
          case atStart => exact ⟨0, 0, Nat.zero_le _, rfl, rfl, Nat.le_refl _, Lib.hid (by simp [vq]), H0⟩
          case round =>
            clear H0
            obtain ⟨i, d, hi, rfl, rfl, hdi, hd, H⟩ := hrel
            by_cases hlt3 : i < m
            · have hi' : i < P.length := by rw [← hm.out]; exact hlt3
              have hcat3 : Hid (P.take (i + 1) = P.take i ++ [P[i]]) := (List.take_append_getElem hi').symm
              obtain ⟨b3, o3, hs3, H1⟩ := H.elemSoft (Split.there _ (Split.here _ _)) i [h4 (P[i]).1] (by show 0 < 1; omega) (by rw [List.length_map, List.length_map, ← hm.out]; show i + 1 ≤ m; omega) (by rw [List.map_map]; exact nested_at hi' (fun p => h4 p.1))
              obtain ⟨rfl, rfl⟩ : b2 = b3 ∧ o2 = o3 := by simpa using hs3
              clear H hs3
              have H := H1
              clear H1
              generalize P[i] = y at *
              obtain ⟨yh, yi⟩ := y
              clear hi'
              simp only at H
              by_cases e4 : xh = yh
              · subst e4
                have hc := H.cells; simp only [CellsOf, KnCells, knc, Nat.reduceAdd] at hc
                repeat' (first | (go_big_may; (first
    | ((first
        | (refine loud_ rfl ?_; refine wpList_plain rfl (fun K hK => ?_); (first | (refine op_box _ _ rfl H (fun b w' H1 => hK _ _ ?_)) | (refine op_alloc _ rfl (zero_of _ _ rfl) H (fun b w' H1 => hK _ _ ?_)) | (refine op_store _ _ _ rfl rfl rfl H (by repeat (first | exact Split.here _ _ | apply Split.there)) (by kernel_rfl) (by kernel_rfl) (by kernel_rfl) (fun w' H1 => hK _ _ ?_)) | (refine op_buildSlice_all _ _ _ rfl (by first | exact elem25 | exact elem32 | exact elem35 | exact elem36 | exact elem37 | exact elem38 | exact elem41 | exact elem42 | exact elem45 | exact elem57 | exact elem62 | exact elem74 | exact elem98 | exact elem100 | exact elem137 | exact elem178 | exact elem179) (by kernel_rfl) (by kernel_rfl) (by kernel_rfl) H (fun b w' H1 => hK _ _ ?_))); clear hK K; replace H := H1; clear H1)); (try clear hc); (try simp only [nrm, splice, Value.cells, Nat.reduceAdd, Act.eval, Act.put] at H); have hc := H.cells; simp only [CellsOf, KnCells, knc, Nat.reduceAdd] at hc))) | go_values | go_skip | go_guarded | go_step | go_upon | go_back | dsimp only)
                refine ⟨⟨i + 1, d + 1, by omega, by go_num, by go_num, by omega, ?_, H.sel (by repeat (first | exact Sel.nil _ | (apply Sel.cons; focus (repeat (first | exact Split.here _ _ | apply Split.there)))))⟩, by simp [intOf]; omega⟩
                show d + 1 = _
                rw [hcat3.out, hd.out]
                exact (vq_snoc_yes (p := (xh, yi))).symm
              · have hc := H.cells; simp only [CellsOf, KnCells, knc, Nat.reduceAdd] at hc
                repeat' (first | (go_big_may; (first
    | ((first
        | (refine loud_ rfl ?_; refine wpList_plain rfl (fun K hK => ?_); (first | (refine op_box _ _ rfl H (fun b w' H1 => hK _ _ ?_)) | (refine op_alloc _ rfl (zero_of _ _ rfl) H (fun b w' H1 => hK _ _ ?_)) | (refine op_store _ _ _ rfl rfl rfl H (by repeat (first | exact Split.here _ _ | apply Split.there)) (by kernel_rfl) (by kernel_rfl) (by kernel_rfl) (fun w' H1 => hK _ _ ?_)) | (refine op_buildSlice_all _ _ _ rfl (by first | exact elem25 | exact elem32 | exact elem35 | exact elem36 | exact elem37 | exact elem38 | exact elem41 | exact elem42 | exact elem45 | exact elem57 | exact elem62 | exact elem74 | exact elem98 | exact elem100 | exact elem137 | exact elem178 | exact elem179) (by kernel_rfl) (by kernel_rfl) (by kernel_rfl) H (fun b w' H1 => hK _ _ ?_))); clear hK K; replace H := H1; clear H1)); (try clear hc); (try simp only [nrm, splice, Value.cells, Nat.reduceAdd, Act.eval, Act.put] at H); have hc := H.cells; simp only [CellsOf, KnCells, knc, Nat.reduceAdd] at hc))) | go_values | go_skip | go_guarded | go_step | go_upon | go_back | dsimp only)
                refine ⟨⟨i + 1, d, by omega, by go_num, rfl, by omega, ?_, H.sel (by repeat (first | exact Sel.nil _ | (apply Sel.cons; focus (repeat (first | exact Split.here _ _ | apply Split.there)))))⟩, by simp [intOf]; omega⟩
                show d = _
                rw [hcat3.out, vq_snoc_no (fun e => e4 e.symm)]
                exact hd.out
            · obtain rfl : i = m := by omega
              rw [List.take_of_length_le (by rw [hm.out]; exact Nat.le_refl _)] at hd
              by_cases e5 : (d : Int) < (q : Int)
              · have hc := H.cells; simp only [CellsOf, KnCells, knc, Nat.reduceAdd] at hc
                repeat' (first | (go_big_may; (first
    | ((first
        | (refine loud_ rfl ?_; refine wpList_plain rfl (fun K hK => ?_); (first | (refine op_box _ _ rfl H (fun b w' H1 => hK _ _ ?_)) | (refine op_alloc _ rfl (zero_of _ _ rfl) H (fun b w' H1 => hK _ _ ?_)) | (refine op_store _ _ _ rfl rfl rfl H (by repeat (first | exact Split.here _ _ | apply Split.there)) (by kernel_rfl) (by kernel_rfl) (by kernel_rfl) (fun w' H1 => hK _ _ ?_)) | (refine op_buildSlice_all _ _ _ rfl (by first | exact elem25 | exact elem32 | exact elem35 | exact elem36 | exact elem37 | exact elem38 | exact elem41 | exact elem42 | exact elem45 | exact elem57 | exact elem62 | exact elem74 | exact elem98 | exact elem100 | exact elem137 | exact elem178 | exact elem179) (by kernel_rfl) (by kernel_rfl) (by kernel_rfl) H (fun b w' H1 => hK _ _ ?_))); clear hK K; replace H := H1; clear H1)); (try clear hc); (try simp only [nrm, splice, Value.cells, Nat.reduceAdd, Act.eval, Act.put] at H); have hc := H.cells; simp only [CellsOf, KnCells, knc, Nat.reduceAdd] at hc))) | go_values | go_skip | go_guarded | go_step | go_upon | go_back | dsimp only)
                refine ⟨⟨k + 1, by omega, by go_num, rfl, ?_, H.sel (by repeat (first | exact Sel.nil _ | (apply Sel.cons; focus (repeat (first | exact Split.here _ _ | apply Split.there)))))⟩, by simp [intOf]; omega⟩
                intro y hy
                rw [hcat.out] at hy
                rcases List.mem_append.1 hy with hy | hy
                · exact hno.out y hy
                · simp only [List.mem_singleton] at hy
                  subst hy
                  show vq P xh < q
                  rw [← hd.out]
                  omega
              · have hc := H.cells; simp only [CellsOf, KnCells, knc, Nat.reduceAdd] at hc
                repeat' (first | (go_big_may; (first
    | ((first
        | (refine loud_ rfl ?_; refine wpList_plain rfl (fun K hK => ?_); (first | (refine op_box _ _ rfl H (fun b w' H1 => hK _ _ ?_)) | (refine op_alloc _ rfl (zero_of _ _ rfl) H (fun b w' H1 => hK _ _ ?_)) | (refine op_store _ _ _ rfl rfl rfl H (by repeat (first | exact Split.here _ _ | apply Split.there)) (by kernel_rfl) (by kernel_rfl) (by kernel_rfl) (fun w' H1 => hK _ _ ?_)) | (refine op_buildSlice_all _ _ _ rfl (by first | exact elem25 | exact elem32 | exact elem35 | exact elem36 | exact elem37 | exact elem38 | exact elem41 | exact elem42 | exact elem45 | exact elem57 | exact elem62 | exact elem74 | exact elem98 | exact elem100 | exact elem137 | exact elem178 | exact elem179) (by kernel_rfl) (by kernel_rfl) (by kernel_rfl) H (fun b w' H1 => hK _ _ ?_))); clear hK K; replace H := H1; clear H1)); (try clear hc); (try simp only [nrm, splice, Value.cells, Nat.reduceAdd, Act.eval, Act.put] at H); have hc := H.cells; simp only [CellsOf, KnCells, knc, Nat.reduceAdd] at hc))) | go_values | go_skip | go_guarded | go_step | go_upon | go_back | dsimp only)
                have H0 : St [] w wr [(true, .row none 27 1 0 0 ((notX xh (P.take 0)).map iv)), (false, soft s1 ((P.map (·.2)).map iv)), (false, soft (some ⟨b2, o2, none⟩) ((P.map (·.1)).map h4))] := (H.nilRow _ _).sel (by repeat (first | exact Sel.nil _ | (apply Sel.cons; focus (repeat (first | exact Split.here _ _ | apply Split.there)))))
                clear H hc
                go_loopw [6, 103] (AtV4 i xh P s1 (some ⟨b2, o2, none⟩) w) (fun _ i9 _ => i - (intOf i9).toNat)
                case atStart => exact ⟨0, 0, 0, none, Nat.zero_le _, rfl, rfl, Nat.le_refl _, Lib.hid rfl, H0⟩
                case round =>
                  clear H0
                  obtain ⟨t, dd, cap, key, ht, rfl, rfl, hdt, hdd, H⟩ := hrel
                  by_cases hlt4 : t < i
                  · have hi' : t < P.length := by rw [← hm.out]; exact hlt4
                    have hcat3 : Hid (P.take (t + 1) = P.take t ++ [P[t]]) := (List.take_append_getElem hi').symm
                    obtain ⟨b3, o3, hs3, H1⟩ := H.elemSoft (Split.there _ (Split.there _ (Split.here _ _))) t [h4 (P[t]).1] (by show 0 < 1; omega) (by rw [List.length_map, List.length_map, ← hm.out]; show t + 1 ≤ i; omega) (by rw [List.map_map]; exact nested_at hi' (fun p => h4 p.1))
                    obtain ⟨rfl, rfl⟩ : b2 = b3 ∧ o2 = o3 := by simpa using hs3
                    obtain ⟨b4, o4, rfl, H2⟩ := H1.elemSoft (Split.there _ (Split.there _ (Split.here _ _))) t [iv (P[t]).2] (by show 0 < 1; omega) (by rw [List.length_map, List.length_map, ← hm.out]; show t + 1 ≤ i; omega) (by rw [List.map_map]; exact nested_at hi' (fun p => iv p.2))
                    clear H H1 hs3
                    have H := H2
                    clear H2
                    generalize P[t] = y at *
                    obtain ⟨yh, yi⟩ := y
                    clear hi'
                    simp only at H
                    by_cases e4 : xh = yh
                    · subst e4
                      have hc := H.cells; simp only [CellsOf, KnCells, knc, Nat.reduceAdd] at hc
                      repeat' (first | (go_big_may; (first
    | ((first
        | (refine loud_ rfl ?_; refine wpList_plain rfl (fun K hK => ?_); (first | (refine op_box _ _ rfl H (fun b w' H1 => hK _ _ ?_)) | (refine op_alloc _ rfl (zero_of _ _ rfl) H (fun b w' H1 => hK _ _ ?_)) | (refine op_store _ _ _ rfl rfl rfl H (by repeat (first | exact Split.here _ _ | apply Split.there)) (by kernel_rfl) (by kernel_rfl) (by kernel_rfl) (fun w' H1 => hK _ _ ?_)) | (refine op_buildSlice_all _ _ _ rfl (by first | exact elem25 | exact elem32 | exact elem35 | exact elem36 | exact elem37 | exact elem38 | exact elem41 | exact elem42 | exact elem45 | exact elem57 | exact elem62 | exact elem74 | exact elem98 | exact elem100 | exact elem137 | exact elem178 | exact elem179) (by kernel_rfl) (by kernel_rfl) (by kernel_rfl) H (fun b w' H1 => hK _ _ ?_))); clear hK K; replace H := H1; clear H1)); (try clear hc); (try simp only [nrm, splice, Value.cells, Nat.reduceAdd, Act.eval, Act.put] at H); have hc := H.cells; simp only [CellsOf, KnCells, knc, Nat.reduceAdd] at hc))) | go_values | go_skip | go_guarded | go_step | go_upon | go_back | dsimp only)
                      refine ⟨⟨t + 1, dd, cap, key, by omega, by go_num, rfl, by omega, ?_, ?_⟩, by simp [intOf]; omega⟩
                      · show dd = _
                        rw [hcat3.out, notX_no (p := (xh, yi)) rfl]
                        exact hdd.out
                      · rw [hcat3.out, notX_no (p := (xh, yi)) rfl]
                        exact H.sel (by repeat (first | exact Sel.nil _ | (apply Sel.cons; focus (repeat (first | exact Split.here _ _ | apply Split.there)))))
                    · have hc := H.cells; simp only [CellsOf, KnCells, knc, Nat.reduceAdd] at hc
                      repeat' (first | (go_big_may; (first
    | ((first
        | (refine loud_ rfl ?_; refine wpList_plain rfl (fun K hK => ?_); (first | (refine op_append_lit _ _ _ rfl elem32 rfl rfl H (by repeat (first | exact Split.here _ _ | apply Split.there)) (by repeat (first | exact Split.here _ _ | apply Split.there)) (by kernel_rfl) (by kernel_rfl) (by omega) (by unfold maxLen; omega) (fun key cap' w' H1 => hK _ _ ?_)) | (refine op_box _ _ rfl H (fun b w' H1 => hK _ _ ?_)) | (refine op_alloc _ rfl (zero_of _ _ rfl) H (fun b w' H1 => hK _ _ ?_)) | (refine op_store _ _ _ rfl rfl rfl H (by repeat (first | exact Split.here _ _ | apply Split.there)) (by kernel_rfl) (by kernel_rfl) (by kernel_rfl) (fun w' H1 => hK _ _ ?_)) | (refine op_buildSlice_all _ _ _ rfl (by first | exact elem25 | exact elem32 | exact elem35 | exact elem36 | exact elem37 | exact elem38 | exact elem41 | exact elem42 | exact elem45 | exact elem57 | exact elem62 | exact elem74 | exact elem98 | exact elem100 | exact elem137 | exact elem178 | exact elem179) (by kernel_rfl) (by kernel_rfl) (by kernel_rfl) H (fun b w' H1 => hK _ _ ?_))); clear hK K; replace H := H1; clear H1)); (try clear hc); (try simp only [nrm, splice, Value.cells, Nat.reduceAdd, Act.eval, Act.put] at H); have hc := H.cells; simp only [CellsOf, KnCells, knc, Nat.reduceAdd] at hc))) | go_values | go_skip | go_guarded | go_step | go_upon | go_back | dsimp only)
                      refine ⟨⟨t + 1, dd + 1, _, _, by omega, by go_num, rfl, by omega, ?_, ?_⟩, by simp [intOf]; omega⟩
                      · show dd + 1 = _
                        rw [hcat3.out, notX_yes (fun e => e4 e.symm), List.length_append, ← hdd.out]
                        rfl
                      · rw [hcat3.out, notX_yes (fun e => e4 e.symm), List.map_append]
                        exact H.sel (by repeat (first | exact Sel.nil _ | (apply Sel.cons; focus (repeat (first | exact Split.here _ _ | apply Split.there)))))
                  · obtain rfl : t = i := by omega
                    rw [List.take_of_length_le (by rw [hm.out]; exact Nat.le_refl _)] at hdd H
                    have hc := H.cells; simp only [CellsOf, KnCells, knc, Nat.reduceAdd] at hc
                    repeat' (first | (go_big_may; (first
    | ((first
        | (refine loud_ rfl ?_; refine wpList_plain rfl (fun K hK => ?_); (first | (refine op_box _ _ rfl H (fun b w' H1 => hK _ _ ?_)) | (refine op_alloc _ rfl (zero_of _ _ rfl) H (fun b w' H1 => hK _ _ ?_)) | (refine op_store _ _ _ rfl rfl rfl H (by repeat (first | exact Split.here _ _ | apply Split.there)) (by kernel_rfl) (by kernel_rfl) (by kernel_rfl) (fun w' H1 => hK _ _ ?_)) | (refine op_buildSlice_all _ _ _ rfl (by first | exact elem25 | exact elem32 | exact elem35 | exact elem36 | exact elem37 | exact elem38 | exact elem41 | exact elem42 | exact elem45 | exact elem57 | exact elem62 | exact elem74 | exact elem98 | exact elem100 | exact elem137 | exact elem178 | exact elem179) (by kernel_rfl) (by kernel_rfl) (by kernel_rfl) H (fun b w' H1 => hK _ _ ?_))); clear hK K; replace H := H1; clear H1)); (try clear hc); (try simp only [nrm, splice, Value.cells, Nat.reduceAdd, Act.eval, Act.put] at H); have hc := H.cells; simp only [CellsOf, KnCells, knc, Nat.reduceAdd] at hc))) | go_values | go_skip | go_guarded | go_step | go_upon | go_back | dsimp only)
                    go_ret3
                    exact ⟨notX xh P, true, false, key, dd, cap, .inr ⟨by rw [hP2.out]; exact hsome.out, rfl, rfl, .inl ⟨(xh, xi), by rw [hP2.out]; exact hmem.out, by rw [hP2.out, hn.out, ← hq2.out]; show q ≤ vq P xh; rw [← hd.out]; omega, by rw [hP2.out]; rfl⟩⟩, hdd, rfl, H.sel (by repeat (first | exact Sel.nil _ | (apply Sel.cons; focus (repeat (first | exact Split.here _ _ | apply Split.there)))))⟩
end Go.Proofs.Ytelddhcggmfloaa
