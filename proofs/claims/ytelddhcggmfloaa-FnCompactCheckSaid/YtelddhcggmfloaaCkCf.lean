import Derived.Test.YtelddhcggmfloaaCkCe
-- MORE
-- SUB2
namespace Go.Proofs.Ytelddhcggmfloaa
set_option linter.unusedVariables false
set_option linter.unusedSimpArgs false
set_option linter.unnecessarySimpa false
open Go Go.RowKit Go.V

/-! Numbers in rising order, as the reference puts them. -/
theorem lies_takeS {w : World} {s : Option Addr} {xs : List Value} (k : Nat) (h : Lies w s xs) : Lies w s (xs.take k) := by
  refine ⟨fun e => by rw [h.1 e]; simp, fun ad had j u hu => h.2 ad had j u ?_⟩
  rw [List.getElem?_take] at hu
  split at hu
  · exact hu
  · cases hu
theorem lies_dropS {w : World} {b cap k : Nat} {xs : List Value} (h : Lies w (some ⟨b, 0, none⟩) xs) (hc : cap = k → xs.drop k = []) : Lies w (if cap = k then some ⟨b, 0, none⟩ else some ⟨b, k, none⟩) (xs.drop k) := by
  by_cases e : cap = k
  · rw [if_pos e, hc e]
    exact Lies.nil w _
  · rw [if_neg e]
    refine ⟨fun h => (by cases h), fun ad had j u hu => ?_⟩
    cases had
    rw [List.getElem?_drop] at hu
    have h1 := h.2 _ rfl (k + j) u hu
    have e1 : ∀ i, (⟨b, 0, none⟩ : Addr).add i = ⟨b, i, none⟩ := by
      intro i
      unfold Addr.add
      split
      · simp_all
      · simp
    have e2 : (⟨b, k, none⟩ : Addr).add j = ⟨b, k + j, none⟩ := by
      unfold Addr.add
      split
      · simp_all
      · rfl
    rw [e1] at h1
    rw [e2]
    exact h1
theorem ins_sorted {ls : List Int} {k : Nat} {n : Int} (hs : sortedI ls) (hlo : ∀ a ∈ ls.take k, a ≤ n) (hhi : ∀ a ∈ ls.drop k, n ≤ a) : sortedI (ls.take k ++ [n] ++ ls.drop k) := by
  unfold sortedI at *
  have h1 : (ls.take k ++ ls.drop k).Pairwise (· ≤ ·) := by rw [List.take_append_drop]; exact hs
  rw [List.pairwise_append] at h1
  rw [List.pairwise_append, List.pairwise_append]
  refine ⟨⟨h1.1, List.pairwise_singleton _ _, fun a ha b hb => by simp only [List.mem_singleton] at hb; subst hb; exact hlo a ha⟩, h1.2.1, fun a ha b hb => ?_⟩
  rcases List.mem_append.1 ha with ha | ha
  · exact h1.2.2 a ha b hb
  · simp only [List.mem_singleton] at ha
    subst ha
    exact hhi b hb
theorem low_sorted {ls : List Int} {k : Nat} (hk : k < ls.length) (hs : sortedI ls) {n : Int} (h : ls[k] ≤ n) : ∀ a ∈ ls.take (k + 1), a ≤ n := by
  intro a ha
  obtain ⟨i, hi, rfl⟩ := List.getElem_of_mem ha
  rw [List.getElem_take]
  rw [List.length_take] at hi
  rcases Nat.lt_or_ge i k with h1 | h1
  · exact Int.le_trans (List.pairwise_iff_getElem.1 hs i k (by omega) hk h1) h
  · have : i = k := by omega
    subst this
    exact h
theorem ins_perm {ls P : List Int} {n : Int} {k : Nat} (h : ls.Perm P) : (ls.take k ++ [n] ++ ls.drop k).Perm (P ++ [n]) := by
  have h1 : (ls.take k ++ [n] ++ ls.drop k).Perm (ls.take k ++ ls.drop k ++ [n]) := by
    rw [List.append_assoc, List.append_assoc]
    exact List.Perm.append_left _ List.perm_append_comm
  rw [List.take_append_drop] at h1
  exact h1.trans (h.append_right _)
theorem one_ivs (l : List Int) : One (l.map iv) := by
  induction l with
  | nil => exact One.nil
  | cons a l ih => exact One.cons rfl ih
theorem ite_none {c : Prop} [Decidable c] {x y : Addr} {m : Nat} : (if c then some x else some y) = (none : Option Addr) → m = 0 := fun h => by split at h <;> cases h
def RsIs (xs ls : List Int) (j : Nat) : Prop := ls.Perm (xs.take j) ∧ sortedI ls ∧ ls.length = j
def AtRs (n : Nat) (xs : List Int) (src : Option Addr) (w : World) (ov i : Value) (wr : World) : Prop := ∃ (j cap : Nat) (key : Option Nat) (ls : List Int), j ≤ n ∧ i = .int .i64 j ∧ ov = sl key j cap ∧ Hid (RsIs xs ls j) ∧
  St [] w wr [(true, .row key 27 1 j cap (ls.map iv)), (false, soft src (xs.map iv))]
def AtRk (m : Nat) (ls xs : List Int) (x : Int) (b : Nat) (src : Option Addr) (w : World) (i : Value) (wr : World) : Prop := ∃ k : Nat, k ≤ m ∧ i = .int .i64 k ∧ Hid (∀ a ∈ ls.drop k, x < a) ∧ St [] w wr [(false, soft (some ⟨b, 0, none⟩) (ls.map iv)), (false, soft src (xs.map iv))]
def RsPost (xs : List Int) (n : Nat) (w : World) (e : Ending) (w' : World) : Prop := ∃ (ls : List Int) (cap : Nat) (key : Option Nat), Hid (ls.Perm xs ∧ sortedI ls ∧ ls.length = n) ∧ e = .returned (sl key n cap) ∧ St [] w w' [(true, .row key 27 1 n cap (ls.map iv))]
set_option maxRecDepth 10000 in
set_option maxHeartbeats 8000000 in
theorem rising_calls (xs : List Int) (src : Option Addr) (n c : Nat) (hn : Hid (xs.length = n)) (hl : n ≤ 1000) (w : World) (H : St [] w w [(false, soft src (xs.map iv))]) :
    Calls Try.prog 29 #[.slice src n c] w (RsPost xs n w) := by
  go_enter Try.func29, Try.ntmps29
  repeat' (first | (go_big_may; (first
    | ((first
        | (refine loud_ rfl ?_; refine wpList_plain rfl (fun K hK => ?_); (first | (refine op_box _ _ rfl H (fun b w' H1 => hK _ _ ?_)) | (refine op_alloc _ rfl (zero_of _ _ rfl) H (fun b w' H1 => hK _ _ ?_)) | (refine op_store _ _ _ rfl rfl rfl H (by repeat (first | exact Split.here _ _ | apply Split.there)) (by kernel_rfl) (by kernel_rfl) (by kernel_rfl) (fun w' H1 => hK _ _ ?_)) | (refine op_buildSlice_all _ _ _ rfl (by first | exact elem25 | exact elem32 | exact elem35 | exact elem36 | exact elem37 | exact elem38 | exact elem41 | exact elem42 | exact elem45 | exact elem57 | exact elem62 | exact elem74 | exact elem98 | exact elem100 | exact elem137 | exact elem178 | exact elem179) (by kernel_rfl) (by kernel_rfl) (by kernel_rfl) H (fun b w' H1 => hK _ _ ?_))); clear hK K; replace H := H1; clear H1)); (try clear hc); (try simp only [nrm, splice, Value.cells, Nat.reduceAdd, Act.eval, Act.put] at H); have hc := H.cells; simp only [CellsOf, KnCells, knc, Nat.reduceAdd] at hc))) | go_values | go_skip | go_guarded | go_step | go_upon | go_back | dsimp only)
  have H0 : St [] w w [(true, .row none 27 1 0 0 (([] : List Int).map iv)), (false, soft src (xs.map iv))] := H.nilRow _ _
  clear H
  (try clear hc)
  go_loopw [3, 10] (AtRs n xs src w) (fun _ i _ => n - (intOf i).toNat)
  case atStart => exact ⟨0, 0, none, [], Nat.zero_le _, rfl, rfl, Lib.hid ⟨List.Perm.nil, List.Pairwise.nil, rfl⟩, H0⟩
  case round =>
    clear H0
    obtain ⟨j, cap, key, ls, hj, rfl, rfl, hrs, H⟩ := hrel
    by_cases hlt : j < n
    case neg =>
      obtain rfl : j = n := by omega
      have hrs2 := hrs.out
      unfold RsIs at hrs2
      rw [List.take_of_length_le (by rw [hn.out]; exact Nat.le_refl _)] at hrs2
      have hc := H.cells; simp only [CellsOf, KnCells, knc, Nat.reduceAdd] at hc
      repeat' (first | (go_big_may; (first
    | ((first
        | (refine loud_ rfl ?_; refine wpList_plain rfl (fun K hK => ?_); (first | (refine op_box _ _ rfl H (fun b w' H1 => hK _ _ ?_)) | (refine op_alloc _ rfl (zero_of _ _ rfl) H (fun b w' H1 => hK _ _ ?_)) | (refine op_store _ _ _ rfl rfl rfl H (by repeat (first | exact Split.here _ _ | apply Split.there)) (by kernel_rfl) (by kernel_rfl) (by kernel_rfl) (fun w' H1 => hK _ _ ?_)) | (refine op_buildSlice_all _ _ _ rfl (by first | exact elem25 | exact elem32 | exact elem35 | exact elem36 | exact elem37 | exact elem38 | exact elem41 | exact elem42 | exact elem45 | exact elem57 | exact elem62 | exact elem74 | exact elem98 | exact elem100 | exact elem137 | exact elem178 | exact elem179) (by kernel_rfl) (by kernel_rfl) (by kernel_rfl) H (fun b w' H1 => hK _ _ ?_))); clear hK K; replace H := H1; clear H1)); (try clear hc); (try simp only [nrm, splice, Value.cells, Nat.reduceAdd, Act.eval, Act.put] at H); have hc := H.cells; simp only [CellsOf, KnCells, knc, Nat.reduceAdd] at hc))) | go_values | go_skip | go_guarded | go_step | go_upon | go_back | dsimp only)
      go_ret
      exact ⟨ls, cap, key, hrs2, rfl, H.sel (by repeat (first | exact Sel.nil _ | (apply Sel.cons; focus (repeat (first | exact Split.here _ _ | apply Split.there)))))⟩
    have hj' : j < xs.length := by rw [hn.out]; exact hlt
    have hcat : Hid (xs.take (j + 1) = xs.take j ++ [xs[j]]) := (List.take_append_getElem hj').symm
    obtain ⟨b1, o1, rfl, H1⟩ := H.elemSoft (Split.there _ (Split.here _ _)) j [iv xs[j]] (by show 0 < 1; omega) (by rw [List.length_map, hn.out]; show j + 1 ≤ n; omega) (by
      intro a ha1
      have : a = 0 := by simp at ha1; omega
      subst this
      simp [hj'])
    clear H
    have H := H1
    clear H1
    generalize xs[j] = x at *
    clear hj'
    have hlen := Lib.hid hrs.out.2.2
    have hjcap : j ≤ cap := (row_le (H.get (k := .row key 27 1 j cap (ls.map iv)) (by repeat (first | exact Split.here _ _ | apply Split.there)))).1
    have hcapm : cap ≤ maxLen := (row_le (H.get (k := .row key 27 1 j cap (ls.map iv)) (by repeat (first | exact Split.here _ _ | apply Split.there)))).2
    cases key with
    | none =>
      have hh := H.get (k := .row none 27 1 j cap (ls.map iv)) (by repeat (first | exact Split.here _ _ | apply Split.there))
      obtain ⟨rfl, rfl, hnil⟩ : j = 0 ∧ cap = 0 ∧ ls.map iv = [] := hh
      have hls : ls = [] := by simpa using hnil
      subst hls
      clear hnil
      have hc := H.cells; simp only [CellsOf, KnCells, knc, Nat.reduceAdd] at hc
      repeat' (first | (go_big_may; (first
    | ((first
        | (refine loud_ rfl ?_; refine wpList_plain rfl (fun K hK => ?_); (first | (refine op_box _ _ rfl H (fun b w' H1 => hK _ _ ?_)) | (refine op_alloc _ rfl (zero_of _ _ rfl) H (fun b w' H1 => hK _ _ ?_)) | (refine op_store _ _ _ rfl rfl rfl H (by repeat (first | exact Split.here _ _ | apply Split.there)) (by kernel_rfl) (by kernel_rfl) (by kernel_rfl) (fun w' H1 => hK _ _ ?_)) | (refine op_buildSlice_all _ _ _ rfl (by first | exact elem25 | exact elem32 | exact elem35 | exact elem36 | exact elem37 | exact elem38 | exact elem41 | exact elem42 | exact elem45 | exact elem57 | exact elem62 | exact elem74 | exact elem98 | exact elem100 | exact elem137 | exact elem178 | exact elem179) (by kernel_rfl) (by kernel_rfl) (by kernel_rfl) H (fun b w' H1 => hK _ _ ?_))); clear hK K; replace H := H1; clear H1)); (try clear hc); (try simp only [nrm, splice, Value.cells, Nat.reduceAdd, Act.eval, Act.put] at H); have hc := H.cells; simp only [CellsOf, KnCells, knc, Nat.reduceAdd] at hc))) | go_values | go_skip | go_guarded | go_step | go_upon | go_back | dsimp only)
      have H0 : St [] w wr [(false, soft (some ⟨b1, o1, none⟩) (xs.map iv))] := H.sel (by repeat (first | exact Sel.nil _ | (apply Sel.cons; focus (repeat (first | exact Split.here _ _ | apply Split.there)))))
      clear H hc
      go_loopw [6] (fun (i : Value) (wr : World) => i = .int .i64 0 ∧ St [] w wr [(false, soft (some ⟨b1, o1, none⟩) (xs.map iv))]) (fun _ _ => 0)
      case atStart => exact ⟨rfl, H0⟩
      case round =>
        clear H0
        obtain ⟨rfl, H⟩ := hrel
        have hc := H.cells; simp only [CellsOf, KnCells, knc, Nat.reduceAdd] at hc
        repeat' (first | (go_big_may; (first
    | ((first
        | (refine loud_ rfl ?_; refine wpList_plain rfl (fun K hK => ?_); (first | (refine op_buildSlice_none _ _ _ rfl elem32 rfl rfl H (fun b9 w' H1 => hK _ _ ?_)) | (refine op_append_lit _ _ _ rfl elem32 rfl rfl H (by repeat (first | exact Split.here _ _ | apply Split.there)) (by repeat (first | exact Split.here _ _ | apply Split.there)) (by kernel_rfl) (by kernel_rfl) (by omega) (by unfold maxLen; omega) (fun key cap' w' H1 => hK _ _ ?_)) | (refine op_append_lies _ _ _ rfl elem32 (src := none) (m := 0) (ys := []) rfl rfl H (by repeat (first | exact Split.here _ _ | apply Split.there)) (Lies.nil _ _) rfl (fun _ => rfl) One.nil (by omega) (by unfold maxLen; omega) (fun key2 cap2 w' H1 => hK _ _ ?_)) | (refine op_box _ _ rfl H (fun b w' H1 => hK _ _ ?_)) | (refine op_alloc _ rfl (zero_of _ _ rfl) H (fun b w' H1 => hK _ _ ?_)) | (refine op_store _ _ _ rfl rfl rfl H (by repeat (first | exact Split.here _ _ | apply Split.there)) (by kernel_rfl) (by kernel_rfl) (by kernel_rfl) (fun w' H1 => hK _ _ ?_)) | (refine op_buildSlice_all _ _ _ rfl (by first | exact elem25 | exact elem32 | exact elem35 | exact elem36 | exact elem37 | exact elem38 | exact elem41 | exact elem42 | exact elem45 | exact elem57 | exact elem62 | exact elem74 | exact elem98 | exact elem100 | exact elem137 | exact elem178 | exact elem179) (by kernel_rfl) (by kernel_rfl) (by kernel_rfl) H (fun b w' H1 => hK _ _ ?_))); clear hK K; replace H := H1; clear H1)); (try clear hc); (try simp only [nrm, splice, Value.cells, Nat.reduceAdd, Act.eval, Act.put] at H); have hc := H.cells; simp only [CellsOf, KnCells, knc, Nat.reduceAdd] at hc))) | go_values | go_skip | go_guarded | go_step | go_upon | go_back | dsimp only)
        refine ⟨⟨1, _, _, [x], by omega, by go_num, rfl, ?_, H.sel (by repeat (first | exact Sel.nil _ | (apply Sel.cons; focus (repeat (first | exact Split.here _ _ | apply Split.there)))))⟩, by simp [intOf]; omega⟩
        refine ⟨?_, List.pairwise_singleton _ _, rfl⟩
        have := hcat.out
        simp only [List.take_zero, List.nil_append] at this
        rw [show 0 + 1 = 1 from rfl] at this
        rw [this]
    | some bo =>
      (try simp only [show sl (some bo) j cap = Value.slice (some ⟨bo, 0, none⟩) j cap from rfl])
      replace H := H.rowSoft (key := some bo) (by repeat (first | exact Split.here _ _ | apply Split.there))
      (try simp only [List.append, List.cons_append, List.nil_append, Option.map_some] at H)
      have hc := H.cells; simp only [CellsOf, KnCells, knc, Nat.reduceAdd] at hc
      repeat' (first | (go_big_may; (first
    | ((first
        | (refine loud_ rfl ?_; refine wpList_plain rfl (fun K hK => ?_); (first | (refine op_box _ _ rfl H (fun b w' H1 => hK _ _ ?_)) | (refine op_alloc _ rfl (zero_of _ _ rfl) H (fun b w' H1 => hK _ _ ?_)) | (refine op_store _ _ _ rfl rfl rfl H (by repeat (first | exact Split.here _ _ | apply Split.there)) (by kernel_rfl) (by kernel_rfl) (by kernel_rfl) (fun w' H1 => hK _ _ ?_)) | (refine op_buildSlice_all _ _ _ rfl (by first | exact elem25 | exact elem32 | exact elem35 | exact elem36 | exact elem37 | exact elem38 | exact elem41 | exact elem42 | exact elem45 | exact elem57 | exact elem62 | exact elem74 | exact elem98 | exact elem100 | exact elem137 | exact elem178 | exact elem179) (by kernel_rfl) (by kernel_rfl) (by kernel_rfl) H (fun b w' H1 => hK _ _ ?_))); clear hK K; replace H := H1; clear H1)); (try clear hc); (try simp only [nrm, splice, Value.cells, Nat.reduceAdd, Act.eval, Act.put] at H); have hc := H.cells; simp only [CellsOf, KnCells, knc, Nat.reduceAdd] at hc))) | go_values | go_skip | go_guarded | go_step | go_upon | go_back | dsimp only)
      have H0 : St [] w wr [(false, soft (some ⟨bo, 0, none⟩) (ls.map iv)), (false, soft (some ⟨b1, o1, none⟩) (xs.map iv))] := H.sel (by repeat (first | exact Sel.nil _ | (apply Sel.cons; focus (repeat (first | exact Split.here _ _ | apply Split.there)))))
      clear H hc
      go_loopw [6] (AtRk j ls xs x bo (some ⟨b1, o1, none⟩) w) (fun i _ => (intOf i).toNat)
      case atStart => exact ⟨j, Nat.le_refl _, rfl, Lib.hid (by rw [List.drop_of_length_le (by rw [hlen.out]; exact Nat.le_refl _)]; simp), H0⟩
      case round =>
        clear H0
        obtain ⟨k, hk, rfl, hhi, H⟩ := hrel
        by_cases hlo : ∃ (hk1 : k - 1 < ls.length), 0 < k ∧ x < ls[k - 1]
        · obtain ⟨hk1, hk0, hgt⟩ := hlo
          obtain ⟨k, rfl⟩ : ∃ q, k = q + 1 := ⟨k - 1, by omega⟩
          simp only [Nat.add_sub_cancel] at hk1 hgt
          obtain ⟨b3, o3, hs3, H1⟩ := H.elemSoft (Split.here _ _) k [iv ls[k]] (by show 0 < 1; omega) (by rw [List.length_map]; show k + 1 ≤ _; omega) (by
            intro a ha1
            have : a = 0 := by simp at ha1; omega
            subst this
            simp [hk1])
          obtain ⟨rfl, rfl⟩ : bo = b3 ∧ 0 = o3 := by simpa using hs3
          have hdr := Lib.hid (List.drop_eq_getElem_cons hk1)
          clear H hs3
          have H := H1
          clear H1
          generalize ls[k] = y at *
          clear hk1
          have hsub : ((k + 1 : Nat) : Int) - 1 = (k : Nat) := by omega
          have hpos : (0 : Int) < ((k + 1 : Nat) : Int) := by omega
          (try simp only [Nat.zero_add] at H)
          generalize hkk : ((k + 1 : Nat) : Int) = kk at *
          have hc := H.cells; simp only [CellsOf, KnCells, knc, Nat.reduceAdd] at hc
          repeat' (first | (go_big_may; (first
    | ((first
        | (refine loud_ rfl ?_; refine wpList_plain rfl (fun K hK => ?_); (first | (refine op_box _ _ rfl H (fun b w' H1 => hK _ _ ?_)) | (refine op_alloc _ rfl (zero_of _ _ rfl) H (fun b w' H1 => hK _ _ ?_)) | (refine op_store _ _ _ rfl rfl rfl H (by repeat (first | exact Split.here _ _ | apply Split.there)) (by kernel_rfl) (by kernel_rfl) (by kernel_rfl) (fun w' H1 => hK _ _ ?_)) | (refine op_buildSlice_all _ _ _ rfl (by first | exact elem25 | exact elem32 | exact elem35 | exact elem36 | exact elem37 | exact elem38 | exact elem41 | exact elem42 | exact elem45 | exact elem57 | exact elem62 | exact elem74 | exact elem98 | exact elem100 | exact elem137 | exact elem178 | exact elem179) (by kernel_rfl) (by kernel_rfl) (by kernel_rfl) H (fun b w' H1 => hK _ _ ?_))); clear hK K; replace H := H1; clear H1)); (try clear hc); (try simp only [nrm, splice, Value.cells, Nat.reduceAdd, Act.eval, Act.put] at H); have hc := H.cells; simp only [CellsOf, KnCells, knc, Nat.reduceAdd] at hc))) | go_values | go_skip | go_guarded | go_step | go_upon | go_back | dsimp only)
          refine ⟨⟨k, by omega, by go_num, ?_, H.sel (by repeat (first | exact Sel.nil _ | (apply Sel.cons; focus (repeat (first | exact Split.here _ _ | apply Split.there)))))⟩, by simp [intOf]; omega⟩
          intro a ha
          rw [hdr.out] at ha
          rcases List.mem_cons.1 ha with rfl | ha
          · exact hgt
          · exact hhi.out a ha
        · by_cases hk0 : k = 0
          · have hpos : ¬ (0 : Int) < (k : Int) := by omega
            have hlow : Hid (∀ a ∈ ls.take k, a ≤ x) := Lib.hid (by rw [hk0]; simp)
            replace hk0 := Lib.hid hk0
            clear hlo
            have hkc : k ≤ cap := by omega
            have hkcI : (k : Int) ≤ cap := by omega
            have hkjI : (k : Int) ≤ j := by omega
            have hjcI : (j : Int) ≤ cap := by omega
            have hcm : cap ≤ 9223372036854775807 := hcapm
            have hc := H.cells; simp only [CellsOf, KnCells, knc, Nat.reduceAdd] at hc
            repeat' (first | (go_big_may; (first
    | ((first
        | (refine loud_ rfl ?_; refine wpList_plain rfl (fun K hK => ?_); (first | (refine op_buildSlice_none _ _ _ rfl elem32 rfl rfl H (fun b9 w' H1 => hK _ _ ?_)) | (refine op_append_lies _ _ _ rfl elem32 (key := some b9) (n := 0) (cap := 0) (xs := []) (ys := (ls.map iv).take k) rfl rfl H (by repeat (first | exact Split.here _ _ | apply Split.there)) (lies_takeS k (H.lies (s := some ⟨bo, 0, none⟩) (by repeat (first | exact Split.here _ _ | apply Split.there)))) (by rw [List.length_take, List.length_map, hlen.out]; omega) (fun h => by cases h) (by rw [← List.map_take]; exact one_ivs _) (by omega) (by unfold maxLen; omega) (fun key cap' w' H1 => hK _ _ ?_)) | (refine op_append_lit _ _ _ rfl elem32 rfl rfl H (by repeat (first | exact Split.here _ _ | apply Split.there)) (by repeat (first | exact Split.here _ _ | apply Split.there)) (by kernel_rfl) (by kernel_rfl) (by omega) (by unfold maxLen; omega) (fun key cap' w' H1 => hK _ _ ?_)) | (refine op_append_lies _ _ _ rfl elem32 (ys := (ls.map iv).drop k) rfl rfl H (by repeat (first | exact Split.here _ _ | apply Split.there)) (lies_dropS (H.lies (s := some ⟨bo, 0, none⟩) (by repeat (first | exact Split.here _ _ | apply Split.there))) (fun e => List.drop_of_length_le (by rw [List.length_map, hlen.out]; omega))) (by rw [List.length_drop, List.length_map, hlen.out]; omega) ite_none (by rw [← List.map_drop]; exact one_ivs _) (by omega) (by unfold maxLen; omega) (fun key2 cap2 w' H1 => hK _ _ ?_)) | (refine op_box _ _ rfl H (fun b w' H1 => hK _ _ ?_)) | (refine op_alloc _ rfl (zero_of _ _ rfl) H (fun b w' H1 => hK _ _ ?_)) | (refine op_store _ _ _ rfl rfl rfl H (by repeat (first | exact Split.here _ _ | apply Split.there)) (by kernel_rfl) (by kernel_rfl) (by kernel_rfl) (fun w' H1 => hK _ _ ?_)) | (refine op_buildSlice_all _ _ _ rfl (by first | exact elem25 | exact elem32 | exact elem35 | exact elem36 | exact elem37 | exact elem38 | exact elem41 | exact elem42 | exact elem45 | exact elem57 | exact elem62 | exact elem74 | exact elem98 | exact elem100 | exact elem137 | exact elem178 | exact elem179) (by kernel_rfl) (by kernel_rfl) (by kernel_rfl) H (fun b w' H1 => hK _ _ ?_))); clear hK K; replace H := H1; clear H1)); (try clear hc); (try simp only [nrm, splice, Value.cells, Nat.reduceAdd, Act.eval, Act.put] at H); have hc := H.cells; simp only [CellsOf, KnCells, knc, Nat.reduceAdd] at hc))) | go_values | go_skip | go_guarded | go_step | go_upon | go_back | dsimp only)
            have hls2 : Hid (RsIs xs (ls.take k ++ [x] ++ ls.drop k) (j + 1)) := by
              refine ⟨?_, ins_sorted hrs.out.2.1 hlow.out (fun a ha => Int.le_of_lt (hhi.out a ha)), ?_⟩
              · rw [hcat.out]
                exact ins_perm hrs.out.1
              · rw [List.length_append, List.length_append, List.length_take, List.length_drop, hlen.out]
                show min k j + 1 + (j - k) = _
                omega
            have hjk : k + 1 + (j - k) = j + 1 := by omega
            have hmp : (ls.map iv).take k ++ iv x :: (ls.map iv).drop k = (ls.take k ++ [x] ++ ls.drop k).map iv := by simp
            (try rw [hjk] at H)
            (try simp only [hjk])
            refine ⟨⟨j + 1, _, _, _, by omega, by go_num, rfl, hls2, ?_⟩, by simp [intOf]; omega⟩
            rw [← hmp]
            exact H.sel (by repeat (first | exact Sel.nil _ | (apply Sel.cons; focus (repeat (first | exact Split.here _ _ | apply Split.there)))))
          · obtain ⟨k, rfl⟩ : ∃ q, k = q + 1 := ⟨k - 1, by omega⟩
            have hk1 : k < ls.length := by rw [hlen.out]; omega
            have hle : ls[k] ≤ x := by
              apply Classical.byContradiction
              intro h
              exact hlo ⟨by simpa using hk1, by omega, by simp only [Nat.add_sub_cancel]; omega⟩
            have hlow : Hid (∀ a ∈ ls.take (k + 1), a ≤ x) := low_sorted hk1 hrs.out.2.1 hle
            have hnl : Hid (¬ x < ls[k]) := by show ¬ _; omega
            obtain ⟨b3, o3, hs3, H1⟩ := H.elemSoft (Split.here _ _) k [iv ls[k]] (by show 0 < 1; omega) (by rw [List.length_map]; show k + 1 ≤ _; omega) (by
              intro a ha1
              have : a = 0 := by simp at ha1; omega
              subst this
              simp [hk1])
            obtain ⟨rfl, rfl⟩ : bo = b3 ∧ 0 = o3 := by simpa using hs3
            clear H hs3 hlo hle
            have H := H1
            clear H1
            generalize ls[k] = y at *
            clear hk1
            have hgt := hnl.out
            (try simp only [Nat.zero_add] at H)
            obtain ⟨kx, hkx⟩ : ∃ q, q = k + 1 := ⟨_, rfl⟩
            simp only [← hkx] at hlow hhi hk ⊢
            have hsub : (kx : Int) - 1 = (k : Nat) := by omega
            have hpos : (0 : Int) < (kx : Int) := by omega
            have hkj : k < j := by omega
            replace hkx := Lib.hid hkx
            have hkc : kx ≤ cap := by omega
            have hkcI : (kx : Int) ≤ cap := by omega
            have hkjI : (kx : Int) ≤ j := by omega
            have hjcI : (j : Int) ≤ cap := by omega
            have hcm : cap ≤ 9223372036854775807 := hcapm
            have hc := H.cells; simp only [CellsOf, KnCells, knc, Nat.reduceAdd] at hc
            repeat' (first | (go_big_may; (first
    | ((first
        | (refine loud_ rfl ?_; refine wpList_plain rfl (fun K hK => ?_); (first | (refine op_buildSlice_none _ _ _ rfl elem32 rfl rfl H (fun b9 w' H1 => hK _ _ ?_)) | (refine op_append_lies _ _ _ rfl elem32 (key := some b9) (n := 0) (cap := 0) (xs := []) (ys := (ls.map iv).take kx) rfl rfl H (by repeat (first | exact Split.here _ _ | apply Split.there)) (lies_takeS kx (H.lies (s := some ⟨bo, 0, none⟩) (by repeat (first | exact Split.here _ _ | apply Split.there)))) (by rw [List.length_take, List.length_map, hlen.out]; omega) (fun h => by cases h) (by rw [← List.map_take]; exact one_ivs _) (by omega) (by unfold maxLen; omega) (fun key cap' w' H1 => hK _ _ ?_)) | (refine op_append_lit _ _ _ rfl elem32 rfl rfl H (by repeat (first | exact Split.here _ _ | apply Split.there)) (by repeat (first | exact Split.here _ _ | apply Split.there)) (by kernel_rfl) (by kernel_rfl) (by omega) (by unfold maxLen; omega) (fun key cap' w' H1 => hK _ _ ?_)) | (refine op_append_lies _ _ _ rfl elem32 (ys := (ls.map iv).drop kx) rfl rfl H (by repeat (first | exact Split.here _ _ | apply Split.there)) (lies_dropS (H.lies (s := some ⟨bo, 0, none⟩) (by repeat (first | exact Split.here _ _ | apply Split.there))) (fun e => List.drop_of_length_le (by rw [List.length_map, hlen.out]; omega))) (by rw [List.length_drop, List.length_map, hlen.out]; omega) ite_none (by rw [← List.map_drop]; exact one_ivs _) (by omega) (by unfold maxLen; omega) (fun key2 cap2 w' H1 => hK _ _ ?_)) | (refine op_box _ _ rfl H (fun b w' H1 => hK _ _ ?_)) | (refine op_alloc _ rfl (zero_of _ _ rfl) H (fun b w' H1 => hK _ _ ?_)) | (refine op_store _ _ _ rfl rfl rfl H (by repeat (first | exact Split.here _ _ | apply Split.there)) (by kernel_rfl) (by kernel_rfl) (by kernel_rfl) (fun w' H1 => hK _ _ ?_)) | (refine op_buildSlice_all _ _ _ rfl (by first | exact elem25 | exact elem32 | exact elem35 | exact elem36 | exact elem37 | exact elem38 | exact elem41 | exact elem42 | exact elem45 | exact elem57 | exact elem62 | exact elem74 | exact elem98 | exact elem100 | exact elem137 | exact elem178 | exact elem179) (by kernel_rfl) (by kernel_rfl) (by kernel_rfl) H (fun b w' H1 => hK _ _ ?_))); clear hK K; replace H := H1; clear H1)); (try clear hc); (try simp only [nrm, splice, Value.cells, Nat.reduceAdd, Act.eval, Act.put] at H); have hc := H.cells; simp only [CellsOf, KnCells, knc, Nat.reduceAdd] at hc))) | go_values | go_skip | go_guarded | go_step | go_upon | go_back | dsimp only)
            have hls2 : Hid (RsIs xs (ls.take kx ++ [x] ++ ls.drop kx) (j + 1)) := by
              refine ⟨?_, ins_sorted hrs.out.2.1 hlow.out (fun a ha => Int.le_of_lt (hhi.out a ha)), ?_⟩
              · rw [hcat.out]
                exact ins_perm hrs.out.1
              · rw [List.length_append, List.length_append, List.length_take, List.length_drop, hlen.out]
                show min kx j + 1 + (j - kx) = _
                omega
            have hjk : kx + 1 + (j - kx) = j + 1 := by omega
            have hmp : (ls.map iv).take kx ++ iv x :: (ls.map iv).drop kx = (ls.take kx ++ [x] ++ ls.drop kx).map iv := by simp
            (try rw [hjk] at H)
            (try simp only [hjk])
            refine ⟨⟨j + 1, _, _, _, by omega, by go_num, rfl, hls2, ?_⟩, by simp [intOf]; omega⟩
            rw [← hmp]
            exact H.sel (by repeat (first | exact Sel.nil _ | (apply Sel.cons; focus (repeat (first | exact Split.here _ _ | apply Split.there)))))
end Go.Proofs.Ytelddhcggmfloaa
