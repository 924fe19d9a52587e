import Derived.Test.YtjknkdmenhcbkaaDoorCpuH
-- MORE
-- SUB2
namespace Go.Proofs.YtjknkdmenhcbkaaDoor
set_option linter.unusedVariables false
set_option linter.unusedSimpArgs false
set_option linter.unnecessarySimpa false
open Go Go.RowKit Go.V Go.Lib

def numOf (b : List UInt8) (mn : Bool) : Int × Bool := match numFold 0 b with
  | none => (0, false)
  | some n => if b = [] then (0, false) else (if mn then -(n : Int) else n, true)
theorem numv_eq (l : List UInt8) : numv l = numOf (body l) (neg l) := rfl
def AtNum (w : World) (b : List UInt8) (n i : Value) (wr : World) : Prop := ∃ v q : Nat, n = .int .i64 v ∧ i = .int .i64 q ∧ v ≤ 2199023255552 ∧ q ≤ b.length ∧ Hid (numFold 0 b = numFold v (b.drop q)) ∧ wr = w
theorem numFold_no {n : Nat} {c : UInt8} {r : List UInt8} (h : ¬(48 ≤ c.toNat ∧ c.toNat ≤ 57)) : numFold n (c :: r) = none := by
  unfold numFold
  rw [if_neg h]
theorem numFold_yes {n : Nat} {c : UInt8} {r : List UInt8} (h : 48 ≤ c.toNat ∧ c.toNat ≤ 57) : numFold n (c :: r) = numFold (min (n * 10 + (c.toNat - 48)) 2199023255552) r := by
  conv => lhs; unfold numFold
  rw [if_pos h]
theorem numOf_at {b : List UInt8} {mn : Bool} {v : Nat} (h : numFold 0 b = some v) : numOf b mn = (if mn then -(v : Int) else (v : Int), decide (0 < b.length)) := by
  unfold numOf
  rw [h]
  cases b with
  | nil =>
    simp only [numFold, Option.some.injEq] at h
    subst h
    cases mn <;> rfl
  | cons c r =>
    have : decide (0 < (c :: r).length) = true := by simp
    rw [this]
    rfl
set_option maxHeartbeats 1000000 in
set_option maxRecDepth 8000 in
theorem number_calls (l : List UInt8) (hl : l.length ≤ 900000) (w : World) :
    Calls Tryd.prog 35 #[.string (bs l)] w fun e w' => e = .returned (.tuple #[.int .i64 (numv l).1, .bool (numv l).2]) ∧ Ext [] w w' := by
  have H := St.init [] w
  rw [numv_eq]
  obtain ⟨b, hb⟩ : ∃ b, Hid (b = body l) := ⟨_, rfl⟩
  obtain ⟨mn, hmn⟩ : ∃ b, Hid (b = neg l) := ⟨_, rfl⟩
  rw [← hb.out, ← hmn.out]
  obtain ⟨res, hres⟩ : ∃ r, Hid (r = numOf b mn) := ⟨_, rfl⟩
  rw [← hres.out]
  cases l with
  | nil =>
    obtain rfl : b = [] := hb.out
    obtain rfl : mn = false := hmn.out
    have hres2 : res = (0, false) := hres.out
    clear hb hmn
    go_enter Tryd.func35, Tryd.ntmps35
    repeat' (first | (go_big_may; (first
    | ((first
        | (refine loud_ rfl ?_; refine wpList_plain rfl (fun K hK => ?_); (first | (refine op_box _ _ rfl H (fun b w' H1 => hK _ _ ?_)) | (refine op_alloc _ rfl (zero_of _ _ rfl) H (fun b w' H1 => hK _ _ ?_)) | (refine op_store _ _ _ rfl rfl rfl H (by repeat (first | exact Split.here _ _ | apply Split.there)) (by kernel_rfl) (by kernel_rfl) (by kernel_rfl) (fun w' H1 => hK _ _ ?_)) | (refine op_buildSlice_all _ _ _ rfl (by first | exact elem22 | exact elem45 | exact elem56 | exact elem58) (by kernel_rfl) (by kernel_rfl) (by kernel_rfl) H (fun b w' H1 => hK _ _ ?_))); clear hK K; replace H := H1; clear H1)); (try clear hc); (try simp only [nrm, splice, Value.cells, Nat.reduceAdd, Act.eval, Act.put] at H); have hc := H.cells; simp only [CellsOf, KnCells, knc, Nat.reduceAdd] at hc))) | go_values | go_skip | go_guarded | go_step | go_upon | go_back | dsimp only)
    go_loopw [5, 30] (fun n i (wr : World) => n = .int .i64 0 ∧ i = .int .i64 0 ∧ wr = w) (fun _ _ _ => 0)
    case atStart => exact ⟨rfl, rfl, rfl⟩
    case round =>
      obtain ⟨rfl, rfl, rfl⟩ := hrel
      repeat' (first | (go_big_may; (first
    | ((first
        | (refine loud_ rfl ?_; refine wpList_plain rfl (fun K hK => ?_); (first | (refine op_box _ _ rfl H (fun b w' H1 => hK _ _ ?_)) | (refine op_alloc _ rfl (zero_of _ _ rfl) H (fun b w' H1 => hK _ _ ?_)) | (refine op_store _ _ _ rfl rfl rfl H (by repeat (first | exact Split.here _ _ | apply Split.there)) (by kernel_rfl) (by kernel_rfl) (by kernel_rfl) (fun w' H1 => hK _ _ ?_)) | (refine op_buildSlice_all _ _ _ rfl (by first | exact elem22 | exact elem45 | exact elem56 | exact elem58) (by kernel_rfl) (by kernel_rfl) (by kernel_rfl) H (fun b w' H1 => hK _ _ ?_))); clear hK K; replace H := H1; clear H1)); (try clear hc); (try simp only [nrm, splice, Value.cells, Nat.reduceAdd, Act.eval, Act.put] at H); have hc := H.cells; simp only [CellsOf, KnCells, knc, Nat.reduceAdd] at hc))) | go_values | go_skip | go_guarded | go_step | go_upon | go_back | dsimp only)
      go_ret2
      exact ⟨by rw [hres2]; rfl, Ext.refl _ _⟩
  | cons c r =>
    have hsz := bs_size (c :: r)
    rw [List.length_cons] at hsz hl
    have hat : (bs (c :: r))[0]'(by rw [hsz]; omega) = c := rfl
    have hnc : neg (c :: r) = (c.toNat == 45) := rfl
    have hbc : body (c :: r) = if c.toNat = 43 ∨ c.toNat = 45 then r else c :: r := rfl
    have hbl : b.length ≤ r.length + 1 := by
      rw [hb.out, hbc]
      split <;> simp
    have hs1 : (bs (c :: r)).extract 1 (r.length + 1) = bs r := by rw [bs_extract]; simp
    by_cases h45 : c.toNat = 45
    · have hc45 : ((c.toNat : Int) == 45) = true := by simp; omega
      rw [h45] at hnc
      rw [if_pos (.inr h45)] at hbc
      obtain rfl : mn = true := hmn.out.trans hnc
      obtain rfl : b = r := hb.out.trans hbc
      clear hb hmn hnc hbc
      go_enter Tryd.func35, Tryd.ntmps35
      repeat' (first | (go_big_may; (first
    | ((first
        | (refine loud_ rfl ?_; refine wpList_plain rfl (fun K hK => ?_); (first | (refine op_box _ _ rfl H (fun b w' H1 => hK _ _ ?_)) | (refine op_alloc _ rfl (zero_of _ _ rfl) H (fun b w' H1 => hK _ _ ?_)) | (refine op_store _ _ _ rfl rfl rfl H (by repeat (first | exact Split.here _ _ | apply Split.there)) (by kernel_rfl) (by kernel_rfl) (by kernel_rfl) (fun w' H1 => hK _ _ ?_)) | (refine op_buildSlice_all _ _ _ rfl (by first | exact elem22 | exact elem45 | exact elem56 | exact elem58) (by kernel_rfl) (by kernel_rfl) (by kernel_rfl) H (fun b w' H1 => hK _ _ ?_))); clear hK K; replace H := H1; clear H1)); (try clear hc); (try simp only [nrm, splice, Value.cells, Nat.reduceAdd, Act.eval, Act.put] at H); have hc := H.cells; simp only [CellsOf, KnCells, knc, Nat.reduceAdd] at hc))) | go_values | go_skip | go_guarded | go_step | go_upon | go_back | dsimp only)
      clear hat hc45 h45 hs1 hsz
      have hbsz : (bs (b)).size = b.length := bs_size _
      go_loopw [5, 30] (AtNum w (b)) (fun _ i _ => b.length - (intOf i).toNat)
      case atStart => exact ⟨0, 0, rfl, rfl, by omega, Nat.zero_le _, rfl, rfl⟩
      case round =>
        clear H
        obtain ⟨v, q, rfl, rfl, hv, hq, hf, rfl⟩ := hrel
        have H := St.init [] wr
        have hq2 : q ≤ b.length := hq
        by_cases hlt : q < b.length
        · have hlt' : q < (b).length := hlt
          have hqs : q < (bs (b)).size := by rw [hbsz]; exact hlt
          have hat : (bs (b))[q] = (b)[q] := bs_at (b) q hqs
          have hdrop : (b).drop q = (b)[q] :: (b).drop (q + 1) := List.drop_eq_getElem_cons hlt'
          rw [hdrop] at hf
          clear hdrop
          have hclt : decide ((q : Int) < ((b.length : Nat) : Int)) = true := by simp; omega
          by_cases hd : 48 ≤ ((b)[q]).toNat ∧ ((b)[q]).toNat ≤ 57
          · rw [numFold_yes hd] at hf
            rw [← hat] at hf hd
            clear hat
            have hd1 : decide ((((bs (b))[q]).toNat : Int) < 48) = false := by simp; omega
            have hd2 : decide ((57 : Int) < (((bs (b))[q]).toNat : Int)) = false := by simp; omega
            generalize hxx : (bs (b))[q] = xq at *
            repeat' (first | (go_big_may; (first
    | ((first
        | (refine loud_ rfl ?_; refine wpList_plain rfl (fun K hK => ?_); (first | (refine op_box _ _ rfl H (fun b w' H1 => hK _ _ ?_)) | (refine op_alloc _ rfl (zero_of _ _ rfl) H (fun b w' H1 => hK _ _ ?_)) | (refine op_store _ _ _ rfl rfl rfl H (by repeat (first | exact Split.here _ _ | apply Split.there)) (by kernel_rfl) (by kernel_rfl) (by kernel_rfl) (fun w' H1 => hK _ _ ?_)) | (refine op_buildSlice_all _ _ _ rfl (by first | exact elem22 | exact elem45 | exact elem56 | exact elem58) (by kernel_rfl) (by kernel_rfl) (by kernel_rfl) H (fun b w' H1 => hK _ _ ?_))); clear hK K; replace H := H1; clear H1)); (try clear hc); (try simp only [nrm, splice, Value.cells, Nat.reduceAdd, Act.eval, Act.put] at H); have hc := H.cells; simp only [CellsOf, KnCells, knc, Nat.reduceAdd] at hc))) | go_values | go_skip | go_guarded | go_step | go_upon | go_back | dsimp only)
            exact ⟨⟨min (v * 10 + (xq.toNat - 48)) 2199023255552, q + 1, by congr 1; omega, by go_num, Nat.min_le_right _ _, by omega, hf, rfl⟩, by simp [intOf]; omega⟩
          · rw [numFold_no hd] at hf
            rw [← hat] at hd
            clear hat
            have hres2 : Hid (res = (0, false)) := by
              show _ = _
              rw [hres.out]
              unfold numOf
              rw [hf.out]
            rcases Nat.lt_or_ge ((bs (b))[q]).toNat 48 with h1 | h1
            · have hd1 : decide ((((bs (b))[q]).toNat : Int) < 48) = true := by simp; omega
              clear hd
              repeat' (first | (go_big_may; (first
    | ((first
        | (refine loud_ rfl ?_; refine wpList_plain rfl (fun K hK => ?_); (first | (refine op_box _ _ rfl H (fun b w' H1 => hK _ _ ?_)) | (refine op_alloc _ rfl (zero_of _ _ rfl) H (fun b w' H1 => hK _ _ ?_)) | (refine op_store _ _ _ rfl rfl rfl H (by repeat (first | exact Split.here _ _ | apply Split.there)) (by kernel_rfl) (by kernel_rfl) (by kernel_rfl) (fun w' H1 => hK _ _ ?_)) | (refine op_buildSlice_all _ _ _ rfl (by first | exact elem22 | exact elem45 | exact elem56 | exact elem58) (by kernel_rfl) (by kernel_rfl) (by kernel_rfl) H (fun b w' H1 => hK _ _ ?_))); clear hK K; replace H := H1; clear H1)); (try clear hc); (try simp only [nrm, splice, Value.cells, Nat.reduceAdd, Act.eval, Act.put] at H); have hc := H.cells; simp only [CellsOf, KnCells, knc, Nat.reduceAdd] at hc))) | go_values | go_skip | go_guarded | go_step | go_upon | go_back | dsimp only)
              go_ret2
              exact ⟨by rw [hres2.out]; rfl, H.ext⟩
            · have hd1 : decide ((((bs (b))[q]).toNat : Int) < 48) = false := by simp; omega
              have hd2 : decide ((57 : Int) < (((bs (b))[q]).toNat : Int)) = true := by simp; omega
              clear hd
              repeat' (first | (go_big_may; (first
    | ((first
        | (refine loud_ rfl ?_; refine wpList_plain rfl (fun K hK => ?_); (first | (refine op_box _ _ rfl H (fun b w' H1 => hK _ _ ?_)) | (refine op_alloc _ rfl (zero_of _ _ rfl) H (fun b w' H1 => hK _ _ ?_)) | (refine op_store _ _ _ rfl rfl rfl H (by repeat (first | exact Split.here _ _ | apply Split.there)) (by kernel_rfl) (by kernel_rfl) (by kernel_rfl) (fun w' H1 => hK _ _ ?_)) | (refine op_buildSlice_all _ _ _ rfl (by first | exact elem22 | exact elem45 | exact elem56 | exact elem58) (by kernel_rfl) (by kernel_rfl) (by kernel_rfl) H (fun b w' H1 => hK _ _ ?_))); clear hK K; replace H := H1; clear H1)); (try clear hc); (try simp only [nrm, splice, Value.cells, Nat.reduceAdd, Act.eval, Act.put] at H); have hc := H.cells; simp only [CellsOf, KnCells, knc, Nat.reduceAdd] at hc))) | go_values | go_skip | go_guarded | go_step | go_upon | go_back | dsimp only)
              go_ret2
              exact ⟨by rw [hres2.out]; rfl, H.ext⟩
        · have hclt : decide ((q : Int) < ((b.length : Nat) : Int)) = false := by simp; omega
          have hfv : numFold 0 (b) = some v := by
            rw [hf.out, List.drop_of_length_le (by show b.length ≤ q; omega)]
            rfl
          have hres2 : Hid (res = (-(v : Int), decide (0 < (b).length))) := by
            show _ = _
            rw [hres.out, numOf_at hfv]
            rfl
          clear hfv hf
          repeat' (first | (go_big_may; (first
    | ((first
        | (refine loud_ rfl ?_; refine wpList_plain rfl (fun K hK => ?_); (first | (refine op_box _ _ rfl H (fun b w' H1 => hK _ _ ?_)) | (refine op_alloc _ rfl (zero_of _ _ rfl) H (fun b w' H1 => hK _ _ ?_)) | (refine op_store _ _ _ rfl rfl rfl H (by repeat (first | exact Split.here _ _ | apply Split.there)) (by kernel_rfl) (by kernel_rfl) (by kernel_rfl) (fun w' H1 => hK _ _ ?_)) | (refine op_buildSlice_all _ _ _ rfl (by first | exact elem22 | exact elem45 | exact elem56 | exact elem58) (by kernel_rfl) (by kernel_rfl) (by kernel_rfl) H (fun b w' H1 => hK _ _ ?_))); clear hK K; replace H := H1; clear H1)); (try clear hc); (try simp only [nrm, splice, Value.cells, Nat.reduceAdd, Act.eval, Act.put] at H); have hc := H.cells; simp only [CellsOf, KnCells, knc, Nat.reduceAdd] at hc))) | go_values | go_skip | go_guarded | go_step | go_upon | go_back | dsimp only)
          go_ret2
          exact ⟨by rw [hres2.out]; first | rfl | (simp; rfl) | simp, H.ext⟩
    · have hc45 : ((c.toNat : Int) == 45) = false := by simp; omega
      have hnc2 : neg (c :: r) = false := by rw [hnc]; simpa using h45
      obtain rfl : mn = false := hmn.out.trans hnc2
      by_cases h43 : c.toNat = 43
      · have hc43 : ((c.toNat : Int) == 43) = true := by simp; omega
        rw [if_pos (.inl h43)] at hbc
        obtain rfl : b = r := hb.out.trans hbc
        clear hb hmn hnc hbc
        go_enter Tryd.func35, Tryd.ntmps35
        repeat' (first | (go_big_may; (first
    | ((first
        | (refine loud_ rfl ?_; refine wpList_plain rfl (fun K hK => ?_); (first | (refine op_box _ _ rfl H (fun b w' H1 => hK _ _ ?_)) | (refine op_alloc _ rfl (zero_of _ _ rfl) H (fun b w' H1 => hK _ _ ?_)) | (refine op_store _ _ _ rfl rfl rfl H (by repeat (first | exact Split.here _ _ | apply Split.there)) (by kernel_rfl) (by kernel_rfl) (by kernel_rfl) (fun w' H1 => hK _ _ ?_)) | (refine op_buildSlice_all _ _ _ rfl (by first | exact elem22 | exact elem45 | exact elem56 | exact elem58) (by kernel_rfl) (by kernel_rfl) (by kernel_rfl) H (fun b w' H1 => hK _ _ ?_))); clear hK K; replace H := H1; clear H1)); (try clear hc); (try simp only [nrm, splice, Value.cells, Nat.reduceAdd, Act.eval, Act.put] at H); have hc := H.cells; simp only [CellsOf, KnCells, knc, Nat.reduceAdd] at hc))) | go_values | go_skip | go_guarded | go_step | go_upon | go_back | dsimp only)
        clear hat hc45 h45 hs1 hsz
        have hbsz : (bs (b)).size = b.length := bs_size _
        go_loopw [5, 30] (AtNum w (b)) (fun _ i _ => b.length - (intOf i).toNat)
        case atStart => exact ⟨0, 0, rfl, rfl, by omega, Nat.zero_le _, rfl, rfl⟩
        case round =>
          clear H
          obtain ⟨v, q, rfl, rfl, hv, hq, hf, rfl⟩ := hrel
          have H := St.init [] wr
          have hq2 : q ≤ b.length := hq
          by_cases hlt : q < b.length
          · have hlt' : q < (b).length := hlt
            have hqs : q < (bs (b)).size := by rw [hbsz]; exact hlt
            have hat : (bs (b))[q] = (b)[q] := bs_at (b) q hqs
            have hdrop : (b).drop q = (b)[q] :: (b).drop (q + 1) := List.drop_eq_getElem_cons hlt'
            rw [hdrop] at hf
            clear hdrop
            have hclt : decide ((q : Int) < ((b.length : Nat) : Int)) = true := by simp; omega
            by_cases hd : 48 ≤ ((b)[q]).toNat ∧ ((b)[q]).toNat ≤ 57
            · rw [numFold_yes hd] at hf
              rw [← hat] at hf hd
              clear hat
              have hd1 : decide ((((bs (b))[q]).toNat : Int) < 48) = false := by simp; omega
              have hd2 : decide ((57 : Int) < (((bs (b))[q]).toNat : Int)) = false := by simp; omega
              generalize hxx : (bs (b))[q] = xq at *
              repeat' (first | (go_big_may; (first
    | ((first
        | (refine loud_ rfl ?_; refine wpList_plain rfl (fun K hK => ?_); (first | (refine op_box _ _ rfl H (fun b w' H1 => hK _ _ ?_)) | (refine op_alloc _ rfl (zero_of _ _ rfl) H (fun b w' H1 => hK _ _ ?_)) | (refine op_store _ _ _ rfl rfl rfl H (by repeat (first | exact Split.here _ _ | apply Split.there)) (by kernel_rfl) (by kernel_rfl) (by kernel_rfl) (fun w' H1 => hK _ _ ?_)) | (refine op_buildSlice_all _ _ _ rfl (by first | exact elem22 | exact elem45 | exact elem56 | exact elem58) (by kernel_rfl) (by kernel_rfl) (by kernel_rfl) H (fun b w' H1 => hK _ _ ?_))); clear hK K; replace H := H1; clear H1)); (try clear hc); (try simp only [nrm, splice, Value.cells, Nat.reduceAdd, Act.eval, Act.put] at H); have hc := H.cells; simp only [CellsOf, KnCells, knc, Nat.reduceAdd] at hc))) | go_values | go_skip | go_guarded | go_step | go_upon | go_back | dsimp only)
              exact ⟨⟨min (v * 10 + (xq.toNat - 48)) 2199023255552, q + 1, by congr 1; omega, by go_num, Nat.min_le_right _ _, by omega, hf, rfl⟩, by simp [intOf]; omega⟩
            · rw [numFold_no hd] at hf
              rw [← hat] at hd
              clear hat
              have hres2 : Hid (res = (0, false)) := by
                show _ = _
                rw [hres.out]
                unfold numOf
                rw [hf.out]
              rcases Nat.lt_or_ge ((bs (b))[q]).toNat 48 with h1 | h1
              · have hd1 : decide ((((bs (b))[q]).toNat : Int) < 48) = true := by simp; omega
                clear hd
                repeat' (first | (go_big_may; (first
    | ((first
        | (refine loud_ rfl ?_; refine wpList_plain rfl (fun K hK => ?_); (first | (refine op_box _ _ rfl H (fun b w' H1 => hK _ _ ?_)) | (refine op_alloc _ rfl (zero_of _ _ rfl) H (fun b w' H1 => hK _ _ ?_)) | (refine op_store _ _ _ rfl rfl rfl H (by repeat (first | exact Split.here _ _ | apply Split.there)) (by kernel_rfl) (by kernel_rfl) (by kernel_rfl) (fun w' H1 => hK _ _ ?_)) | (refine op_buildSlice_all _ _ _ rfl (by first | exact elem22 | exact elem45 | exact elem56 | exact elem58) (by kernel_rfl) (by kernel_rfl) (by kernel_rfl) H (fun b w' H1 => hK _ _ ?_))); clear hK K; replace H := H1; clear H1)); (try clear hc); (try simp only [nrm, splice, Value.cells, Nat.reduceAdd, Act.eval, Act.put] at H); have hc := H.cells; simp only [CellsOf, KnCells, knc, Nat.reduceAdd] at hc))) | go_values | go_skip | go_guarded | go_step | go_upon | go_back | dsimp only)
                go_ret2
                exact ⟨by rw [hres2.out]; rfl, H.ext⟩
              · have hd1 : decide ((((bs (b))[q]).toNat : Int) < 48) = false := by simp; omega
                have hd2 : decide ((57 : Int) < (((bs (b))[q]).toNat : Int)) = true := by simp; omega
                clear hd
                repeat' (first | (go_big_may; (first
    | ((first
        | (refine loud_ rfl ?_; refine wpList_plain rfl (fun K hK => ?_); (first | (refine op_box _ _ rfl H (fun b w' H1 => hK _ _ ?_)) | (refine op_alloc _ rfl (zero_of _ _ rfl) H (fun b w' H1 => hK _ _ ?_)) | (refine op_store _ _ _ rfl rfl rfl H (by repeat (first | exact Split.here _ _ | apply Split.there)) (by kernel_rfl) (by kernel_rfl) (by kernel_rfl) (fun w' H1 => hK _ _ ?_)) | (refine op_buildSlice_all _ _ _ rfl (by first | exact elem22 | exact elem45 | exact elem56 | exact elem58) (by kernel_rfl) (by kernel_rfl) (by kernel_rfl) H (fun b w' H1 => hK _ _ ?_))); clear hK K; replace H := H1; clear H1)); (try clear hc); (try simp only [nrm, splice, Value.cells, Nat.reduceAdd, Act.eval, Act.put] at H); have hc := H.cells; simp only [CellsOf, KnCells, knc, Nat.reduceAdd] at hc))) | go_values | go_skip | go_guarded | go_step | go_upon | go_back | dsimp only)
                go_ret2
                exact ⟨by rw [hres2.out]; rfl, H.ext⟩
          · have hclt : decide ((q : Int) < ((b.length : Nat) : Int)) = false := by simp; omega
            have hfv : numFold 0 (b) = some v := by
              rw [hf.out, List.drop_of_length_le (by show b.length ≤ q; omega)]
              rfl
            have hres2 : Hid (res = ((v : Int), decide (0 < (b).length))) := by
              show _ = _
              rw [hres.out, numOf_at hfv]
              rfl
            clear hfv hf
            repeat' (first | (go_big_may; (first
    | ((first
        | (refine loud_ rfl ?_; refine wpList_plain rfl (fun K hK => ?_); (first | (refine op_box _ _ rfl H (fun b w' H1 => hK _ _ ?_)) | (refine op_alloc _ rfl (zero_of _ _ rfl) H (fun b w' H1 => hK _ _ ?_)) | (refine op_store _ _ _ rfl rfl rfl H (by repeat (first | exact Split.here _ _ | apply Split.there)) (by kernel_rfl) (by kernel_rfl) (by kernel_rfl) (fun w' H1 => hK _ _ ?_)) | (refine op_buildSlice_all _ _ _ rfl (by first | exact elem22 | exact elem45 | exact elem56 | exact elem58) (by kernel_rfl) (by kernel_rfl) (by kernel_rfl) H (fun b w' H1 => hK _ _ ?_))); clear hK K; replace H := H1; clear H1)); (try clear hc); (try simp only [nrm, splice, Value.cells, Nat.reduceAdd, Act.eval, Act.put] at H); have hc := H.cells; simp only [CellsOf, KnCells, knc, Nat.reduceAdd] at hc))) | go_values | go_skip | go_guarded | go_step | go_upon | go_back | dsimp only)
            go_ret2
            exact ⟨by rw [hres2.out]; first | rfl | (simp; rfl) | simp, H.ext⟩
      · have hc43 : ((c.toNat : Int) == 43) = false := by simp; omega
        rw [if_neg (by omega)] at hbc
        obtain rfl : b = c :: r := hb.out.trans hbc
        clear hb hmn hnc hbc
        go_enter Tryd.func35, Tryd.ntmps35
        repeat' (first | (go_big_may; (first
    | ((first
        | (refine loud_ rfl ?_; refine wpList_plain rfl (fun K hK => ?_); (first | (refine op_box _ _ rfl H (fun b w' H1 => hK _ _ ?_)) | (refine op_alloc _ rfl (zero_of _ _ rfl) H (fun b w' H1 => hK _ _ ?_)) | (refine op_store _ _ _ rfl rfl rfl H (by repeat (first | exact Split.here _ _ | apply Split.there)) (by kernel_rfl) (by kernel_rfl) (by kernel_rfl) (fun w' H1 => hK _ _ ?_)) | (refine op_buildSlice_all _ _ _ rfl (by first | exact elem22 | exact elem45 | exact elem56 | exact elem58) (by kernel_rfl) (by kernel_rfl) (by kernel_rfl) H (fun b w' H1 => hK _ _ ?_))); clear hK K; replace H := H1; clear H1)); (try clear hc); (try simp only [nrm, splice, Value.cells, Nat.reduceAdd, Act.eval, Act.put] at H); have hc := H.cells; simp only [CellsOf, KnCells, knc, Nat.reduceAdd] at hc))) | go_values | go_skip | go_guarded | go_step | go_upon | go_back | dsimp only)
        clear hat hc45 h45 hs1 hsz
        have hbsz : (bs (c :: r)).size = r.length + 1 := bs_size _
        go_loopw [5, 30] (AtNum w (c :: r)) (fun _ i _ => r.length + 1 - (intOf i).toNat)
        case atStart => exact ⟨0, 0, rfl, rfl, by omega, Nat.zero_le _, rfl, rfl⟩
        case round =>
          clear H
          obtain ⟨v, q, rfl, rfl, hv, hq, hf, rfl⟩ := hrel
          have H := St.init [] wr
          have hq2 : q ≤ r.length + 1 := hq
          by_cases hlt : q < r.length + 1
          · have hlt' : q < (c :: r).length := hlt
            have hqs : q < (bs (c :: r)).size := by rw [hbsz]; exact hlt
            have hat : (bs (c :: r))[q] = (c :: r)[q] := bs_at (c :: r) q hqs
            have hdrop : (c :: r).drop q = (c :: r)[q] :: (c :: r).drop (q + 1) := List.drop_eq_getElem_cons hlt'
            rw [hdrop] at hf
            clear hdrop
            have hclt : decide ((q : Int) < ((r.length + 1 : Nat) : Int)) = true := by simp; omega
            by_cases hd : 48 ≤ ((c :: r)[q]).toNat ∧ ((c :: r)[q]).toNat ≤ 57
            · rw [numFold_yes hd] at hf
              rw [← hat] at hf hd
              clear hat
              have hd1 : decide ((((bs (c :: r))[q]).toNat : Int) < 48) = false := by simp; omega
              have hd2 : decide ((57 : Int) < (((bs (c :: r))[q]).toNat : Int)) = false := by simp; omega
              generalize hxx : (bs (c :: r))[q] = xq at *
              repeat' (first | (go_big_may; (first
    | ((first
        | (refine loud_ rfl ?_; refine wpList_plain rfl (fun K hK => ?_); (first | (refine op_box _ _ rfl H (fun b w' H1 => hK _ _ ?_)) | (refine op_alloc _ rfl (zero_of _ _ rfl) H (fun b w' H1 => hK _ _ ?_)) | (refine op_store _ _ _ rfl rfl rfl H (by repeat (first | exact Split.here _ _ | apply Split.there)) (by kernel_rfl) (by kernel_rfl) (by kernel_rfl) (fun w' H1 => hK _ _ ?_)) | (refine op_buildSlice_all _ _ _ rfl (by first | exact elem22 | exact elem45 | exact elem56 | exact elem58) (by kernel_rfl) (by kernel_rfl) (by kernel_rfl) H (fun b w' H1 => hK _ _ ?_))); clear hK K; replace H := H1; clear H1)); (try clear hc); (try simp only [nrm, splice, Value.cells, Nat.reduceAdd, Act.eval, Act.put] at H); have hc := H.cells; simp only [CellsOf, KnCells, knc, Nat.reduceAdd] at hc))) | go_values | go_skip | go_guarded | go_step | go_upon | go_back | dsimp only)
              exact ⟨⟨min (v * 10 + (xq.toNat - 48)) 2199023255552, q + 1, by congr 1; omega, by go_num, Nat.min_le_right _ _, by omega, hf, rfl⟩, by simp [intOf]; omega⟩
            · rw [numFold_no hd] at hf
              rw [← hat] at hd
              clear hat
              have hres2 : Hid (res = (0, false)) := by
                show _ = _
                rw [hres.out]
                unfold numOf
                rw [hf.out]
              rcases Nat.lt_or_ge ((bs (c :: r))[q]).toNat 48 with h1 | h1
              · have hd1 : decide ((((bs (c :: r))[q]).toNat : Int) < 48) = true := by simp; omega
                clear hd
                repeat' (first | (go_big_may; (first
    | ((first
        | (refine loud_ rfl ?_; refine wpList_plain rfl (fun K hK => ?_); (first | (refine op_box _ _ rfl H (fun b w' H1 => hK _ _ ?_)) | (refine op_alloc _ rfl (zero_of _ _ rfl) H (fun b w' H1 => hK _ _ ?_)) | (refine op_store _ _ _ rfl rfl rfl H (by repeat (first | exact Split.here _ _ | apply Split.there)) (by kernel_rfl) (by kernel_rfl) (by kernel_rfl) (fun w' H1 => hK _ _ ?_)) | (refine op_buildSlice_all _ _ _ rfl (by first | exact elem22 | exact elem45 | exact elem56 | exact elem58) (by kernel_rfl) (by kernel_rfl) (by kernel_rfl) H (fun b w' H1 => hK _ _ ?_))); clear hK K; replace H := H1; clear H1)); (try clear hc); (try simp only [nrm, splice, Value.cells, Nat.reduceAdd, Act.eval, Act.put] at H); have hc := H.cells; simp only [CellsOf, KnCells, knc, Nat.reduceAdd] at hc))) | go_values | go_skip | go_guarded | go_step | go_upon | go_back | dsimp only)
                go_ret2
                exact ⟨by rw [hres2.out]; rfl, H.ext⟩
              · have hd1 : decide ((((bs (c :: r))[q]).toNat : Int) < 48) = false := by simp; omega
                have hd2 : decide ((57 : Int) < (((bs (c :: r))[q]).toNat : Int)) = true := by simp; omega
                clear hd
                repeat' (first | (go_big_may; (first
    | ((first
        | (refine loud_ rfl ?_; refine wpList_plain rfl (fun K hK => ?_); (first | (refine op_box _ _ rfl H (fun b w' H1 => hK _ _ ?_)) | (refine op_alloc _ rfl (zero_of _ _ rfl) H (fun b w' H1 => hK _ _ ?_)) | (refine op_store _ _ _ rfl rfl rfl H (by repeat (first | exact Split.here _ _ | apply Split.there)) (by kernel_rfl) (by kernel_rfl) (by kernel_rfl) (fun w' H1 => hK _ _ ?_)) | (refine op_buildSlice_all _ _ _ rfl (by first | exact elem22 | exact elem45 | exact elem56 | exact elem58) (by kernel_rfl) (by kernel_rfl) (by kernel_rfl) H (fun b w' H1 => hK _ _ ?_))); clear hK K; replace H := H1; clear H1)); (try clear hc); (try simp only [nrm, splice, Value.cells, Nat.reduceAdd, Act.eval, Act.put] at H); have hc := H.cells; simp only [CellsOf, KnCells, knc, Nat.reduceAdd] at hc))) | go_values | go_skip | go_guarded | go_step | go_upon | go_back | dsimp only)
                go_ret2
                exact ⟨by rw [hres2.out]; rfl, H.ext⟩
          · have hclt : decide ((q : Int) < ((r.length + 1 : Nat) : Int)) = false := by simp; omega
            have hfv : numFold 0 (c :: r) = some v := by
              rw [hf.out, List.drop_of_length_le (by show r.length + 1 ≤ q; omega)]
              rfl
            have hres2 : Hid (res = ((v : Int), decide (0 < (c :: r).length))) := by
              show _ = _
              rw [hres.out, numOf_at hfv]
              rfl
            clear hfv hf
            repeat' (first | (go_big_may; (first
    | ((first
        | (refine loud_ rfl ?_; refine wpList_plain rfl (fun K hK => ?_); (first | (refine op_box _ _ rfl H (fun b w' H1 => hK _ _ ?_)) | (refine op_alloc _ rfl (zero_of _ _ rfl) H (fun b w' H1 => hK _ _ ?_)) | (refine op_store _ _ _ rfl rfl rfl H (by repeat (first | exact Split.here _ _ | apply Split.there)) (by kernel_rfl) (by kernel_rfl) (by kernel_rfl) (fun w' H1 => hK _ _ ?_)) | (refine op_buildSlice_all _ _ _ rfl (by first | exact elem22 | exact elem45 | exact elem56 | exact elem58) (by kernel_rfl) (by kernel_rfl) (by kernel_rfl) H (fun b w' H1 => hK _ _ ?_))); clear hK K; replace H := H1; clear H1)); (try clear hc); (try simp only [nrm, splice, Value.cells, Nat.reduceAdd, Act.eval, Act.put] at H); have hc := H.cells; simp only [CellsOf, KnCells, knc, Nat.reduceAdd] at hc))) | go_values | go_skip | go_guarded | go_step | go_upon | go_back | dsimp only)
            go_ret2
            exact ⟨by rw [hres2.out]; first | rfl | (simp; rfl) | simp, H.ext⟩
end Go.Proofs.YtjknkdmenhcbkaaDoor
