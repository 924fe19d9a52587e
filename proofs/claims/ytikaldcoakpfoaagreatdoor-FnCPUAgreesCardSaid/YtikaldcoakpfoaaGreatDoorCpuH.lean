import Derived.Test.YtikaldcoakpfoaaGreatDoorCpuG
-- MORE
-- SUB2
namespace Go.Proofs.YtikaldcoakpfoaaGreatDoor
set_option linter.unusedVariables false
set_option linter.unusedSimpArgs false
set_option linter.unnecessarySimpa false
open Go Go.RowKit Go.V Go.Lib

theorem piece_last {l : List UInt8} {k : Nat} (h : ∀ (j : Nat) (hj : j < l.length), k ≤ j → l[j] ≠ 44) : splitAt' 44 (l.drop k) = [l.drop k] := by
  apply split_none
  apply idx_none
  intro j hj
  rw [List.length_drop] at hj
  rw [List.getElem_drop]
  exact h (k + j) (by omega) (by omega)
theorem piece_next {l : List UInt8} {k q : Nat} (hkq : k ≤ q) (hq : q < l.length) (h : ∀ (j : Nat) (hj : j < l.length), k ≤ j → j < q → l[j] ≠ 44) (hc : l[q] = 44) : splitAt' 44 (l.drop k) = (l.drop k).take (q - k) :: splitAt' 44 (l.drop (q + 1)) := by
  have := split_some (c := 44) (l := l.drop k) (i := q - k) (idx_some (by rw [List.length_drop]; omega) (fun j hj => by rw [List.getElem_drop]; exact h (k + j) (by omega) (by omega) (by omega)) (by rw [List.getElem_drop]; simp only [show k + (q - k) = q from by omega]; exact hc))
  rw [this, List.drop_drop]
  congr 3
  omega
theorem wide_is (l : List UInt8) (v : Bool) (hl : l.length ≤ 900000) (h : Hid (wideP l = v)) (w : World) (he : ErrEnv w) :
    Calls Tryz.prog 35 #[.string (bs l)] w fun e w' => e = .returned (.bool v) ∧ Ext [] w w' := by
  have := wide_calls l hl w he
  rw [h.out] at this
  exact this
theorem parse_none (l : List UInt8) (hl : l.length ≤ 900000) (hw : Hid (∀ p ∈ splitAt' 44 l, wideP p = false)) (h : Hid (iparse l = none)) (w : World) (he : ErrEnv w) :
    Calls Tryz.prog 36 #[.string (bs l)] w fun e w' => ∃ m tp v, e = .returned (.tuple #[setV m, .iface tp v]) ∧ Ext [] w w' := by
  refine (parse_calls l hl hw.out w he).mono ?_
  intro e w' k
  unfold ParsePost at k
  rw [h.out] at k
  exact k
theorem parse_some (l : List UInt8) (L : List Int) (hl : l.length ≤ 900000) (hw : Hid (∀ p ∈ splitAt' 44 l, wideP p = false)) (h : Hid (iparse l = some L)) (w : World) (he : ErrEnv w) :
    Calls Tryz.prog 36 #[.string (bs l)] w fun e w' => ∃ m es clock, Hid (SetI es clock L) ∧ e = .returned (.tuple #[setV m, .nilIface]) ∧ St [] w w' [(true, .is m (.map es clock))] := by
  refine (parse_calls l hl hw.out w he).mono ?_
  intro e w' k
  unfold ParsePost at k
  rw [h.out] at k
  exact k
/-- What the code reads out of a text. -/
def cpI (l : List UInt8) : Option (List Int) := if (splitAt' 44 l).any wideP then none else iparse l
def CPost (w : World) (o : Option (List Int)) (e : Ending) (w' : World) : Prop := match o with
  | none => e = .returned (.tuple #[.slice none 0 0, .bool false]) ∧ Ext [] w w'
  | some L => ∃ key n cap, Hid (n = L.length) ∧ e = .returned (.tuple #[sl key n cap, .bool true]) ∧ St [] w w' [(true, .row key 3 1 n cap (intsN (sortI L)))]
theorem cpost_none {w w' : World} {o : Option (List Int)} {e : Ending} (h : Hid (o = none)) (k : e = .returned (.tuple #[.slice none 0 0, .bool false]) ∧ Ext [] w w') : CPost w o e w' := by
  unfold CPost
  rw [h.out]
  exact k
theorem cpost_some {w w' : World} {o : Option (List Int)} {L : List Int} {e : Ending} (h : Hid (o = some L)) (k : ∃ key n cap, Hid (n = L.length) ∧ e = .returned (.tuple #[sl key n cap, .bool true]) ∧ St [] w w' [(true, .row key 3 1 n cap (intsN (sortI L)))]) : CPost w o e w' := by
  unfold CPost
  rw [h.out]
  exact k
def AtBegin (w : World) (l : List UInt8) (b i : Value) (wr : World) : Prop := St [] w wr [] ∧ ((∃ k q : Nat, b = .int .i64 k ∧ i = .int .i64 q ∧ k ≤ q ∧ q ≤ l.length ∧ Hid (∀ (j : Nat) (h : j < l.length), k ≤ j → j < q → l[j] ≠ 44) ∧ Hid ((splitAt' 44 l).any wideP = (splitAt' 44 (l.drop k)).any wideP))
  ∨ (b = .int .i64 (l.length + 1 : Nat) ∧ i = .int .i64 (l.length + 1 : Nat) ∧ Hid ((splitAt' 44 l).any wideP = false)))
set_option maxHeartbeats 1000000 in
set_option maxRecDepth 8000 in
theorem cpuParse_calls (l : List UInt8) (hl : l.length ≤ 900000) (hL : ∀ L, cpI l = some L → L.length ≤ 100000000) (w : World) (he : ErrEnv w) :
    Calls Tryz.prog 11 #[.string (bs l)] w (CPost w (cpI l)) := by
  have H := St.init [] w
  have hsz := bs_size l
  have he' := Lib.hid he
  have hL' := Lib.hid hL
  clear he hL
  obtain ⟨res, hres⟩ : ∃ r, Hid (r = cpI l) := ⟨_, rfl⟩
  rw [← hres.out] at hL' ⊢
  obtain ⟨n, hn⟩ : ∃ n, Hid (n = l.length) := ⟨_, rfl⟩
  rw [← hn.out] at hsz hl
  go_enter Tryz.func11, Tryz.ntmps11
  repeat' (first | (go_big_may; (first
    | ((first
        | (refine loud_ rfl ?_; refine wpList_plain rfl (fun K hK => ?_); (first | (refine op_box _ _ rfl H (fun b w' H1 => hK _ _ ?_)) | (refine op_alloc _ rfl (zero_of _ _ rfl) H (fun b w' H1 => hK _ _ ?_)) | (refine op_store _ _ _ rfl rfl rfl H (by repeat (first | exact Split.here _ _ | apply Split.there)) (by kernel_rfl) (by kernel_rfl) (by kernel_rfl) (fun w' H1 => hK _ _ ?_)) | (refine op_buildSlice_all _ _ _ rfl (by first | exact elem22 | exact elem60 | exact elem66 | exact elem72 | exact elem74) (by kernel_rfl) (by kernel_rfl) (by kernel_rfl) H (fun b w' H1 => hK _ _ ?_))); clear hK K; replace H := H1; clear H1)); (try clear hc); (try simp only [nrm, splice, Value.cells, Nat.reduceAdd, Act.eval, Act.put] at H); have hc := H.cells; simp only [CellsOf, KnCells, knc, Nat.reduceAdd] at hc))) | go_values | go_skip | go_guarded | go_step | go_upon | go_back | dsimp only)
  go_loopw [4, 5] (AtBegin w l) (fun _ i _ => n + 2 - (intOf i).toNat)
  case atStart => exact ⟨H, .inl ⟨0, 0, rfl, rfl, Nat.le_refl _, Nat.zero_le _, (fun j h h1 hj => by omega), rfl⟩⟩
  case round =>
    clear H
    obtain ⟨H, ⟨k, q, rfl, rfl, hkq, hq, hh, hany⟩ | ⟨rfl, rfl, hany⟩⟩ := hrel
    · rw [← hn.out] at hq
      have hc1 : decide ((q : Int) ≤ (n : Int)) = true := by simp; omega
      by_cases hlt : q < n
      · have hlt' : q < l.length := by rw [← hn.out]; exact hlt
        have hqs : q < (bs l).size := by rw [hsz]; exact hlt
        have hat : (bs l)[q] = l[q] := bs_at l q hqs
        have hc2 : ((q : Int) == (n : Int)) = false := by simp; omega
        by_cases hd : l[q] = 44
        · have hb44 : (bs l)[q] = 44 := by rw [hat, hd]
          have hnx := piece_next hkq hlt' hh.out hd
          rw [hnx, List.any_cons] at hany
          have hs1 : (bs l).extract k q = bs ((l.drop k).take (q - k)) := bs_extract _ _ _
          have hpl : ((l.drop k).take (q - k)).length ≤ 900000 := by rw [List.length_take, List.length_drop, ← hn.out]; omega
          clear hat hd hnx
          generalize (l.drop k).take (q - k) = p at *
          have hks : k ≤ (bs l).size := by omega
          have hkq2 : (k : Int) ≤ (q : Int) := by omega
          cases hwv : wideP p with
          | true =>
            have hfin : Hid (res = none) := by
              show _ = _
              rw [hres.out]
              unfold cpI
              rw [hany.out, hwv]
              rfl
            have hwv' := Lib.hid hwv
            clear hwv
            repeat' (first | (go_big_may; (first
    | go_skip
    | ((first
        | (go_at_call 35; refine Calls.mono (wide_is p true hpl hwv' _ (errEnv_ext he'.out H.ext)) ?_; rintro e w' ⟨rfl, H'⟩; replace H := H.of_ext H'; clear H')
        | (refine loud_ rfl ?_; refine wpList_plain rfl (fun K hK => ?_); (first | (refine op_box _ _ rfl H (fun b w' H1 => hK _ _ ?_)) | (refine op_alloc _ rfl (zero_of _ _ rfl) H (fun b w' H1 => hK _ _ ?_)) | (refine op_store _ _ _ rfl rfl rfl H (by repeat (first | exact Split.here _ _ | apply Split.there)) (by kernel_rfl) (by kernel_rfl) (by kernel_rfl) (fun w' H1 => hK _ _ ?_)) | (refine op_buildSlice_all _ _ _ rfl (by first | exact elem22 | exact elem60 | exact elem66 | exact elem72 | exact elem74) (by kernel_rfl) (by kernel_rfl) (by kernel_rfl) H (fun b w' H1 => hK _ _ ?_))); clear hK K; replace H := H1; clear H1)); (try clear hc); (try simp only [nrm, splice, Value.cells, Nat.reduceAdd, Act.eval, Act.put] at H); have hc := H.cells; simp only [CellsOf, KnCells, knc, Nat.reduceAdd] at hc))) | go_values | go_skip | go_guarded | go_step | go_upon | go_back | dsimp only)
            go_ret2
            exact cpost_none hfin ⟨rfl, H.ext⟩
          | false =>
            have hany2 : Hid ((splitAt' 44 l).any wideP = (splitAt' 44 (l.drop (q + 1))).any wideP) := by
              show _ = _
              rw [hany.out, hwv]
              rfl
            have hwv' := Lib.hid hwv
            clear hwv
            repeat' (first | (go_big_may; (first
    | go_skip
    | ((first
        | (go_at_call 35; refine Calls.mono (wide_is p false hpl hwv' _ (errEnv_ext he'.out H.ext)) ?_; rintro e w' ⟨rfl, H'⟩; replace H := H.of_ext H'; clear H')
        | (refine loud_ rfl ?_; refine wpList_plain rfl (fun K hK => ?_); (first | (refine op_box _ _ rfl H (fun b w' H1 => hK _ _ ?_)) | (refine op_alloc _ rfl (zero_of _ _ rfl) H (fun b w' H1 => hK _ _ ?_)) | (refine op_store _ _ _ rfl rfl rfl H (by repeat (first | exact Split.here _ _ | apply Split.there)) (by kernel_rfl) (by kernel_rfl) (by kernel_rfl) (fun w' H1 => hK _ _ ?_)) | (refine op_buildSlice_all _ _ _ rfl (by first | exact elem22 | exact elem60 | exact elem66 | exact elem72 | exact elem74) (by kernel_rfl) (by kernel_rfl) (by kernel_rfl) H (fun b w' H1 => hK _ _ ?_))); clear hK K; replace H := H1; clear H1)); (try clear hc); (try simp only [nrm, splice, Value.cells, Nat.reduceAdd, Act.eval, Act.put] at H); have hc := H.cells; simp only [CellsOf, KnCells, knc, Nat.reduceAdd] at hc))) | go_values | go_skip | go_guarded | go_step | go_upon | go_back | dsimp only)
            exact ⟨⟨H, .inl ⟨q + 1, q + 1, by go_num, by go_num, Nat.le_refl _, by omega, (fun j h h1 hj => by omega), hany2⟩⟩, by simp [intOf]; omega⟩
        · have hn44 : (((bs l)[q].toNat : Int) == 44) = false := by
            rw [hat]
            have h45 : l[q].toNat ≠ 44 := fun e => hd (UInt8.toNat_inj.1 e)
            simp
            omega
          have hnx : Hid (∀ (j : Nat) (h : j < l.length), k ≤ j → j < q + 1 → l[j] ≠ 44) := by
            intro j hj hkj hjq
            rcases Nat.lt_or_ge j q with h | h
            · exact hh.out j hj hkj h
            · obtain rfl : j = q := by omega
              exact hd
          clear hat hd
          repeat' (first | (go_big_may; (first
    | ((first
        | (refine loud_ rfl ?_; refine wpList_plain rfl (fun K hK => ?_); (first | (refine op_box _ _ rfl H (fun b w' H1 => hK _ _ ?_)) | (refine op_alloc _ rfl (zero_of _ _ rfl) H (fun b w' H1 => hK _ _ ?_)) | (refine op_store _ _ _ rfl rfl rfl H (by repeat (first | exact Split.here _ _ | apply Split.there)) (by kernel_rfl) (by kernel_rfl) (by kernel_rfl) (fun w' H1 => hK _ _ ?_)) | (refine op_buildSlice_all _ _ _ rfl (by first | exact elem22 | exact elem60 | exact elem66 | exact elem72 | exact elem74) (by kernel_rfl) (by kernel_rfl) (by kernel_rfl) H (fun b w' H1 => hK _ _ ?_))); clear hK K; replace H := H1; clear H1)); (try clear hc); (try simp only [nrm, splice, Value.cells, Nat.reduceAdd, Act.eval, Act.put] at H); have hc := H.cells; simp only [CellsOf, KnCells, knc, Nat.reduceAdd] at hc))) | go_values | go_skip | go_guarded | go_step | go_upon | go_back | dsimp only)
          exact ⟨⟨H, .inl ⟨k, q + 1, rfl, by go_num, by omega, by omega, hnx, hany⟩⟩, by simp [intOf]; omega⟩
      · obtain rfl : q = n := by omega
        have hc2 : ((q : Int) == (q : Int)) = true := by simp
        have hnx := piece_last (l := l) (k := k) (fun j hj hkj => hh.out j hj hkj (by rw [hn.out]; exact hj))
        rw [hnx] at hany
        have hs1 : (bs l).extract k q = bs (l.drop k) := by rw [bs_extract, List.take_of_length_le (by rw [List.length_drop, ← hn.out]; omega)]
        have hpl : (l.drop k).length ≤ 900000 := by rw [List.length_drop, ← hn.out]; omega
        clear hnx
        generalize l.drop k = p at *
        have hks : k ≤ (bs l).size := by omega
        have hqs : q ≤ (bs l).size := by omega
        have hkq2 : (k : Int) ≤ (q : Int) := by omega
        cases hwv : wideP p with
        | true =>
          have hfin : Hid (res = none) := by
            show _ = _
            rw [hres.out]
            unfold cpI
            rw [hany.out, List.any_cons, hwv]
            rfl
          have hwv' := Lib.hid hwv
          clear hwv
          repeat' (first | (go_big_may; (first
    | go_skip
    | ((first
        | (go_at_call 35; refine Calls.mono (wide_is p true hpl hwv' _ (errEnv_ext he'.out H.ext)) ?_; rintro e w' ⟨rfl, H'⟩; replace H := H.of_ext H'; clear H')
        | (refine loud_ rfl ?_; refine wpList_plain rfl (fun K hK => ?_); (first | (refine op_box _ _ rfl H (fun b w' H1 => hK _ _ ?_)) | (refine op_alloc _ rfl (zero_of _ _ rfl) H (fun b w' H1 => hK _ _ ?_)) | (refine op_store _ _ _ rfl rfl rfl H (by repeat (first | exact Split.here _ _ | apply Split.there)) (by kernel_rfl) (by kernel_rfl) (by kernel_rfl) (fun w' H1 => hK _ _ ?_)) | (refine op_buildSlice_all _ _ _ rfl (by first | exact elem22 | exact elem60 | exact elem66 | exact elem72 | exact elem74) (by kernel_rfl) (by kernel_rfl) (by kernel_rfl) H (fun b w' H1 => hK _ _ ?_))); clear hK K; replace H := H1; clear H1)); (try clear hc); (try simp only [nrm, splice, Value.cells, Nat.reduceAdd, Act.eval, Act.put] at H); have hc := H.cells; simp only [CellsOf, KnCells, knc, Nat.reduceAdd] at hc))) | go_values | go_skip | go_guarded | go_step | go_upon | go_back | dsimp only)
          go_ret2
          exact cpost_none hfin ⟨rfl, H.ext⟩
        | false =>
          have hany2 : Hid ((splitAt' 44 l).any wideP = false) := by
            show _ = _
            rw [hany.out, List.any_cons, hwv]
            rfl
          have hwv' := Lib.hid hwv
          clear hwv
          repeat' (first | (go_big_may; (first
    | go_skip
    | ((first
        | (go_at_call 35; refine Calls.mono (wide_is p false hpl hwv' _ (errEnv_ext he'.out H.ext)) ?_; rintro e w' ⟨rfl, H'⟩; replace H := H.of_ext H'; clear H')
        | (refine loud_ rfl ?_; refine wpList_plain rfl (fun K hK => ?_); (first | (refine op_box _ _ rfl H (fun b w' H1 => hK _ _ ?_)) | (refine op_alloc _ rfl (zero_of _ _ rfl) H (fun b w' H1 => hK _ _ ?_)) | (refine op_store _ _ _ rfl rfl rfl H (by repeat (first | exact Split.here _ _ | apply Split.there)) (by kernel_rfl) (by kernel_rfl) (by kernel_rfl) (fun w' H1 => hK _ _ ?_)) | (refine op_buildSlice_all _ _ _ rfl (by first | exact elem22 | exact elem60 | exact elem66 | exact elem72 | exact elem74) (by kernel_rfl) (by kernel_rfl) (by kernel_rfl) H (fun b w' H1 => hK _ _ ?_))); clear hK K; replace H := H1; clear H1)); (try clear hc); (try simp only [nrm, splice, Value.cells, Nat.reduceAdd, Act.eval, Act.put] at H); have hc := H.cells; simp only [CellsOf, KnCells, knc, Nat.reduceAdd] at hc))) | go_values | go_skip | go_guarded | go_step | go_upon | go_back | dsimp only)
          exact ⟨⟨H, .inr ⟨by rw [← hn.out]; go_num, by rw [← hn.out]; go_num, hany2⟩⟩, by simp [intOf]⟩
    · rw [← hn.out]
      have hc1 : decide (((n + 1 : Nat) : Int) ≤ (n : Int)) = false := by simp; omega
      have hwp : Hid (∀ p ∈ splitAt' 44 l, wideP p = false) := by
        intro p hp
        have := hany.out
        rw [List.any_eq_false] at this
        simpa using this p hp
      have hci : Hid (res = iparse l) := by
        show _ = _
        rw [hres.out]
        unfold cpI
        rw [hany.out]
        rfl
      have hl2 : l.length ≤ 900000 := by rw [← hn.out]; exact hl
      cases hip : iparse l with
      | none =>
        have hfin : Hid (res = none) := hci.out.trans hip
        have hip' := Lib.hid hip
        clear hip
        repeat' (first | (go_big_may; (first
    | go_skip
    | ((first
        | (go_at_call 36; refine Calls.mono (parse_none l hl2 hwp hip' _ (errEnv_ext he'.out H.ext)) ?_; rintro e w' ⟨m, tp, v, rfl, H'⟩; replace H := H.of_ext H'; clear H')
        | (refine loud_ rfl ?_; refine wpList_plain rfl (fun K hK => ?_); (first | (refine op_box _ _ rfl H (fun b w' H1 => hK _ _ ?_)) | (refine op_alloc _ rfl (zero_of _ _ rfl) H (fun b w' H1 => hK _ _ ?_)) | (refine op_store _ _ _ rfl rfl rfl H (by repeat (first | exact Split.here _ _ | apply Split.there)) (by kernel_rfl) (by kernel_rfl) (by kernel_rfl) (fun w' H1 => hK _ _ ?_)) | (refine op_buildSlice_all _ _ _ rfl (by first | exact elem22 | exact elem60 | exact elem66 | exact elem72 | exact elem74) (by kernel_rfl) (by kernel_rfl) (by kernel_rfl) H (fun b w' H1 => hK _ _ ?_))); clear hK K; replace H := H1; clear H1)); (try clear hc); (try simp only [nrm, splice, Value.cells, Nat.reduceAdd, Act.eval, Act.put] at H); have hc := H.cells; simp only [CellsOf, KnCells, knc, Nat.reduceAdd] at hc))) | go_values | go_skip | go_guarded | go_step | go_upon | go_back | dsimp only)
        go_ret2
        exact cpost_none hfin ⟨rfl, H.ext⟩
      | some L =>
        have hfin : Hid (res = some L) := hci.out.trans hip
        have hLl := hL'.out L hfin.out
        have hip' := Lib.hid hip
        clear hip
        repeat' (first | (go_big_may; (first
    | go_skip
    | ((first
        | (go_at_call 36; refine Calls.mono (parse_some l L hl2 hwp hip' _ (errEnv_ext he'.out H.ext)) ?_; rintro e w' ⟨m, es, clock, hset, rfl, H'⟩; replace H := H.merge (by first | exact Strikes.nil _ | (repeat (first | exact Strikes.nil _ | (apply Strikes.cons; focus (repeat (first | exact Split.here _ _ | apply Split.there)))))) H' rfl; clear H')
        | (go_at_call 29; refine Calls.mono (setList_calls m clock es L hset hLl _ (H.pick (by repeat (first | exact Picks.nil _ | (apply Picks.wr; focus (repeat (first | exact Split.here _ _ | apply Split.there))) | (apply Picks.rd; focus (repeat (first | exact Split.here _ _ | apply Split.there))))))) ?_; rintro e w' ⟨key, n9, cap, hn9, rfl, H'⟩; replace H := H.merge (by first | exact Strikes.nil _ | (repeat (first | exact Strikes.nil _ | (apply Strikes.cons; focus (repeat (first | exact Split.here _ _ | apply Split.there)))))) H' rfl; clear H')
        | (refine loud_ rfl ?_; refine wpList_plain rfl (fun K hK => ?_); (first | (refine op_box _ _ rfl H (fun b w' H1 => hK _ _ ?_)) | (refine op_alloc _ rfl (zero_of _ _ rfl) H (fun b w' H1 => hK _ _ ?_)) | (refine op_store _ _ _ rfl rfl rfl H (by repeat (first | exact Split.here _ _ | apply Split.there)) (by kernel_rfl) (by kernel_rfl) (by kernel_rfl) (fun w' H1 => hK _ _ ?_)) | (refine op_buildSlice_all _ _ _ rfl (by first | exact elem22 | exact elem60 | exact elem66 | exact elem72 | exact elem74) (by kernel_rfl) (by kernel_rfl) (by kernel_rfl) H (fun b w' H1 => hK _ _ ?_))); clear hK K; replace H := H1; clear H1)); (try clear hc); (try simp only [nrm, splice, Value.cells, Nat.reduceAdd, Act.eval, Act.put] at H); have hc := H.cells; simp only [CellsOf, KnCells, knc, Nat.reduceAdd] at hc))) | go_values | go_skip | go_guarded | go_step | go_upon | go_back | dsimp only)
        go_ret2
        exact cpost_some hfin ⟨key, n9, cap, hn9, rfl, H.top1⟩
end Go.Proofs.YtikaldcoakpfoaaGreatDoor
