import Derived.Test.YtdcijhdjddiboaaDoorVerK
import Derived.Test.YtdcijhdjddiboaaDoorVerR
import Derived.Test.YtdcijhdjddiboaaDoorVerJ
-- MORE
namespace Go.Proofs.YtdcijhdjddiboaaDoor
set_option linter.unusedVariables false
set_option linter.unusedSimpArgs false
set_option linter.unnecessarySimpa false
open Go.RowKit Go.V

def lmin : Vr → List (Option Vr) → Option Vr
  | m, [] => some m
  | _, none :: _ => none
  | m, some y :: r => lmin (if vless y m then y else m) r
/-- The least version, if all are known and there is one. -/
def leastOf : List (Option Vr) → Option Vr
  | [] => none
  | none :: _ => none
  | some y :: r => lmin y r
def LeastAt (os : List (Option Vr)) (k : Nat) (m : Vr) : Prop := k = 0 ∨ (0 < k ∧ leastOf os = lmin m (os.drop k))
theorem drop_at {os : List (Option Vr)} {k : Nat} {x : Option Vr} (h : os[k]? = some x) : os.drop k = x :: os.drop (k + 1) := by
  obtain ⟨h1, h2⟩ := List.getElem?_eq_some_iff.1 h
  rw [List.drop_eq_getElem_cons h1, h2]
theorem least_no {os : List (Option Vr)} {k : Nat} {m : Vr} (h : LeastAt os k m) (hk : os[k]? = some none) : leastOf os = none := by
  rcases h with rfl | ⟨_, h⟩
  · have := drop_at hk
    rw [List.drop_zero] at this
    rw [this]
    rfl
  · rw [h, drop_at hk]
    rfl
theorem least_first {os : List (Option Vr)} {y : Vr} (hk : os[0]? = some (some y)) : LeastAt os 1 y := by
  refine .inr ⟨by omega, ?_⟩
  have := drop_at hk
  rw [List.drop_zero] at this
  conv => lhs; rw [this]
  rfl
theorem least_lt {os : List (Option Vr)} {k : Nat} {m y : Vr} (h : LeastAt os k m) (hk0 : 0 < k) (hk : os[k]? = some (some y)) (hl : vless y m = true) : LeastAt os (k + 1) y := by
  rcases h with rfl | ⟨_, h⟩
  · omega
  · refine .inr ⟨by omega, ?_⟩
    rw [h, drop_at hk]
    show lmin (if vless y m then y else m) _ = _
    rw [hl]
    rfl
theorem least_ge {os : List (Option Vr)} {k : Nat} {m y : Vr} (h : LeastAt os k m) (hk0 : 0 < k) (hk : os[k]? = some (some y)) (hl : vless y m = false) : LeastAt os (k + 1) m := by
  rcases h with rfl | ⟨_, h⟩
  · omega
  · refine .inr ⟨by omega, ?_⟩
    rw [h, drop_at hk]
    show lmin (if vless y m then y else m) _ = _
    rw [hl]
    rfl
theorem least_end {os : List (Option Vr)} {k : Nat} {m : Vr} (h : LeastAt os k m) (hk0 : 0 < k) (hk : k = os.length) : leastOf os = some m := by
  rcases h with rfl | ⟨_, h⟩
  · omega
  · rw [h, hk, List.drop_length]
    rfl
def AtLe (w : World) (lb rb : Nat) (at' : Option Addr) (ts : List ByteArray) (iv : Value) (wr : World) : Prop := ∃ (k : Nat) (m1 m2 m3 : Int), k ≤ ts.length ∧ iv = .int .i64 k ∧ (k = 0 → m1 = 0 ∧ m2 = 0 ∧ m3 = 0) ∧ Hid (LeastAt (ts.map verOf) k ⟨m1, m2, m3⟩) ∧
  St [] w wr [(true, .is lb (.cells #[.int .i64 m1, .int .i64 m2, .int .i64 m3] 31 (0, 0))), (true, .is rb (.cells #[.int .i64 0, .int .i64 0, .int .i64 0] 31 (0, 0))), (false, .arr at' (strs ts))]
set_option maxHeartbeats 4000000 in
set_option maxRecDepth 8000 in
theorem verLeast_calls (at' : Option Addr) (n cap : Nat) (ts : List ByteArray) (hn : n = ts.length) (hnl : Hid (ts.length ≤ 2147483647)) (hz : Hid (∀ t ∈ ts, t.size ≤ 2147483647)) (w : World) (H : St [] w w [(false, .arr at' (strs ts))]) :
    Calls Tryd.prog 15 #[.slice at' n cap] w fun e w' => e = .returned (.tuple #[vval (leastOf (ts.map verOf)), .bool (leastOf (ts.map verOf)).isSome]) ∧ Ext [] w w' := by
  subst hn
  go_enter Tryd.func15, Tryd.ntmps15
  have hc := H.cells; simp only [CellsOf, KnCells, knc, Nat.reduceAdd] at hc
  go_wp2_with (first
    | ((first
        | (refine loud_ rfl ?_; refine wpList_plain rfl (fun K hK => ?_); (first | (refine op_box _ _ rfl H (fun b w' H1 => hK _ _ ?_)) | (refine op_alloc _ rfl (zero_of _ _ rfl) H (fun b w' H1 => hK _ _ ?_)) | (refine op_store _ _ _ rfl rfl rfl H (by repeat (first | exact Split.here _ _ | apply Split.there)) (by kernel_rfl) (by kernel_rfl) (by kernel_rfl) (fun w' H1 => hK _ _ ?_)) | (refine op_buildSlice_all _ _ _ rfl (by first | exact elem22 | exact elem39 | exact elem76 | exact elem154) (by kernel_rfl) (by kernel_rfl) (by kernel_rfl) H (fun b w' H1 => hK _ _ ?_))); clear hK K; replace H := H1; clear H1)); (try clear hc); (try simp only [nrm, splice, Value.cells, Nat.reduceAdd, Act.eval, Act.put] at H); have hc := H.cells; simp only [CellsOf, KnCells, knc, Nat.reduceAdd] at hc))
  obtain ⟨lb, rfl⟩ : ∃ q : Nat, q = b := ⟨_, rfl⟩
  obtain ⟨rb, rfl⟩ : ∃ q : Nat, q = b := ⟨_, rfl⟩
  have hA0 : AtLe w lb rb at' ts (.int .i64 (0 : Nat)) w' := ⟨0, 0, 0, 0, Nat.zero_le _, rfl, fun _ => ⟨rfl, rfl, rfl⟩, .inl rfl, H⟩
  clear H hc
  (try simp only [Act.put, slt])
  go_loopw [5] (AtLe w lb rb at' ts) (fun i _ => ts.length - (intOf i).toNat)
  case atStart => exact hA0
  case round =>
    clear hA0
    obtain ⟨k, m1, m2, m3, hk, rfl, hk00, hla, H⟩ := hrel
    by_cases hlt : k < ts.length
    · have hks : (k : Int) < (ts.length : Int) := by omega
      have hk63 : k ≤ 2147483647 := by have := hnl.out; omega
      obtain ⟨blk, off, hat⟩ : ∃ blk off, at' = some ⟨blk, off, none⟩ := arr_some (H.get (Split.there _ (Split.there _ (Split.here _ _)))) (by rw [strs, List.length_map]; omega)
      subst hat
      have hst : Hid ((strs ts)[k]? = some (.string ts[k]) ∧ (ts.map verOf)[k]? = some (verOf ts[k])) := ⟨by simp [strs, hlt], by simp [hlt]⟩
      have htz := Lib.hid (hz.out ts[k] (List.getElem_mem hlt))
      generalize ts[k] = t at hst htz
      have H1 := H.elem (Split.there _ (Split.there _ (Split.here _ _))) k [.string t] (by rw [strs, List.length_map]; show k + 1 ≤ _; omega) (fun j hj => by obtain rfl : j = 0 := (by simpa using hj); exact hst.out.1)
      replace H := H1
      clear H1
      have hvt := Lib.hid (verOf_calls t htz.out)
      have hst2 := Lib.hid hst.out.2
      obtain ⟨ot, hot⟩ : ∃ ot, Hid (verOf t = ot) := ⟨_, Lib.hid rfl⟩
      rw [hot.out] at hvt hst2
      clear hst
      cases ot with
      | none =>
        simp only [vval, Option.isSome] at hvt
        have hend := Lib.hid (least_no hla.out hst2.out)
        have hc := H.cells; simp only [CellsOf, KnCells, knc, Nat.reduceAdd] at hc
        repeat' (first | (go_big_may; (first
    | go_skip
    | ((first
        | (go_at_call 14; refine Calls.mono (hvt.out _) ?_; rintro e w' ⟨rfl, H'⟩; replace H := H.of_ext H'; clear H')
        | (refine loud_ rfl ?_; refine wpList_plain rfl (fun K hK => ?_); (first | (refine op_box _ _ rfl H (fun b w' H1 => hK _ _ ?_)) | (refine op_alloc _ rfl (zero_of _ _ rfl) H (fun b w' H1 => hK _ _ ?_)) | (refine op_store _ _ _ rfl rfl rfl H (by repeat (first | exact Split.here _ _ | apply Split.there)) (by kernel_rfl) (by kernel_rfl) (by kernel_rfl) (fun w' H1 => hK _ _ ?_)) | (refine op_buildSlice_all _ _ _ rfl (by first | exact elem22 | exact elem39 | exact elem76 | exact elem154) (by kernel_rfl) (by kernel_rfl) (by kernel_rfl) H (fun b w' H1 => hK _ _ ?_))); clear hK K; replace H := H1; clear H1)); (try clear hc); (try simp only [nrm, splice, Value.cells, Nat.reduceAdd, Act.eval, Act.put] at H); have hc := H.cells; simp only [CellsOf, KnCells, knc, Nat.reduceAdd] at hc))) | go_values | go_skip | go_guarded | go_step | go_upon | go_back | dsimp only)
        exact bodyPost_ret (v := .tuple #[.agg #[.int .i64 0, .int .i64 0, .int .i64 0], .bool false]) (by simp [results, Tryd.results15, go_sem, hc, Act.put]; try rfl) rfl ⟨by rw [hend.out]; rfl, H.ext⟩
      | some y =>
        obtain ⟨y1, y2, y3⟩ := y
        simp only [vval, Option.isSome] at hvt
        by_cases hk0 : k = 0
        · subst hk0
          have hend := Lib.hid (least_first hst2.out)
          have hc := H.cells; simp only [CellsOf, KnCells, knc, Nat.reduceAdd] at hc
          repeat' (first | (go_big_may; (first
    | go_skip
    | ((first
        | (go_at_call 14; refine Calls.mono (hvt.out _) ?_; rintro e w' ⟨rfl, H'⟩; replace H := H.of_ext H'; clear H')
        | (refine loud_ rfl ?_; refine wpList_plain rfl (fun K hK => ?_); (first | (refine op_box _ _ rfl H (fun b w' H1 => hK _ _ ?_)) | (refine op_alloc _ rfl (zero_of _ _ rfl) H (fun b w' H1 => hK _ _ ?_)) | (refine op_store _ _ _ rfl rfl rfl H (by repeat (first | exact Split.here _ _ | apply Split.there)) (by kernel_rfl) (by kernel_rfl) (by kernel_rfl) (fun w' H1 => hK _ _ ?_)) | (refine op_buildSlice_all _ _ _ rfl (by first | exact elem22 | exact elem39 | exact elem76 | exact elem154) (by kernel_rfl) (by kernel_rfl) (by kernel_rfl) H (fun b w' H1 => hK _ _ ?_))); clear hK K; replace H := H1; clear H1)); (try clear hc); (try simp only [nrm, splice, Value.cells, Nat.reduceAdd, Act.eval, Act.put] at H); have hc := H.cells; simp only [CellsOf, KnCells, knc, Nat.reduceAdd] at hc))) | go_values | go_skip | go_guarded | go_step | go_upon | go_back | dsimp only)
          exact ⟨⟨1, y1, y2, y3, by omega, rfl, fun h => absurd h (by omega), hend, H.sel (by repeat (first | exact Sel.nil _ | (apply Sel.cons; focus (repeat (first | exact Split.here _ _ | apply Split.there)))))⟩, by simp [intOf]; omega⟩
        · have hkI : ¬ (k : Int) = 0 := by omega
          have hkb : ((k : Int) == 0) = false := by simp; omega
          have hks2 := Lib.hid hks
          obtain ⟨dl, hdl⟩ : ∃ dl, Hid (vless ⟨y1, y2, y3⟩ ⟨m1, m2, m3⟩ = dl) := ⟨_, Lib.hid rfl⟩
          have hvl := Lib.hid (verLess_calls ⟨y1, y2, y3⟩ ⟨m1, m2, m3⟩)
          rw [hdl.out] at hvl
          cases dl with
          | true =>
            have hend := Lib.hid (least_lt hla.out (by omega) hst2.out hdl.out)
            have hc := H.cells; simp only [CellsOf, KnCells, knc, Nat.reduceAdd] at hc
            repeat' (first | (go_big_may; (first
    | go_skip
    | ((first
        | (go_at_call 14; refine Calls.mono (hvt.out _) ?_; rintro e w' ⟨rfl, H'⟩; replace H := H.of_ext H'; clear H')
        | (go_at_call 17; refine Calls.mono (hvl.out _) ?_; rintro e w' ⟨rfl, H'⟩; replace H := H.of_ext H'; clear H')
        | (refine loud_ rfl ?_; refine wpList_plain rfl (fun K hK => ?_); (first | (refine op_box _ _ rfl H (fun b w' H1 => hK _ _ ?_)) | (refine op_alloc _ rfl (zero_of _ _ rfl) H (fun b w' H1 => hK _ _ ?_)) | (refine op_store _ _ _ rfl rfl rfl H (by repeat (first | exact Split.here _ _ | apply Split.there)) (by kernel_rfl) (by kernel_rfl) (by kernel_rfl) (fun w' H1 => hK _ _ ?_)) | (refine op_buildSlice_all _ _ _ rfl (by first | exact elem22 | exact elem39 | exact elem76 | exact elem154) (by kernel_rfl) (by kernel_rfl) (by kernel_rfl) H (fun b w' H1 => hK _ _ ?_))); clear hK K; replace H := H1; clear H1)); (try clear hc); (try simp only [nrm, splice, Value.cells, Nat.reduceAdd, Act.eval, Act.put] at H); have hc := H.cells; simp only [CellsOf, KnCells, knc, Nat.reduceAdd] at hc))) | go_values | go_skip | go_guarded | go_step | go_upon | go_back | dsimp only)
            exact ⟨⟨k + 1, y1, y2, y3, by omega, by go_num, fun h => absurd h (by omega), hend, H.sel (by repeat (first | exact Sel.nil _ | (apply Sel.cons; focus (repeat (first | exact Split.here _ _ | apply Split.there)))))⟩, by simp [intOf]; omega⟩
          | false =>
            have hend := Lib.hid (least_ge hla.out (by omega) hst2.out hdl.out)
            have hc := H.cells; simp only [CellsOf, KnCells, knc, Nat.reduceAdd] at hc
            repeat' (first | (go_big_may; (first
    | go_skip
    | ((first
        | (go_at_call 14; refine Calls.mono (hvt.out _) ?_; rintro e w' ⟨rfl, H'⟩; replace H := H.of_ext H'; clear H')
        | (go_at_call 17; refine Calls.mono (hvl.out _) ?_; rintro e w' ⟨rfl, H'⟩; replace H := H.of_ext H'; clear H')
        | (refine loud_ rfl ?_; refine wpList_plain rfl (fun K hK => ?_); (first | (refine op_box _ _ rfl H (fun b w' H1 => hK _ _ ?_)) | (refine op_alloc _ rfl (zero_of _ _ rfl) H (fun b w' H1 => hK _ _ ?_)) | (refine op_store _ _ _ rfl rfl rfl H (by repeat (first | exact Split.here _ _ | apply Split.there)) (by kernel_rfl) (by kernel_rfl) (by kernel_rfl) (fun w' H1 => hK _ _ ?_)) | (refine op_buildSlice_all _ _ _ rfl (by first | exact elem22 | exact elem39 | exact elem76 | exact elem154) (by kernel_rfl) (by kernel_rfl) (by kernel_rfl) H (fun b w' H1 => hK _ _ ?_))); clear hK K; replace H := H1; clear H1)); (try clear hc); (try simp only [nrm, splice, Value.cells, Nat.reduceAdd, Act.eval, Act.put] at H); have hc := H.cells; simp only [CellsOf, KnCells, knc, Nat.reduceAdd] at hc))) | go_values | go_skip | go_guarded | go_step | go_upon | go_back | dsimp only)
            exact ⟨⟨k + 1, m1, m2, m3, by omega, by go_num, fun h => absurd h (by omega), hend, H.sel (by repeat (first | exact Sel.nil _ | (apply Sel.cons; focus (repeat (first | exact Split.here _ _ | apply Split.there)))))⟩, by simp [intOf]; omega⟩
    · have hks : ¬ (k : Int) < (ts.length : Int) := by omega
      by_cases hk0 : k = 0
      · subst hk0
        obtain ⟨rfl, rfl, rfl⟩ := hk00 rfl
        have ht0 : ts = [] := List.eq_nil_of_length_eq_zero (by omega)
        subst ht0
        have hc := H.cells; simp only [CellsOf, KnCells, knc, Nat.reduceAdd] at hc
        repeat' (first | (go_big_may; (first
    | ((first
        | (refine loud_ rfl ?_; refine wpList_plain rfl (fun K hK => ?_); (first | (refine op_box _ _ rfl H (fun b w' H1 => hK _ _ ?_)) | (refine op_alloc _ rfl (zero_of _ _ rfl) H (fun b w' H1 => hK _ _ ?_)) | (refine op_store _ _ _ rfl rfl rfl H (by repeat (first | exact Split.here _ _ | apply Split.there)) (by kernel_rfl) (by kernel_rfl) (by kernel_rfl) (fun w' H1 => hK _ _ ?_)) | (refine op_buildSlice_all _ _ _ rfl (by first | exact elem22 | exact elem39 | exact elem76 | exact elem154) (by kernel_rfl) (by kernel_rfl) (by kernel_rfl) H (fun b w' H1 => hK _ _ ?_))); clear hK K; replace H := H1; clear H1)); (try clear hc); (try simp only [nrm, splice, Value.cells, Nat.reduceAdd, Act.eval, Act.put] at H); have hc := H.cells; simp only [CellsOf, KnCells, knc, Nat.reduceAdd] at hc))) | go_values | go_skip | go_guarded | go_step | go_upon | go_back | dsimp only)
        exact bodyPost_ret (v := .tuple #[.agg #[.int .i64 0, .int .i64 0, .int .i64 0], .bool false]) (by simp [results, Tryd.results15, go_sem, hc, Act.put]; try rfl) rfl ⟨rfl, H.ext⟩
      · have hend := Lib.hid (least_end hla.out (by omega) (by rw [List.length_map]; omega))
        have hpos : (0 : Int) < ts.length := by omega
        have hpN : 0 < ts.length := by omega
        clear hk00
        have hc := H.cells; simp only [CellsOf, KnCells, knc, Nat.reduceAdd] at hc
        repeat' (first | (go_big_may; (first
    | ((first
        | (refine loud_ rfl ?_; refine wpList_plain rfl (fun K hK => ?_); (first | (refine op_box _ _ rfl H (fun b w' H1 => hK _ _ ?_)) | (refine op_alloc _ rfl (zero_of _ _ rfl) H (fun b w' H1 => hK _ _ ?_)) | (refine op_store _ _ _ rfl rfl rfl H (by repeat (first | exact Split.here _ _ | apply Split.there)) (by kernel_rfl) (by kernel_rfl) (by kernel_rfl) (fun w' H1 => hK _ _ ?_)) | (refine op_buildSlice_all _ _ _ rfl (by first | exact elem22 | exact elem39 | exact elem76 | exact elem154) (by kernel_rfl) (by kernel_rfl) (by kernel_rfl) H (fun b w' H1 => hK _ _ ?_))); clear hK K; replace H := H1; clear H1)); (try clear hc); (try simp only [nrm, splice, Value.cells, Nat.reduceAdd, Act.eval, Act.put] at H); have hc := H.cells; simp only [CellsOf, KnCells, knc, Nat.reduceAdd] at hc))) | go_values | go_skip | go_guarded | go_step | go_upon | go_back | dsimp only)
        exact bodyPost_ret (v := .tuple #[.agg #[.int .i64 m1, .int .i64 m2, .int .i64 m3], .bool true]) (by simp [results, Tryd.results15, go_sem, hc, Act.put, hpN]; try rfl) rfl ⟨by rw [hend.out]; rfl, H.ext⟩
end Go.Proofs.YtdcijhdjddiboaaDoor
