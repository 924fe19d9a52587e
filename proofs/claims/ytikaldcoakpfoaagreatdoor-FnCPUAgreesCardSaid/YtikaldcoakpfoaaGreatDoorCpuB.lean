import Derived.Test.YtikaldcoakpfoaaGreatDoorCpuA
import Derived.Test.YtikaldcoakpfoaaGreatDoorVSet
import Derived.Test.YtikaldcoakpfoaaGreatDoorVSort
import Derived.Test.YtikaldcoakpfoaaGreatDoorVSoft
-- MORE
-- SUB2
namespace Go.Proofs.YtikaldcoakpfoaaGreatDoor
set_option linter.unusedVariables false
set_option linter.unusedSimpArgs false
set_option linter.unnecessarySimpa false
open Go Go.RowKit Go.V Go.Lib

abbrev ki (k : Int) : Value := .int .i64 k
theorem keyN : KeyAs Tryz.prog 3 ki := keyAs_int Tryz.underlying3
abbrev u0 : Value := .agg #[]
abbrev SetI (es : Array MapEntry) (clock : Nat) (l : List Int) : Prop := SetM ki u0 es clock l
abbrev setV (m : Nat) : Value := .agg #[.map (some m)]
abbrev setObj (m : Nat) : Obj := .cells #[.map (some m)] 42 (0, 0)
def AtAdd (S : List Nat) (w : World) (m b1 bx : Nat) (k : Int) (l : List Int) (i : Value) (wr : World) : Prop := ∃ (es : Array MapEntry) (clock : Nat), ((i = .int .i64 0 ∧ Hid (SetI es clock l)) ∨ (i = .int .i64 1 ∧ Hid (SetI es clock (ins l k)))) ∧
  St S w wr [(true, .is m (.map es clock)), (false, .is b1 (.cells #[ki k] 3 (0, 0))), (false, .is bx (setObj m))]
set_option maxHeartbeats 400000 in
set_option maxRecDepth 8000 in
theorem add1_calls (S : List Nat) (m b1 : Nat) (k : Int) (es : Array MapEntry) (clock : Nat) (l : List Int) (hl : Hid (SetI es clock l)) (w : World) (H : St S w w [(true, .is m (.map es clock)), (false, .is b1 (.cells #[ki k] 3 (0, 0)))]) :
    Calls Tryz.prog 46 #[setV m, .slice (some ⟨b1, 0, none⟩) 1 1] w fun e w' => ∃ es' clock', Hid (SetI es' clock' (ins l k)) ∧ e = .returned (.tuple #[]) ∧ St S w w' [(true, .is m (.map es' clock'))] := by
  go_enter Tryz.func46, Tryz.ntmps46
  repeat' (first | (go_big_may; (first
    | ((first
        | (refine loud_ rfl ?_; refine wpList_plain rfl (fun K hK => ?_); (first | (refine op_box _ _ rfl H (fun b w' H1 => hK _ _ ?_)) | (refine op_alloc _ rfl (zero_of _ _ rfl) H (fun b w' H1 => hK _ _ ?_)) | (refine op_store _ _ _ rfl rfl rfl H (by repeat (first | exact Split.here _ _ | apply Split.there)) (by kernel_rfl) (by kernel_rfl) (by kernel_rfl) (fun w' H1 => hK _ _ ?_)) | (refine op_buildSlice_all _ _ _ rfl (by first | exact elem22 | exact elem60 | exact elem66 | exact elem72 | exact elem74) (by kernel_rfl) (by kernel_rfl) (by kernel_rfl) H (fun b w' H1 => hK _ _ ?_))); clear hK K; replace H := H1; clear H1)); (try clear hc); (try simp only [nrm, splice, Value.cells, Nat.reduceAdd, Act.eval, Act.put] at H); have hc := H.cells; simp only [CellsOf, KnCells, knc, Nat.reduceAdd] at hc))) | go_values | go_skip | go_guarded | go_step | go_upon | go_back | dsimp only)
  obtain ⟨bx, rfl⟩ : ∃ q, q = b := ⟨_, rfl⟩
  have H0 := (H.ro (k := .is bx (setObj m)) (by repeat (first | exact Split.here _ _ | apply Split.there))).sel (L' := [(true, .is m (.map es clock)), (false, .is b1 (.cells #[ki k] 3 (0, 0))), (false, .is bx (setObj m))]) (by repeat (first | exact Sel.nil _ | (apply Sel.cons; focus (repeat (first | exact Split.here _ _ | apply Split.there)))))
  clear H hc
  go_loopw [8] (AtAdd S w m b1 bx k l) (fun i _ => 2 - (intOf i).toNat)
  case atStart => exact ⟨es, clock, .inl ⟨rfl, hl⟩, H0⟩
  case round =>
    clear H0 hl
    obtain ⟨es, clock, ⟨rfl, hl⟩ | ⟨rfl, hl⟩, H⟩ := hrel
    · have hc := H.cells; simp only [CellsOf, KnCells, knc, Nat.reduceAdd] at hc
      repeat' (first | (go_big_may; (first
    | go_skip
    | (refine wpList_plain rfl (fun K hK => ?_); (refine op_ins _ _ _ _ _ _ rfl Tryz.underlying40 keyN rfl rfl rfl H (by repeat (first | exact Split.here _ _ | apply Split.there)) hl.out (fun es' clock' w' hl1 H1 => hK _ _ ?_); clear hK K; replace H := H1; clear H1; (try clear hc); (try simp only [nrm, splice, Value.cells, Nat.reduceAdd, Act.eval, Act.put] at H); have hc := H.cells; simp only [CellsOf, KnCells, knc, Nat.reduceAdd] at hc))
    | ((first
        | (refine loud_ rfl ?_; refine wpList_plain rfl (fun K hK => ?_); (first | (refine op_box _ _ rfl H (fun b w' H1 => hK _ _ ?_)) | (refine op_alloc _ rfl (zero_of _ _ rfl) H (fun b w' H1 => hK _ _ ?_)) | (refine op_store _ _ _ rfl rfl rfl H (by repeat (first | exact Split.here _ _ | apply Split.there)) (by kernel_rfl) (by kernel_rfl) (by kernel_rfl) (fun w' H1 => hK _ _ ?_)) | (refine op_buildSlice_all _ _ _ rfl (by first | exact elem22 | exact elem60 | exact elem66 | exact elem72 | exact elem74) (by kernel_rfl) (by kernel_rfl) (by kernel_rfl) H (fun b w' H1 => hK _ _ ?_))); clear hK K; replace H := H1; clear H1)); (try clear hc); (try simp only [nrm, splice, Value.cells, Nat.reduceAdd, Act.eval, Act.put] at H); have hc := H.cells; simp only [CellsOf, KnCells, knc, Nat.reduceAdd] at hc))) | go_values | go_skip | go_guarded | go_step | go_upon | go_back | dsimp only)
      (try simp only [Act.put])
      repeat' (first | (go_big_may; (first
    | ((first
        | (refine loud_ rfl ?_; refine wpList_plain rfl (fun K hK => ?_); (first | (refine op_box _ _ rfl H (fun b w' H1 => hK _ _ ?_)) | (refine op_alloc _ rfl (zero_of _ _ rfl) H (fun b w' H1 => hK _ _ ?_)) | (refine op_store _ _ _ rfl rfl rfl H (by repeat (first | exact Split.here _ _ | apply Split.there)) (by kernel_rfl) (by kernel_rfl) (by kernel_rfl) (fun w' H1 => hK _ _ ?_)) | (refine op_buildSlice_all _ _ _ rfl (by first | exact elem22 | exact elem60 | exact elem66 | exact elem72 | exact elem74) (by kernel_rfl) (by kernel_rfl) (by kernel_rfl) H (fun b w' H1 => hK _ _ ?_))); clear hK K; replace H := H1; clear H1)); (try clear hc); (try simp only [nrm, splice, Value.cells, Nat.reduceAdd, Act.eval, Act.put] at H); have hc := H.cells; simp only [CellsOf, KnCells, knc, Nat.reduceAdd] at hc))) | go_values | go_skip | go_guarded | go_step | go_upon | go_back | dsimp only)
      exact ⟨⟨es', clock', .inr ⟨rfl, hl1⟩, H.sel (by repeat (first | exact Sel.nil _ | (apply Sel.cons; focus (repeat (first | exact Split.here _ _ | apply Split.there)))))⟩, by decide⟩
    · have hc := H.cells; simp only [CellsOf, KnCells, knc, Nat.reduceAdd] at hc
      repeat' (first | (go_big_may; (first
    | ((first
        | (refine loud_ rfl ?_; refine wpList_plain rfl (fun K hK => ?_); (first | (refine op_box _ _ rfl H (fun b w' H1 => hK _ _ ?_)) | (refine op_alloc _ rfl (zero_of _ _ rfl) H (fun b w' H1 => hK _ _ ?_)) | (refine op_store _ _ _ rfl rfl rfl H (by repeat (first | exact Split.here _ _ | apply Split.there)) (by kernel_rfl) (by kernel_rfl) (by kernel_rfl) (fun w' H1 => hK _ _ ?_)) | (refine op_buildSlice_all _ _ _ rfl (by first | exact elem22 | exact elem60 | exact elem66 | exact elem72 | exact elem74) (by kernel_rfl) (by kernel_rfl) (by kernel_rfl) H (fun b w' H1 => hK _ _ ?_))); clear hK K; replace H := H1; clear H1)); (try clear hc); (try simp only [nrm, splice, Value.cells, Nat.reduceAdd, Act.eval, Act.put] at H); have hc := H.cells; simp only [CellsOf, KnCells, knc, Nat.reduceAdd] at hc))) | go_values | go_skip | go_guarded | go_step | go_upon | go_back | dsimp only)
      go_end0
      exact ⟨es, clock, hl, rfl, H.top1⟩
def intsN (l : List Int) : List Value := l.map ki
theorem intsN_len (l : List Int) : (intsN l).length = l.length := by simp [intsN]
def insAll (l ks : List Int) : List Int := ks.foldl ins l
theorem insAll_mem : ∀ (ks l : List Int) (x : Int), x ∈ insAll l ks ↔ x ∈ l ∨ x ∈ ks
  | [], l, x => by simp [insAll]
  | k :: ks, l, x => by
    have := insAll_mem ks (ins l k) x
    unfold insAll at this ⊢
    rw [List.foldl_cons, this, ins_mem, List.mem_cons, or_assoc]
theorem insAll_nodup : ∀ (ks l : List Int), l.Nodup → (insAll l ks).Nodup
  | [], _, h => h
  | k :: ks, l, h => insAll_nodup ks (ins l k) (ins_nodup h k)
theorem insAll_len : ∀ (ks l : List Int), (insAll l ks).length ≤ l.length + ks.length
  | [], l => by simp [insAll]
  | k :: ks, l => by
    have h1 := insAll_len ks (ins l k)
    have h2 := ins_len l k
    unfold insAll at h1 ⊢
    rw [List.foldl_cons]
    simp only [List.length_cons]
    omega
theorem insAll_snoc (l ks : List Int) (k : Int) : insAll l (ks ++ [k]) = ins (insAll l ks) k := by simp [insAll]
theorem insAll_app (l ks js : List Int) : insAll l (ks ++ js) = insAll (insAll l ks) js := by simp [insAll]
abbrev set0 : Obj := .cells #[.map none] 42 (0, 0)
def AtNew (w : World) (m s3 r2 : Nat) (src : Option Addr) (l : List Int) (i : Value) (wr : World) : Prop := ∃ (j : Nat) (es : Array MapEntry) (clock : Nat), i = .int .i64 j ∧ j ≤ l.length ∧ Hid (SetI es clock (insAll [] (l.take j))) ∧
  St [] w wr [(true, .is m (.map es clock)), (true, .is s3 (setObj m)), (true, .is r2 set0), (false, soft src (intsN l))]
set_option maxHeartbeats 400000 in
set_option maxRecDepth 8000 in
theorem setNew_calls (src : Option Addr) (l : List Int) (n c : Nat) (hn : Hid (l.length = n)) (hnn : n ≤ 2147483647) (w : World) (H : St [] w w [(false, soft src (intsN l))]) :
    Calls Tryz.prog 27 #[.slice src n c] w fun e w' => ∃ m es clock, Hid (SetI es clock (insAll [] l)) ∧ e = .returned (setV m) ∧ St [] w w' [(true, .is m (.map es clock))] := by
  go_enter Tryz.func27, Tryz.ntmps27
  repeat' (first | (go_big_may; (first
    | ((first
        | (refine loud_ rfl ?_; refine wpList_plain rfl (fun K hK => ?_); (first | (refine op_makeMap _ rfl H (fun m w' H1 => hK _ _ ?_)) | (refine op_box _ _ rfl H (fun b w' H1 => hK _ _ ?_)) | (refine op_alloc _ rfl (zero_of _ _ rfl) H (fun b w' H1 => hK _ _ ?_)) | (refine op_store _ _ _ rfl rfl rfl H (by repeat (first | exact Split.here _ _ | apply Split.there)) (by kernel_rfl) (by kernel_rfl) (by kernel_rfl) (fun w' H1 => hK _ _ ?_)) | (refine op_buildSlice_all _ _ _ rfl (by first | exact elem22 | exact elem60 | exact elem66 | exact elem72 | exact elem74) (by kernel_rfl) (by kernel_rfl) (by kernel_rfl) H (fun b w' H1 => hK _ _ ?_))); clear hK K; replace H := H1; clear H1)); (try clear hc); (try simp only [nrm, splice, Value.cells, Nat.reduceAdd, Act.eval, Act.put] at H); have hc := H.cells; simp only [CellsOf, KnCells, knc, Nat.reduceAdd] at hc))) | go_values | go_skip | go_guarded | go_step | go_upon | go_back | dsimp only)
  (try simp only [Act.put])
  obtain ⟨s3, rfl⟩ : ∃ q, q = b := ⟨_, rfl⟩
  obtain ⟨r2, rfl⟩ : ∃ q, q = b := ⟨_, rfl⟩
  have H0 := H.sel (L' := [(true, .is m (.map #[] 0)), (true, .is s3 (setObj m)), (true, .is r2 set0), (false, soft src (intsN l))]) (by repeat (first | exact Sel.nil _ | (apply Sel.cons; focus (repeat (first | exact Split.here _ _ | apply Split.there)))))
  clear H hc
  go_loopw [10] (AtNew w m s3 r2 src l) (fun i _ => n - (intOf i).toNat)
  case atStart => exact ⟨0, #[], 0, rfl, Nat.zero_le _, setM_nil _ _, H0⟩
  case round =>
    clear H0
    obtain ⟨j, es, clock, rfl, hj, hset, H⟩ := hrel
    rw [hn.out] at hj
    by_cases hlt : j < n
    · have hlt' : j < l.length := by rw [hn.out]; exact hlt
      obtain ⟨b1, o1, rfl, H1⟩ := H.elemSoft (Split.there _ (Split.there _ (Split.there _ (Split.here _ _)))) j [ki l[j]] (by show 0 < 1; omega) (by rw [intsN_len]; show j + 1 ≤ _; omega) (by intro i hi; obtain rfl : i = 0 := (by simpa using hi); simp [intsN, hlt'])
      have hnx : Hid (insAll [] (l.take (j + 1)) = ins (insAll [] (l.take j)) l[j]) := by show _ = _; rw [← List.take_append_getElem hlt', insAll_snoc]
      generalize l[j] = k at *
      replace H := H1
      clear H1
      have hcj : decide ((j : Int) < (n : Int)) = true := by simp; omega
      have hc := H.cells; simp only [CellsOf, KnCells, knc, Nat.reduceAdd] at hc
      repeat' (first | (go_big_may; (first
    | go_skip
    | ((first
        | (go_at_call 46; refine Calls.mono (add1_calls _ m _ k es clock _ hset _ (H.pick (by repeat (first | exact Picks.nil _ | (apply Picks.wr; focus (repeat (first | exact Split.here _ _ | apply Split.there))) | (apply Picks.rd; focus (repeat (first | exact Split.here _ _ | apply Split.there))))))) ?_; rintro e w' ⟨es', clock', hset', rfl, H'⟩; replace H := H.merge (by first | exact Strikes.nil _ | (repeat (first | exact Strikes.nil _ | (apply Strikes.cons; focus (repeat (first | exact Split.here _ _ | apply Split.there)))))) H' rfl; clear H')
        | (refine loud_ rfl ?_; refine wpList_plain rfl (fun K hK => ?_); (first | (refine op_box _ _ rfl H (fun b w' H1 => hK _ _ ?_)) | (refine op_alloc _ rfl (zero_of _ _ rfl) H (fun b w' H1 => hK _ _ ?_)) | (refine op_store _ _ _ rfl rfl rfl H (by repeat (first | exact Split.here _ _ | apply Split.there)) (by kernel_rfl) (by kernel_rfl) (by kernel_rfl) (fun w' H1 => hK _ _ ?_)) | (refine op_buildSlice_all _ _ _ rfl (by first | exact elem22 | exact elem60 | exact elem66 | exact elem72 | exact elem74) (by kernel_rfl) (by kernel_rfl) (by kernel_rfl) H (fun b w' H1 => hK _ _ ?_))); clear hK K; replace H := H1; clear H1)); (try clear hc); (try simp only [nrm, splice, Value.cells, Nat.reduceAdd, Act.eval, Act.put] at H); have hc := H.cells; simp only [CellsOf, KnCells, knc, Nat.reduceAdd] at hc))) | go_values | go_skip | go_guarded | go_step | go_upon | go_back | dsimp only)

      exact ⟨⟨j + 1, es', clock', by go_num, by omega, by rw [hnx.out]; exact hset', H.sel (by repeat (first | exact Sel.nil _ | (apply Sel.cons; focus (repeat (first | exact Split.here _ _ | apply Split.there)))))⟩, by simp [intOf]; omega⟩
    · obtain rfl : j = n := by omega
      have hfin := hn.out
      rw [← hfin, List.take_length] at hset
      have hc := H.cells; simp only [CellsOf, KnCells, knc, Nat.reduceAdd] at hc
      repeat' (first | (go_big_may; (first
    | ((first
        | (refine loud_ rfl ?_; refine wpList_plain rfl (fun K hK => ?_); (first | (refine op_box _ _ rfl H (fun b w' H1 => hK _ _ ?_)) | (refine op_alloc _ rfl (zero_of _ _ rfl) H (fun b w' H1 => hK _ _ ?_)) | (refine op_store _ _ _ rfl rfl rfl H (by repeat (first | exact Split.here _ _ | apply Split.there)) (by kernel_rfl) (by kernel_rfl) (by kernel_rfl) (fun w' H1 => hK _ _ ?_)) | (refine op_buildSlice_all _ _ _ rfl (by first | exact elem22 | exact elem60 | exact elem66 | exact elem72 | exact elem74) (by kernel_rfl) (by kernel_rfl) (by kernel_rfl) H (fun b w' H1 => hK _ _ ?_))); clear hK K; replace H := H1; clear H1)); (try clear hc); (try simp only [nrm, splice, Value.cells, Nat.reduceAdd, Act.eval, Act.put] at H); have hc := H.cells; simp only [CellsOf, KnCells, knc, Nat.reduceAdd] at hc))) | go_values | go_skip | go_guarded | go_step | go_upon | go_back | dsimp only)
      exact bodyPost_ret (v := setV m) (by simp [results, Tryz.results27, go_sem, hc, Act.put]; try rfl) rfl ⟨m, es, clock, hset, rfl, H.top1⟩
end Go.Proofs.YtikaldcoakpfoaaGreatDoor
