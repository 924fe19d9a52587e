import Derived.Test.YtdcijhdjddiboaaDoorVerN2
-- MORE
namespace Go.Proofs.YtdcijhdjddiboaaDoor
set_option linter.unusedVariables false
set_option linter.unusedSimpArgs false
set_option linter.unnecessarySimpa false
open Go.RowKit Go.V

theorem var_ext {P : Program} {w w' : World} {name : String} {cs : Array Value} (h : w.var? P name = some cs) (e : Ext [] w w') : w'.var? P name = some cs := by
  unfold World.var? at *
  cases hg : P.globalNamed name with
  | none => simp [hg] at h
  | some g =>
    simp only [hg, Option.bind_some] at h ⊢
    have hl : g < w.heap.size := by
      rcases Nat.lt_or_ge g w.heap.size with h1 | h1
      · exact h1
      · simp [Array.getElem?_eq_none h1] at h
    rw [e.block g hl (by simp)]
    exact h
/-- What the library's variables hold. -/
def ErrAt (w : World) : Prop := ∃ tp p, w.var? Tryd.prog "strconv.ErrSyntax" = some #[.iface tp p]
theorem errAt_ext {w w' : World} (h : ErrAt w) (e : Ext [] w w') : ErrAt w' := by
  obtain ⟨tp, p, h⟩ := h
  exact ⟨tp, p, var_ext h e⟩
theorem parse_empty (t : ByteArray) (ht : Hid (t.data.toList = [])) (w : World) (he : ErrAt w) :
    Calls Tryd.prog 61 #[.string t, .int .i64 10, .int .i64 64] w fun e w' => ∃ v, e = .returned (.tuple #[.int .i64 0, .iface 114 v]) ∧ Ext [] w w' := by
  obtain ⟨tp, p, hv⟩ := he
  have hsz : t.size ≤ 0 := by
    have e : t.size = t.data.toList.length := by rw [Array.length_toList]; rfl
    rw [e, ht.out]
    simp
  refine (Tryd.strconv_ParseInt_10_at64_syntax_var t (by omega) (by rw [ht.out]; rfl) tp p w hv).mono ?_
  rintro e w' ⟨N, rfl, _, _, hb⟩
  exact ⟨_, rfl, Ext.of_below hb⟩

/-- A text without a digit ahead. -/
def NoDig (s : ByteArray) : Prop := ∀ (h : 0 < s.size), ((s[0].toNat : Nat) : Int) < 48 ∨ 57 < ((s[0].toNat : Nat) : Int)
def AtBad (pb : Nat) (w : World) (at' bg i : Value) (wr : World) : Prop := i = .int .i64 0 ∧ at' = .int .i64 0 ∧ bg = .int .i64 0 ∧ St [] w wr [(true, .is pb (.cells #[.int .i64 0, .int .i64 0, .int .i64 0] 54 (0, 0)))]
def BadPost (w : World) (e : Ending) (w' : World) : Prop := ∃ v, e = .returned (.tuple #[.pointer none, .iface 94 v]) ∧ Ext [] w w'
set_option maxHeartbeats 2000000 in
set_option maxRecDepth 4000 in
theorem newVersion_bad (s : ByteArray) (hs : Hid (NoDig s)) (hz : s.size ≤ 1000000) (w : World) (he : ErrAt w) :
    Calls Tryd.prog 50 #[.string s] w (BadPost w) := by
  have he' : Hid (∀ w', Ext [] w w' → ErrAt w') := fun w' e => errAt_ext he e
  clear he
  have H := St.init [] w
  go_enter Tryd.func50, Tryd.ntmps50
  go_wp2_with (first
    | ((first
        | (refine loud_ rfl ?_; refine wpList_plain rfl (fun K hK => ?_); (first | (refine op_box _ _ rfl H (fun b w' H1 => hK _ _ ?_)) | (refine op_alloc _ rfl (zero_of _ _ rfl) H (fun b w' H1 => hK _ _ ?_)) | (refine op_store _ _ _ rfl rfl rfl H (by repeat (first | exact Split.here _ _ | apply Split.there)) (by kernel_rfl) (by kernel_rfl) (by kernel_rfl) (fun w' H1 => hK _ _ ?_)) | (refine op_buildSlice_all _ _ _ rfl (by first | exact elem22 | exact elem39 | exact elem76 | exact elem154) (by kernel_rfl) (by kernel_rfl) (by kernel_rfl) H (fun b w' H1 => hK _ _ ?_))); clear hK K; replace H := H1; clear H1)); (try clear hc); (try simp only [nrm, splice, Value.cells, Nat.reduceAdd, Act.eval, Act.put] at H); have hc := H.cells; simp only [CellsOf, KnCells, knc, Nat.reduceAdd] at hc))
  obtain ⟨pb, rfl⟩ : ∃ q : Nat, q = b := ⟨_, rfl⟩
  have hA0 : AtBad pb w (.int .i64 0) (.int .i64 0) (.int .i64 0) w' := ⟨rfl, rfl, rfl, H⟩
  clear H hc
  go_loopw [5, 6, 7] (AtBad pb w) (fun _ _ i _ => 1)
  case atStart => exact hA0
  case round =>
    clear hA0
    obtain ⟨rfl, rfl, rfl, H⟩ := hrel
    by_cases h0 : 0 < s.size
    · by_cases hd : ((s[0].toNat : Nat) : Int) = 46
      · have hc := H.cells; simp only [CellsOf, KnCells, knc, Nat.reduceAdd] at hc
        repeat' (first | (go_big_may; (first
    | go_skip
    | ((first
        | (go_at_call 61; refine Calls.mono (parse_empty ByteArray.empty rfl _ (he'.out _ H.ext)) ?_; rintro e w' ⟨v, rfl, H'⟩; replace H := H.of_ext H'; clear H')
        | (refine loud_ rfl ?_; refine wpList_plain rfl (fun K hK => ?_); (first | (refine op_box _ _ rfl H (fun b w' H1 => hK _ _ ?_)) | (refine op_alloc _ rfl (zero_of _ _ rfl) H (fun b w' H1 => hK _ _ ?_)) | (refine op_store _ _ _ rfl rfl rfl H (by repeat (first | exact Split.here _ _ | apply Split.there)) (by kernel_rfl) (by kernel_rfl) (by kernel_rfl) (fun w' H1 => hK _ _ ?_)) | (refine op_buildSlice_all _ _ _ rfl (by first | exact elem22 | exact elem39 | exact elem76 | exact elem154) (by kernel_rfl) (by kernel_rfl) (by kernel_rfl) H (fun b w' H1 => hK _ _ ?_))); clear hK K; replace H := H1; clear H1)); (try clear hc); (try simp only [nrm, splice, Value.cells, Nat.reduceAdd, Act.eval, Act.put] at H); have hc := H.cells; simp only [CellsOf, KnCells, knc, Nat.reduceAdd] at hc))) | go_values | go_skip | go_guarded | go_step | go_upon | go_back | dsimp only)
        go_ret2
        exact ⟨_, rfl, H.ext⟩
      · have hn1 : (((s[0].toNat : Nat) : Int) == 46) = false := by simp; omega
        have hn2 : (((s[0].toNat : Nat) : Int) != 46) = true := by simp; omega
        rcases hs.out h0 with h1 | h1
        · have hc := H.cells; simp only [CellsOf, KnCells, knc, Nat.reduceAdd] at hc
          repeat' (first | (go_big_may; (first
    | ((first
        | (refine loud_ rfl ?_; refine wpList_plain rfl (fun K hK => ?_); (first | (refine op_box _ _ rfl H (fun b w' H1 => hK _ _ ?_)) | (refine op_alloc _ rfl (zero_of _ _ rfl) H (fun b w' H1 => hK _ _ ?_)) | (refine op_store _ _ _ rfl rfl rfl H (by repeat (first | exact Split.here _ _ | apply Split.there)) (by kernel_rfl) (by kernel_rfl) (by kernel_rfl) (fun w' H1 => hK _ _ ?_)) | (refine op_buildSlice_all _ _ _ rfl (by first | exact elem22 | exact elem39 | exact elem76 | exact elem154) (by kernel_rfl) (by kernel_rfl) (by kernel_rfl) H (fun b w' H1 => hK _ _ ?_))); clear hK K; replace H := H1; clear H1)); (try clear hc); (try simp only [nrm, splice, Value.cells, Nat.reduceAdd, Act.eval, Act.put] at H); have hc := H.cells; simp only [CellsOf, KnCells, knc, Nat.reduceAdd] at hc))) | go_values | go_skip | go_guarded | go_step | go_upon | go_back | dsimp only)
          go_ret2
          exact ⟨_, rfl, H.ext⟩
        · have h2 : ¬ ((s[0].toNat : Nat) : Int) < 48 := by omega
          have hc := H.cells; simp only [CellsOf, KnCells, knc, Nat.reduceAdd] at hc
          repeat' (first | (go_big_may; (first
    | ((first
        | (refine loud_ rfl ?_; refine wpList_plain rfl (fun K hK => ?_); (first | (refine op_box _ _ rfl H (fun b w' H1 => hK _ _ ?_)) | (refine op_alloc _ rfl (zero_of _ _ rfl) H (fun b w' H1 => hK _ _ ?_)) | (refine op_store _ _ _ rfl rfl rfl H (by repeat (first | exact Split.here _ _ | apply Split.there)) (by kernel_rfl) (by kernel_rfl) (by kernel_rfl) (fun w' H1 => hK _ _ ?_)) | (refine op_buildSlice_all _ _ _ rfl (by first | exact elem22 | exact elem39 | exact elem76 | exact elem154) (by kernel_rfl) (by kernel_rfl) (by kernel_rfl) H (fun b w' H1 => hK _ _ ?_))); clear hK K; replace H := H1; clear H1)); (try clear hc); (try simp only [nrm, splice, Value.cells, Nat.reduceAdd, Act.eval, Act.put] at H); have hc := H.cells; simp only [CellsOf, KnCells, knc, Nat.reduceAdd] at hc))) | go_values | go_skip | go_guarded | go_step | go_upon | go_back | dsimp only)
          go_ret2
          exact ⟨_, rfl, H.ext⟩
    · have hz0 : s.size = 0 := by omega
      have hc := H.cells; simp only [CellsOf, KnCells, knc, Nat.reduceAdd] at hc
      repeat' (first | (go_big_may; (first
    | go_skip
    | ((first
        | (go_at_call 61; refine Calls.mono (parse_empty ByteArray.empty rfl _ (he'.out _ H.ext)) ?_; rintro e w' ⟨v, rfl, H'⟩; replace H := H.of_ext H'; clear H')
        | (refine loud_ rfl ?_; refine wpList_plain rfl (fun K hK => ?_); (first | (refine op_box _ _ rfl H (fun b w' H1 => hK _ _ ?_)) | (refine op_alloc _ rfl (zero_of _ _ rfl) H (fun b w' H1 => hK _ _ ?_)) | (refine op_store _ _ _ rfl rfl rfl H (by repeat (first | exact Split.here _ _ | apply Split.there)) (by kernel_rfl) (by kernel_rfl) (by kernel_rfl) (fun w' H1 => hK _ _ ?_)) | (refine op_buildSlice_all _ _ _ rfl (by first | exact elem22 | exact elem39 | exact elem76 | exact elem154) (by kernel_rfl) (by kernel_rfl) (by kernel_rfl) H (fun b w' H1 => hK _ _ ?_))); clear hK K; replace H := H1; clear H1)); (try clear hc); (try simp only [nrm, splice, Value.cells, Nat.reduceAdd, Act.eval, Act.put] at H); have hc := H.cells; simp only [CellsOf, KnCells, knc, Nat.reduceAdd] at hc))) | go_values | go_skip | go_guarded | go_step | go_upon | go_back | dsimp only)
      go_ret2
      exact ⟨_, rfl, H.ext⟩
end Go.Proofs.YtdcijhdjddiboaaDoor
