import Derived.Test.YtdcijhdjddiboaaDoorVerI
import Derived.Test.YtdcijhdjddiboaaDoorVerM
import Derived.Deep.DeepCutAuto
-- MORE
namespace Go.Proofs.YtdcijhdjddiboaaDoor
set_option linter.unusedVariables false
set_option linter.unusedSimpArgs false
set_option linter.unnecessarySimpa false
open Go.RowKit Go.V

def AtFit (w : World) (at' : Option Addr) (ts : List ByteArray) (iv : Value) (wr : World) : Prop := ∃ k : Nat, k ≤ ts.length ∧ iv = .int .i64 k ∧ Hid (∀ j t, j < k → ts[j]? = some t → t.size ≤ 2147483647) ∧ St [] w wr [(false, .arr at' (strs ts))]
def Fits3 (ts : List ByteArray) : Prop := ts.length ≤ 2147483647 ∧ ∀ t ∈ ts, t.size ≤ 2147483647
set_option maxHeartbeats 2000000 in
set_option maxRecDepth 8000 in
theorem zzFits3_calls (at' : Option Addr) (n cap : Nat) (ts : List ByteArray) (hn : n = ts.length) (hm : n ≤ maxLen) (hz : Hid (∀ t ∈ ts, t.size ≤ maxLen)) (w : World) (H : St [] w w [(false, .arr at' (strs ts))]) :
    Calls Tryd.prog 29 #[.slice at' n cap] w fun e w' => ∃ b, e = .returned (.bool b) ∧ Ext [] w w' ∧ Hid (b = true → Fits3 ts) := by
  subst hn
  have hm' := Lib.hid hm
  clear hm
  go_enter Tryd.func29, Tryd.ntmps29
  by_cases hbig : ts.length ≤ 2147483647
  · have hI : ¬ (2147483647 : Int) < ts.length := by omega
    have hc := H.cells; simp only [CellsOf, KnCells, knc, Nat.reduceAdd] at hc
    go_wp2_with (first
    | ((first
        | (refine loud_ rfl ?_; refine wpList_plain rfl (fun K hK => ?_); (first | (refine op_box _ _ rfl H (fun b w' H1 => hK _ _ ?_)) | (refine op_alloc _ rfl (zero_of _ _ rfl) H (fun b w' H1 => hK _ _ ?_)) | (refine op_store _ _ _ rfl rfl rfl H (by repeat (first | exact Split.here _ _ | apply Split.there)) (by kernel_rfl) (by kernel_rfl) (by kernel_rfl) (fun w' H1 => hK _ _ ?_)) | (refine op_buildSlice_all _ _ _ rfl (by first | exact elem22 | exact elem39 | exact elem76 | exact elem154) (by kernel_rfl) (by kernel_rfl) (by kernel_rfl) H (fun b w' H1 => hK _ _ ?_))); clear hK K; replace H := H1; clear H1)); (try clear hc); (try simp only [nrm, splice, Value.cells, Nat.reduceAdd, Act.eval, Act.put] at H); have hc := H.cells; simp only [CellsOf, KnCells, knc, Nat.reduceAdd] at hc))
    have hA0 : AtFit w at' ts (.int .i64 (0 : Nat)) w := ⟨0, Nat.zero_le _, rfl, (fun j t hj _ => absurd hj (by omega)), H⟩
    clear H hc
    (try simp only [Act.put, slt])
    go_loopw [4, 10] (fun _ iv wr => AtFit w at' ts iv wr) (fun _ i _ => ts.length - (intOf i).toNat)
    case atStart => exact hA0
    case round =>
      clear hA0
      obtain ⟨k, hk, rfl, hsz, H⟩ := hrel
      by_cases hlt : k < ts.length
      · have hks : (k : Int) < (ts.length : Int) := by omega
        have hk63 : k ≤ 2147483647 := by omega
        obtain ⟨blk, off, hat⟩ : ∃ blk off, at' = some ⟨blk, off, none⟩ := arr_some (H.get (Split.here _ _)) (by rw [strs, List.length_map]; omega)
        subst hat
        have hst : Hid ((strs ts)[k]? = some (.string ts[k]) ∧ ts[k]? = some ts[k]) := ⟨by simp [strs, hlt], by simp [hlt]⟩
        have htz := hz.out ts[k] (List.getElem_mem hlt)
        generalize ts[k] = t at hst htz
        have H1 := H.elem (Split.here _ _) k [.string t] (by rw [strs, List.length_map]; show k + 1 ≤ _; omega) (fun j hj => by obtain rfl : j = 0 := (by simpa using hj); exact hst.out.1)
        replace H := H1
        clear H1
        have htz' := Lib.hid htz
        clear htz
        by_cases hts : t.size ≤ 2147483647
        · have hI2 : ¬ (2147483647 : Int) < t.size := by omega
          have htn := Lib.hid hts
          clear hts
          have hc := H.cells; simp only [CellsOf, KnCells, knc, Nat.reduceAdd] at hc
          repeat' (first | (go_big_may; (first
    | ((first
        | (refine loud_ rfl ?_; refine wpList_plain rfl (fun K hK => ?_); (first | (refine op_box _ _ rfl H (fun b w' H1 => hK _ _ ?_)) | (refine op_alloc _ rfl (zero_of _ _ rfl) H (fun b w' H1 => hK _ _ ?_)) | (refine op_store _ _ _ rfl rfl rfl H (by repeat (first | exact Split.here _ _ | apply Split.there)) (by kernel_rfl) (by kernel_rfl) (by kernel_rfl) (fun w' H1 => hK _ _ ?_)) | (refine op_buildSlice_all _ _ _ rfl (by first | exact elem22 | exact elem39 | exact elem76 | exact elem154) (by kernel_rfl) (by kernel_rfl) (by kernel_rfl) H (fun b w' H1 => hK _ _ ?_))); clear hK K; replace H := H1; clear H1)); (try clear hc); (try simp only [nrm, splice, Value.cells, Nat.reduceAdd, Act.eval, Act.put] at H); have hc := H.cells; simp only [CellsOf, KnCells, knc, Nat.reduceAdd] at hc))) | go_values | go_skip | go_guarded | go_step | go_upon | go_back | dsimp only)
          refine ⟨⟨k + 1, by omega, by go_num, ?_, H.sel (by repeat (first | exact Sel.nil _ | (apply Sel.cons; focus (repeat (first | exact Split.here _ _ | apply Split.there)))))⟩, by simp [intOf]; omega⟩
          intro j u hj hu
          by_cases hjk : j < k
          · exact hsz.out j u hjk hu
          · obtain rfl : j = k := by omega
            rw [hst.out.2] at hu
            cases hu
            exact htn.out
        · have hI2 : (2147483647 : Int) < t.size := by omega
          clear hts
          have hc := H.cells; simp only [CellsOf, KnCells, knc, Nat.reduceAdd] at hc
          repeat' (first | (go_big_may; (first
    | ((first
        | (refine loud_ rfl ?_; refine wpList_plain rfl (fun K hK => ?_); (first | (refine op_box _ _ rfl H (fun b w' H1 => hK _ _ ?_)) | (refine op_alloc _ rfl (zero_of _ _ rfl) H (fun b w' H1 => hK _ _ ?_)) | (refine op_store _ _ _ rfl rfl rfl H (by repeat (first | exact Split.here _ _ | apply Split.there)) (by kernel_rfl) (by kernel_rfl) (by kernel_rfl) (fun w' H1 => hK _ _ ?_)) | (refine op_buildSlice_all _ _ _ rfl (by first | exact elem22 | exact elem39 | exact elem76 | exact elem154) (by kernel_rfl) (by kernel_rfl) (by kernel_rfl) H (fun b w' H1 => hK _ _ ?_))); clear hK K; replace H := H1; clear H1)); (try clear hc); (try simp only [nrm, splice, Value.cells, Nat.reduceAdd, Act.eval, Act.put] at H); have hc := H.cells; simp only [CellsOf, KnCells, knc, Nat.reduceAdd] at hc))) | go_values | go_skip | go_guarded | go_step | go_upon | go_back | dsimp only)
          go_ret
          exact ⟨false, rfl, H.ext, fun h => by cases h⟩
      · have hks : ¬ (k : Int) < (ts.length : Int) := by omega
        have hc := H.cells; simp only [CellsOf, KnCells, knc, Nat.reduceAdd] at hc
        repeat' (first | (go_big_may; (first
    | ((first
        | (refine loud_ rfl ?_; refine wpList_plain rfl (fun K hK => ?_); (first | (refine op_box _ _ rfl H (fun b w' H1 => hK _ _ ?_)) | (refine op_alloc _ rfl (zero_of _ _ rfl) H (fun b w' H1 => hK _ _ ?_)) | (refine op_store _ _ _ rfl rfl rfl H (by repeat (first | exact Split.here _ _ | apply Split.there)) (by kernel_rfl) (by kernel_rfl) (by kernel_rfl) (fun w' H1 => hK _ _ ?_)) | (refine op_buildSlice_all _ _ _ rfl (by first | exact elem22 | exact elem39 | exact elem76 | exact elem154) (by kernel_rfl) (by kernel_rfl) (by kernel_rfl) H (fun b w' H1 => hK _ _ ?_))); clear hK K; replace H := H1; clear H1)); (try clear hc); (try simp only [nrm, splice, Value.cells, Nat.reduceAdd, Act.eval, Act.put] at H); have hc := H.cells; simp only [CellsOf, KnCells, knc, Nat.reduceAdd] at hc))) | go_values | go_skip | go_guarded | go_step | go_upon | go_back | dsimp only)
        go_ret
        refine ⟨true, rfl, H.ext, fun _ => ⟨hbig, fun t ht => ?_⟩⟩
        obtain ⟨j, hj, rfl⟩ := List.mem_iff_getElem.1 ht
        exact hsz.out j _ (by omega) (List.getElem?_eq_getElem hj)
  · have hI : (2147483647 : Int) < ts.length := by omega
    have hc := H.cells; simp only [CellsOf, KnCells, knc, Nat.reduceAdd] at hc
    repeat' (first | (go_big_may; (first
    | ((first
        | (refine loud_ rfl ?_; refine wpList_plain rfl (fun K hK => ?_); (first | (refine op_box _ _ rfl H (fun b w' H1 => hK _ _ ?_)) | (refine op_alloc _ rfl (zero_of _ _ rfl) H (fun b w' H1 => hK _ _ ?_)) | (refine op_store _ _ _ rfl rfl rfl H (by repeat (first | exact Split.here _ _ | apply Split.there)) (by kernel_rfl) (by kernel_rfl) (by kernel_rfl) (fun w' H1 => hK _ _ ?_)) | (refine op_buildSlice_all _ _ _ rfl (by first | exact elem22 | exact elem39 | exact elem76 | exact elem154) (by kernel_rfl) (by kernel_rfl) (by kernel_rfl) H (fun b w' H1 => hK _ _ ?_))); clear hK K; replace H := H1; clear H1)); (try clear hc); (try simp only [nrm, splice, Value.cells, Nat.reduceAdd, Act.eval, Act.put] at H); have hc := H.cells; simp only [CellsOf, KnCells, knc, Nat.reduceAdd] at hc))) | go_values | go_skip | go_guarded | go_step | go_upon | go_back | dsimp only)
    go_ret
    exact ⟨false, rfl, H.ext, fun h => by cases h⟩

/-- What is asked of the sizes. -/
structure Fits (d : VD) (ts : List ByteArray) : Prop where
  cl : d.cl.size ≤ 2147483647
  st : d.st.size ≤ 2147483647
  tg : d.tg.size ≤ 2147483647
  n : ts.length ≤ 2147483647
  all : ∀ t ∈ ts, t.size ≤ 2147483647
set_option maxHeartbeats 2000000 in
set_option maxRecDepth 8000 in
theorem zzFits36_calls (d : VD) (ts : List ByteArray) (hn : d.n = ts.length) (hm : d.n ≤ maxLen) (hz : Hid (∀ t ∈ ts, t.size ≤ maxLen)) (w : World) (H : St [] w w [(false, .arr d.at' (strs ts))]) :
    Calls Tryd.prog 9 #[d.val] w fun e w' => ∃ b, e = .returned (.bool b) ∧ Ext [] w w' ∧ Hid (b = true → Fits d ts) := by
  obtain ⟨cl, st, tg, dn, hd, at', n, cap⟩ := d
  simp only at hn hm H
  have hn' := Lib.hid hn
  have hm' := Lib.hid hm
  clear hn hm
  have hc := H.cells; simp only [CellsOf, KnCells, knc, Nat.reduceAdd] at hc
  go_enter Tryd.func9, Tryd.ntmps9
  by_cases h1 : cl.size ≤ 2147483647
  · have hI1 : ¬ (2147483647 : Int) < cl.size := by omega
    have h1' := Lib.hid h1
    clear h1
    by_cases h2 : st.size ≤ 2147483647
    · have hI2 : ¬ (2147483647 : Int) < st.size := by omega
      have h2' := Lib.hid h2
      clear h2
      by_cases h3 : tg.size ≤ 2147483647
      · have hI3 : ¬ (2147483647 : Int) < tg.size := by omega
        have h3' := Lib.hid h3
        clear h3
        repeat' (first | (go_big_may; (first
    | go_skip
    | (go_at_call 29; refine Calls.mono (zzFits3_calls _ _ _ ts hn'.out hm'.out hz _ (H.pick (by repeat (first | exact Picks.nil _ | (apply Picks.wr; focus (repeat (first | exact Split.here _ _ | apply Split.there))) | (apply Picks.rd; focus (repeat (first | exact Split.here _ _ | apply Split.there))))))) ?_; rintro e w' ⟨bz, rfl, H', hbz⟩; replace H := H.of_ext H'; clear H'; (try clear hc); (try simp only [nrm, splice, Value.cells, Nat.reduceAdd, Act.eval, Act.put] at H); have hc := H.cells; simp only [CellsOf, KnCells, knc, Nat.reduceAdd] at hc; cases bz)
    | ((first
        | (refine loud_ rfl ?_; refine wpList_plain rfl (fun K hK => ?_); (first | (refine op_box _ _ rfl H (fun b w' H1 => hK _ _ ?_)) | (refine op_alloc _ rfl (zero_of _ _ rfl) H (fun b w' H1 => hK _ _ ?_)) | (refine op_store _ _ _ rfl rfl rfl H (by repeat (first | exact Split.here _ _ | apply Split.there)) (by kernel_rfl) (by kernel_rfl) (by kernel_rfl) (fun w' H1 => hK _ _ ?_)) | (refine op_buildSlice_all _ _ _ rfl (by first | exact elem22 | exact elem39 | exact elem76 | exact elem154) (by kernel_rfl) (by kernel_rfl) (by kernel_rfl) H (fun b w' H1 => hK _ _ ?_))); clear hK K; replace H := H1; clear H1)); (try clear hc); (try simp only [nrm, splice, Value.cells, Nat.reduceAdd, Act.eval, Act.put] at H); have hc := H.cells; simp only [CellsOf, KnCells, knc, Nat.reduceAdd] at hc))) | go_values | go_skip | go_guarded | go_step | go_upon | go_back | dsimp only)
        · go_ret
          exact ⟨false, rfl, H.ext, fun h => by cases h⟩
        · go_ret
          exact ⟨true, rfl, H.ext, fun _ => ⟨h1'.out, h2'.out, h3'.out, (hbz.out rfl).1, (hbz.out rfl).2⟩⟩
      · have hI3 : (2147483647 : Int) < tg.size := by omega
        repeat' (first | (go_big_may; (first
    | ((first
        | (refine loud_ rfl ?_; refine wpList_plain rfl (fun K hK => ?_); (first | (refine op_box _ _ rfl H (fun b w' H1 => hK _ _ ?_)) | (refine op_alloc _ rfl (zero_of _ _ rfl) H (fun b w' H1 => hK _ _ ?_)) | (refine op_store _ _ _ rfl rfl rfl H (by repeat (first | exact Split.here _ _ | apply Split.there)) (by kernel_rfl) (by kernel_rfl) (by kernel_rfl) (fun w' H1 => hK _ _ ?_)) | (refine op_buildSlice_all _ _ _ rfl (by first | exact elem22 | exact elem39 | exact elem76 | exact elem154) (by kernel_rfl) (by kernel_rfl) (by kernel_rfl) H (fun b w' H1 => hK _ _ ?_))); clear hK K; replace H := H1; clear H1)); (try clear hc); (try simp only [nrm, splice, Value.cells, Nat.reduceAdd, Act.eval, Act.put] at H); have hc := H.cells; simp only [CellsOf, KnCells, knc, Nat.reduceAdd] at hc))) | go_values | go_skip | go_guarded | go_step | go_upon | go_back | dsimp only)
        go_ret
        exact ⟨false, rfl, H.ext, fun h => by cases h⟩
    · have hI2 : (2147483647 : Int) < st.size := by omega
      repeat' (first | (go_big_may; (first
    | ((first
        | (refine loud_ rfl ?_; refine wpList_plain rfl (fun K hK => ?_); (first | (refine op_box _ _ rfl H (fun b w' H1 => hK _ _ ?_)) | (refine op_alloc _ rfl (zero_of _ _ rfl) H (fun b w' H1 => hK _ _ ?_)) | (refine op_store _ _ _ rfl rfl rfl H (by repeat (first | exact Split.here _ _ | apply Split.there)) (by kernel_rfl) (by kernel_rfl) (by kernel_rfl) (fun w' H1 => hK _ _ ?_)) | (refine op_buildSlice_all _ _ _ rfl (by first | exact elem22 | exact elem39 | exact elem76 | exact elem154) (by kernel_rfl) (by kernel_rfl) (by kernel_rfl) H (fun b w' H1 => hK _ _ ?_))); clear hK K; replace H := H1; clear H1)); (try clear hc); (try simp only [nrm, splice, Value.cells, Nat.reduceAdd, Act.eval, Act.put] at H); have hc := H.cells; simp only [CellsOf, KnCells, knc, Nat.reduceAdd] at hc))) | go_values | go_skip | go_guarded | go_step | go_upon | go_back | dsimp only)
      go_ret
      exact ⟨false, rfl, H.ext, fun h => by cases h⟩
  · have hI1 : (2147483647 : Int) < cl.size := by omega
    repeat' (first | (go_big_may; (first
    | ((first
        | (refine loud_ rfl ?_; refine wpList_plain rfl (fun K hK => ?_); (first | (refine op_box _ _ rfl H (fun b w' H1 => hK _ _ ?_)) | (refine op_alloc _ rfl (zero_of _ _ rfl) H (fun b w' H1 => hK _ _ ?_)) | (refine op_store _ _ _ rfl rfl rfl H (by repeat (first | exact Split.here _ _ | apply Split.there)) (by kernel_rfl) (by kernel_rfl) (by kernel_rfl) (fun w' H1 => hK _ _ ?_)) | (refine op_buildSlice_all _ _ _ rfl (by first | exact elem22 | exact elem39 | exact elem76 | exact elem154) (by kernel_rfl) (by kernel_rfl) (by kernel_rfl) H (fun b w' H1 => hK _ _ ?_))); clear hK K; replace H := H1; clear H1)); (try clear hc); (try simp only [nrm, splice, Value.cells, Nat.reduceAdd, Act.eval, Act.put] at H); have hc := H.cells; simp only [CellsOf, KnCells, knc, Nat.reduceAdd] at hc))) | go_values | go_skip | go_guarded | go_step | go_upon | go_back | dsimp only)
    go_ret
    exact ⟨false, rfl, H.ext, fun h => by cases h⟩

def AtTx (w : World) (s : ByteArray) (iv : Value) (wr : World) : Prop := ∃ k : Nat, k ≤ s.size ∧ iv = .int .i64 k ∧ Hid (0 < k → NoDig s) ∧ St [] w wr []
set_option maxHeartbeats 2000000 in
set_option maxRecDepth 8000 in
theorem lawText_calls (s : ByteArray) (hz : s.size ≤ 2147483647) (w : World) :
    Calls Tryd.prog 30 #[.string s] w fun e w' => ∃ b, e = .returned (.bool b) ∧ Ext [] w w' ∧ Hid (b = true → VOpt s (verOf s)) := by
  have hv := verOf_calls s hz
  have hzs := Lib.hid hz
  obtain ⟨ov, hov⟩ : ∃ ov, Hid (verOf s = ov) := ⟨_, Lib.hid rfl⟩
  rw [hov.out] at hv ⊢
  have H := St.init [] w
  go_enter Tryd.func30, Tryd.ntmps30
  cases ov with
  | some x =>
    obtain ⟨x1, x2, x3⟩ := x
    simp only [vval, Option.isSome] at hv
    have hv' := Lib.hid hv
    clear hv
    go_wp2_with (first
    | go_skip
    | ((first
        | (go_at_call 14; refine Calls.mono (hv'.out _) ?_; rintro e w' ⟨rfl, H'⟩; replace H := H.of_ext H'; clear H')
        | (refine loud_ rfl ?_; refine wpList_plain rfl (fun K hK => ?_); (first | (refine op_box _ _ rfl H (fun b w' H1 => hK _ _ ?_)) | (refine op_alloc _ rfl (zero_of _ _ rfl) H (fun b w' H1 => hK _ _ ?_)) | (refine op_store _ _ _ rfl rfl rfl H (by repeat (first | exact Split.here _ _ | apply Split.there)) (by kernel_rfl) (by kernel_rfl) (by kernel_rfl) (fun w' H1 => hK _ _ ?_)) | (refine op_buildSlice_all _ _ _ rfl (by first | exact elem22 | exact elem39 | exact elem76 | exact elem154) (by kernel_rfl) (by kernel_rfl) (by kernel_rfl) H (fun b w' H1 => hK _ _ ?_))); clear hK K; replace H := H1; clear H1)); (try clear hc); (try simp only [nrm, splice, Value.cells, Nat.reduceAdd, Act.eval, Act.put] at H); have hc := H.cells; simp only [CellsOf, KnCells, knc, Nat.reduceAdd] at hc))
    go_ret
    exact ⟨true, rfl, H.ext, fun _ => verOf_sound hov.out⟩
  | none =>
    simp only [vval, Option.isSome] at hv
    have hv' := Lib.hid hv
    clear hv
    go_wp2_with (first
    | go_skip
    | ((first
        | (go_at_call 14; refine Calls.mono (hv'.out _) ?_; rintro e w' ⟨rfl, H'⟩; replace H := H.of_ext H'; clear H')
        | (refine loud_ rfl ?_; refine wpList_plain rfl (fun K hK => ?_); (first | (refine op_box _ _ rfl H (fun b w' H1 => hK _ _ ?_)) | (refine op_alloc _ rfl (zero_of _ _ rfl) H (fun b w' H1 => hK _ _ ?_)) | (refine op_store _ _ _ rfl rfl rfl H (by repeat (first | exact Split.here _ _ | apply Split.there)) (by kernel_rfl) (by kernel_rfl) (by kernel_rfl) (fun w' H1 => hK _ _ ?_)) | (refine op_buildSlice_all _ _ _ rfl (by first | exact elem22 | exact elem39 | exact elem76 | exact elem154) (by kernel_rfl) (by kernel_rfl) (by kernel_rfl) H (fun b w' H1 => hK _ _ ?_))); clear hK K; replace H := H1; clear H1)); (try clear hc); (try simp only [nrm, splice, Value.cells, Nat.reduceAdd, Act.eval, Act.put] at H); have hc := H.cells; simp only [CellsOf, KnCells, knc, Nat.reduceAdd] at hc))
    have hA0 : AtTx w s (.int .i64 (0 : Nat)) w' := ⟨0, Nat.zero_le _, rfl, fun h => absurd h (by omega), H.sel (by repeat (first | exact Sel.nil _ | (apply Sel.cons; focus (repeat (first | exact Split.here _ _ | apply Split.there)))))⟩
    clear H hc
    (try simp only [Act.put, slt])
    go_loopw [5, 14] (fun _ iv wr => AtTx w s iv wr) (fun _ i _ => s.size - (intOf i).toNat)
    case atStart => exact hA0
    case round =>
      clear hA0
      obtain ⟨k, hk, rfl, hnd, H⟩ := hrel
      by_cases hlt : k < s.size
      · have hks : k < s.size := hlt
        obtain ⟨n, hn⟩ : ∃ n : Nat, s[k].toNat = n := ⟨_, rfl⟩
        have hn' := Lib.hid hn
        have hni : ((s[k].toNat : Nat) : Int) = (n : Int) := by rw [hn]
        clear hn
        by_cases hd : 48 ≤ n ∧ n ≤ 57
        · obtain ⟨hd1, hd2⟩ := hd
          have hI1 : (48 : Int) ≤ n := by omega
          have hI2 : (n : Int) ≤ 57 := by omega
          have hc := H.cells; simp only [CellsOf, KnCells, knc, Nat.reduceAdd] at hc
          repeat' (first | (go_big_may; (first
    | ((first
        | (refine loud_ rfl ?_; refine wpList_plain rfl (fun K hK => ?_); (first | (refine op_box _ _ rfl H (fun b w' H1 => hK _ _ ?_)) | (refine op_alloc _ rfl (zero_of _ _ rfl) H (fun b w' H1 => hK _ _ ?_)) | (refine op_store _ _ _ rfl rfl rfl H (by repeat (first | exact Split.here _ _ | apply Split.there)) (by kernel_rfl) (by kernel_rfl) (by kernel_rfl) (fun w' H1 => hK _ _ ?_)) | (refine op_buildSlice_all _ _ _ rfl (by first | exact elem22 | exact elem39 | exact elem76 | exact elem154) (by kernel_rfl) (by kernel_rfl) (by kernel_rfl) H (fun b w' H1 => hK _ _ ?_))); clear hK K; replace H := H1; clear H1)); (try clear hc); (try simp only [nrm, splice, Value.cells, Nat.reduceAdd, Act.eval, Act.put] at H); have hc := H.cells; simp only [CellsOf, KnCells, knc, Nat.reduceAdd] at hc))) | go_values | go_skip | go_guarded | go_step | go_upon | go_back | dsimp only)
          go_ret
          exact ⟨false, rfl, H.ext, fun h => by cases h⟩
        · have hstep : Hid (0 < k + 1 → NoDig s) := by
            intro _ h0
            by_cases hk0 : 0 < k
            · exact hnd.out hk0 h0
            · obtain rfl : k = 0 := by omega
              rw [hni]
              omega
          rcases (show n < 48 ∨ 57 < n by omega) with hx | hx
          · have hI4 : ¬ (48 : Int) ≤ n := by omega
            clear hd
            have hc := H.cells; simp only [CellsOf, KnCells, knc, Nat.reduceAdd] at hc
            repeat' (first | (go_big_may; (first
    | ((first
        | (refine loud_ rfl ?_; refine wpList_plain rfl (fun K hK => ?_); (first | (refine op_box _ _ rfl H (fun b w' H1 => hK _ _ ?_)) | (refine op_alloc _ rfl (zero_of _ _ rfl) H (fun b w' H1 => hK _ _ ?_)) | (refine op_store _ _ _ rfl rfl rfl H (by repeat (first | exact Split.here _ _ | apply Split.there)) (by kernel_rfl) (by kernel_rfl) (by kernel_rfl) (fun w' H1 => hK _ _ ?_)) | (refine op_buildSlice_all _ _ _ rfl (by first | exact elem22 | exact elem39 | exact elem76 | exact elem154) (by kernel_rfl) (by kernel_rfl) (by kernel_rfl) H (fun b w' H1 => hK _ _ ?_))); clear hK K; replace H := H1; clear H1)); (try clear hc); (try simp only [nrm, splice, Value.cells, Nat.reduceAdd, Act.eval, Act.put] at H); have hc := H.cells; simp only [CellsOf, KnCells, knc, Nat.reduceAdd] at hc))) | go_values | go_skip | go_guarded | go_step | go_upon | go_back | dsimp only)
            exact ⟨⟨k + 1, by omega, by go_num, hstep, H⟩, by simp [intOf]; omega⟩
          · have hI4 : (48 : Int) ≤ n := by omega
            have hI5 : ¬ (n : Int) ≤ 57 := by omega
            clear hd
            have hc := H.cells; simp only [CellsOf, KnCells, knc, Nat.reduceAdd] at hc
            repeat' (first | (go_big_may; (first
    | ((first
        | (refine loud_ rfl ?_; refine wpList_plain rfl (fun K hK => ?_); (first | (refine op_box _ _ rfl H (fun b w' H1 => hK _ _ ?_)) | (refine op_alloc _ rfl (zero_of _ _ rfl) H (fun b w' H1 => hK _ _ ?_)) | (refine op_store _ _ _ rfl rfl rfl H (by repeat (first | exact Split.here _ _ | apply Split.there)) (by kernel_rfl) (by kernel_rfl) (by kernel_rfl) (fun w' H1 => hK _ _ ?_)) | (refine op_buildSlice_all _ _ _ rfl (by first | exact elem22 | exact elem39 | exact elem76 | exact elem154) (by kernel_rfl) (by kernel_rfl) (by kernel_rfl) H (fun b w' H1 => hK _ _ ?_))); clear hK K; replace H := H1; clear H1)); (try clear hc); (try simp only [nrm, splice, Value.cells, Nat.reduceAdd, Act.eval, Act.put] at H); have hc := H.cells; simp only [CellsOf, KnCells, knc, Nat.reduceAdd] at hc))) | go_values | go_skip | go_guarded | go_step | go_upon | go_back | dsimp only)
            exact ⟨⟨k + 1, by omega, by go_num, hstep, H⟩, by simp [intOf]; omega⟩
      · obtain rfl : k = s.size := by omega
        have hks : ¬ (s.size : Int) < s.size := by omega
        have hnd' : Hid (NoDig s) := by
          intro h0
          exact hnd.out h0 h0
        have hc := H.cells; simp only [CellsOf, KnCells, knc, Nat.reduceAdd] at hc
        repeat' (first | (go_big_may; (first
    | ((first
        | (refine loud_ rfl ?_; refine wpList_plain rfl (fun K hK => ?_); (first | (refine op_box _ _ rfl H (fun b w' H1 => hK _ _ ?_)) | (refine op_alloc _ rfl (zero_of _ _ rfl) H (fun b w' H1 => hK _ _ ?_)) | (refine op_store _ _ _ rfl rfl rfl H (by repeat (first | exact Split.here _ _ | apply Split.there)) (by kernel_rfl) (by kernel_rfl) (by kernel_rfl) (fun w' H1 => hK _ _ ?_)) | (refine op_buildSlice_all _ _ _ rfl (by first | exact elem22 | exact elem39 | exact elem76 | exact elem154) (by kernel_rfl) (by kernel_rfl) (by kernel_rfl) H (fun b w' H1 => hK _ _ ?_))); clear hK K; replace H := H1; clear H1)); (try clear hc); (try simp only [nrm, splice, Value.cells, Nat.reduceAdd, Act.eval, Act.put] at H); have hc := H.cells; simp only [CellsOf, KnCells, knc, Nat.reduceAdd] at hc))) | go_values | go_skip | go_guarded | go_step | go_upon | go_back | dsimp only)
        go_ret
        refine ⟨_, rfl, H.ext, fun h => ⟨hnd'.out, ?_⟩⟩
        simp at h
        omega

set_option maxRecDepth 8000 in
theorem verThere_calls (d : VD) (hz : d.cl.size ≤ 2147483647) (w : World) :
    Calls Tryd.prog 19 #[d.val] w fun e w' => e = .returned (.bool (verOf d.cl).isSome) ∧ Ext [] w w' := by
  obtain ⟨cl, st, tg, dn, hd, at', n, cap⟩ := d
  have hv := Lib.hid (verOf_calls cl hz)
  have hzs := Lib.hid hz
  clear hz
  have H := St.init [] w
  go_enter Tryd.func19, Tryd.ntmps19
  obtain ⟨ov, hov⟩ : ∃ ov, verOf cl = ov := ⟨_, rfl⟩
  rw [hov] at hv
  simp only [hov]
  clear hov
  cases ov with
  | some x =>
    obtain ⟨x1, x2, x3⟩ := x
    simp only [vval, Option.isSome] at hv ⊢
    repeat' (first | (go_big_may; (first
    | go_skip
    | ((first
        | (go_at_call 14; refine Calls.mono (hv.out _) ?_; rintro e w' ⟨rfl, H'⟩; replace H := H.of_ext H'; clear H')
        | (refine loud_ rfl ?_; refine wpList_plain rfl (fun K hK => ?_); (first | (refine op_box _ _ rfl H (fun b w' H1 => hK _ _ ?_)) | (refine op_alloc _ rfl (zero_of _ _ rfl) H (fun b w' H1 => hK _ _ ?_)) | (refine op_store _ _ _ rfl rfl rfl H (by repeat (first | exact Split.here _ _ | apply Split.there)) (by kernel_rfl) (by kernel_rfl) (by kernel_rfl) (fun w' H1 => hK _ _ ?_)) | (refine op_buildSlice_all _ _ _ rfl (by first | exact elem22 | exact elem39 | exact elem76 | exact elem154) (by kernel_rfl) (by kernel_rfl) (by kernel_rfl) H (fun b w' H1 => hK _ _ ?_))); clear hK K; replace H := H1; clear H1)); (try clear hc); (try simp only [nrm, splice, Value.cells, Nat.reduceAdd, Act.eval, Act.put] at H); have hc := H.cells; simp only [CellsOf, KnCells, knc, Nat.reduceAdd] at hc))) | go_values | go_skip | go_guarded | go_step | go_upon | go_back | dsimp only)
    go_ret
    exact ⟨rfl, H.ext⟩
  | none =>
    simp only [vval, Option.isSome] at hv ⊢
    repeat' (first | (go_big_may; (first
    | go_skip
    | ((first
        | (go_at_call 14; refine Calls.mono (hv.out _) ?_; rintro e w' ⟨rfl, H'⟩; replace H := H.of_ext H'; clear H')
        | (refine loud_ rfl ?_; refine wpList_plain rfl (fun K hK => ?_); (first | (refine op_box _ _ rfl H (fun b w' H1 => hK _ _ ?_)) | (refine op_alloc _ rfl (zero_of _ _ rfl) H (fun b w' H1 => hK _ _ ?_)) | (refine op_store _ _ _ rfl rfl rfl H (by repeat (first | exact Split.here _ _ | apply Split.there)) (by kernel_rfl) (by kernel_rfl) (by kernel_rfl) (fun w' H1 => hK _ _ ?_)) | (refine op_buildSlice_all _ _ _ rfl (by first | exact elem22 | exact elem39 | exact elem76 | exact elem154) (by kernel_rfl) (by kernel_rfl) (by kernel_rfl) H (fun b w' H1 => hK _ _ ?_))); clear hK K; replace H := H1; clear H1)); (try clear hc); (try simp only [nrm, splice, Value.cells, Nat.reduceAdd, Act.eval, Act.put] at H); have hc := H.cells; simp only [CellsOf, KnCells, knc, Nat.reduceAdd] at hc))) | go_values | go_skip | go_guarded | go_step | go_upon | go_back | dsimp only)
    go_ret
    exact ⟨rfl, H.ext⟩
/-- What is seen is what the laws speak of. -/
structure Good (d : VD) (ts : List ByteArray) : Prop where
  all : ∀ t ∈ ts, VOpt t (verOf t)
  n : ts.length ≤ 12
  cl : VOpt d.cl (verOf d.cl)
  st : VOpt d.st (verOf d.st)
  tg : d.tg.size ≤ 20
  dn : d.dn = true → d.hd = true ∧ ∃ t, verOf d.tg = some t
def AtGo (w : World) (b : Nat) (d : VD) (ts : List ByteArray) (iv : Value) (wr : World) : Prop := ∃ k : Nat, k ≤ ts.length ∧ iv = .int .i64 k ∧ Hid (∀ j t, j < k → ts[j]? = some t → VOpt t (verOf t)) ∧
  St [] w wr [(false, .is b (.cells #[.string d.cl, .string d.st, .string d.tg, .bool d.dn, .bool d.hd, .slice d.at' d.n d.cap] 24 (0, 0))), (false, .arr d.at' (strs ts))]
set_option maxHeartbeats 4000000 in
set_option maxRecDepth 8000 in
theorem verGood_calls (d : VD) (ts : List ByteArray) (hn : d.n = ts.length) (hf : Hid (Fits d ts)) (w : World) (H : St [] w w [(false, .arr d.at' (strs ts))]) :
    Calls Tryd.prog 10 #[d.val] w fun e w' => ∃ b, e = .returned (.bool b) ∧ Ext [] w w' ∧ Hid (b = true → Good d ts) := by
  obtain ⟨cl, st, tg, dn, hd, at', n, cap⟩ := d
  simp only at hn H
  subst hn
  go_enter Tryd.func10, Tryd.ntmps10
  have hc := H.cells; simp only [CellsOf, KnCells, knc, Nat.reduceAdd] at hc
  go_wp2_with (first
    | ((first
        | (refine loud_ rfl ?_; refine wpList_plain rfl (fun K hK => ?_); (first | (refine op_box _ _ rfl H (fun b w' H1 => hK _ _ ?_)) | (refine op_alloc _ rfl (zero_of _ _ rfl) H (fun b w' H1 => hK _ _ ?_)) | (refine op_store _ _ _ rfl rfl rfl H (by repeat (first | exact Split.here _ _ | apply Split.there)) (by kernel_rfl) (by kernel_rfl) (by kernel_rfl) (fun w' H1 => hK _ _ ?_)) | (refine op_buildSlice_all _ _ _ rfl (by first | exact elem22 | exact elem39 | exact elem76 | exact elem154) (by kernel_rfl) (by kernel_rfl) (by kernel_rfl) H (fun b w' H1 => hK _ _ ?_))); clear hK K; replace H := H1; clear H1)); (try clear hc); (try simp only [nrm, splice, Value.cells, Nat.reduceAdd, Act.eval, Act.put] at H); have hc := H.cells; simp only [CellsOf, KnCells, knc, Nat.reduceAdd] at hc))
  obtain ⟨bv, rfl⟩ : ∃ q : Nat, q = b := ⟨_, rfl⟩
  have hA0 : AtGo w bv ⟨cl, st, tg, dn, hd, at', ts.length, cap⟩ ts (.int .i64 (0 : Nat)) w' := ⟨0, Nat.zero_le _, rfl, (fun j t hj _ => absurd hj (by omega)), (H.ro (by repeat (first | exact Split.here _ _ | apply Split.there))).sel (by repeat (first | exact Sel.nil _ | (apply Sel.cons; focus (repeat (first | exact Split.here _ _ | apply Split.there)))))⟩
  clear H hc
  (try simp only [Act.put, slt])
  go_loopw [4, 10] (fun _ iv wr => AtGo w bv ⟨cl, st, tg, dn, hd, at', ts.length, cap⟩ ts iv wr) (fun _ i _ => ts.length - (intOf i).toNat)
  case atStart => exact hA0
  case round =>
    clear hA0
    obtain ⟨k, hk, rfl, hsz, H⟩ := hrel
    simp only at H
    have hnf := Lib.hid hf.out.n
    by_cases hlt : k < ts.length
    · have hks : (k : Int) < (ts.length : Int) := by omega
      have hk63 : k ≤ 2147483647 := by have := hnf.out; omega
      obtain ⟨blk, off, hat⟩ : ∃ blk off, at' = some ⟨blk, off, none⟩ := arr_some (H.get (Split.there _ (Split.here _ _))) (by rw [strs, List.length_map]; omega)
      subst hat
      have hst : Hid ((strs ts)[k]? = some (.string ts[k]) ∧ ts[k]? = some ts[k]) := ⟨by simp [strs, hlt], by simp [hlt]⟩
      have htz := Lib.hid (hf.out.all ts[k] (List.getElem_mem hlt))
      generalize ts[k] = t at hst htz
      have H1 := H.elem (Split.there _ (Split.here _ _)) k [.string t] (by rw [strs, List.length_map]; show k + 1 ≤ _; omega) (fun j hj => by obtain rfl : j = 0 := (by simpa using hj); exact hst.out.1)
      replace H := H1
      clear H1
      have hc := H.cells; simp only [CellsOf, KnCells, knc, Nat.reduceAdd] at hc
      repeat' (first | (go_big_may; (first
    | go_skip
    | (go_at_call 30; refine Calls.mono (lawText_calls _ htz.out _) ?_; rintro e w' ⟨bz, rfl, H', hbz⟩; replace H := H.of_ext H'; clear H'; (try clear hc); (try simp only [nrm, splice, Value.cells, Nat.reduceAdd, Act.eval, Act.put] at H); have hc := H.cells; simp only [CellsOf, KnCells, knc, Nat.reduceAdd] at hc; cases bz)
    | ((first
        | (refine loud_ rfl ?_; refine wpList_plain rfl (fun K hK => ?_); (first | (refine op_box _ _ rfl H (fun b w' H1 => hK _ _ ?_)) | (refine op_alloc _ rfl (zero_of _ _ rfl) H (fun b w' H1 => hK _ _ ?_)) | (refine op_store _ _ _ rfl rfl rfl H (by repeat (first | exact Split.here _ _ | apply Split.there)) (by kernel_rfl) (by kernel_rfl) (by kernel_rfl) (fun w' H1 => hK _ _ ?_)) | (refine op_buildSlice_all _ _ _ rfl (by first | exact elem22 | exact elem39 | exact elem76 | exact elem154) (by kernel_rfl) (by kernel_rfl) (by kernel_rfl) H (fun b w' H1 => hK _ _ ?_))); clear hK K; replace H := H1; clear H1)); (try clear hc); (try simp only [nrm, splice, Value.cells, Nat.reduceAdd, Act.eval, Act.put] at H); have hc := H.cells; simp only [CellsOf, KnCells, knc, Nat.reduceAdd] at hc))) | go_values | go_skip | go_guarded | go_step | go_upon | go_back | dsimp only)
      · go_ret
        exact ⟨false, rfl, H.ext, fun h => by cases h⟩
      · refine ⟨⟨k + 1, by omega, by go_num, ?_, H.sel (by repeat (first | exact Sel.nil _ | (apply Sel.cons; focus (repeat (first | exact Split.here _ _ | apply Split.there)))))⟩, by simp [intOf]; omega⟩
        intro j u hj hu
        by_cases hjk : j < k
        · exact hsz.out j u hjk hu
        · obtain rfl : j = k := by omega
          rw [hst.out.2] at hu
          cases hu
          exact hbz.out rfl
    · have hks : ¬ (k : Int) < (ts.length : Int) := by omega
      have hall : Hid (∀ t ∈ ts, VOpt t (verOf t)) := by
        intro t ht
        obtain ⟨j, hj, rfl⟩ := List.mem_iff_getElem.1 ht
        exact hsz.out j _ (by omega) (List.getElem?_eq_getElem hj)
      have hzc := Lib.hid hf.out.cl
      have hzs := Lib.hid hf.out.st
      have hzt := Lib.hid hf.out.tg
      simp only at hzc hzs hzt
      clear hsz
      cases dn with
      | false =>
        by_cases h12 : ts.length ≤ 12
        · have hI12 : (ts.length : Int) ≤ 12 := by omega
          have h12' := Lib.hid h12
          clear h12
          by_cases h20 : tg.size ≤ 20
          · have hI20 : (tg.size : Int) ≤ 20 := by omega
            have h20' := Lib.hid h20
            clear h20
            have hc := H.cells; simp only [CellsOf, KnCells, knc, Nat.reduceAdd] at hc
            repeat' (first | (go_big_may; (first
    | go_skip
    | (go_at_call 30; (with_reducible refine gate_args (l := [.string cl]) ?_); refine Calls.mono (lawText_calls _ hzc.out _) ?_; rintro e w' ⟨bz, rfl, H', hbc⟩; replace H := H.of_ext H'; clear H'; (try clear hc); (try simp only [nrm, splice, Value.cells, Nat.reduceAdd, Act.eval, Act.put] at H); have hc := H.cells; simp only [CellsOf, KnCells, knc, Nat.reduceAdd] at hc; cases bz)
    | (go_at_call 30; (with_reducible refine gate_args (l := [.string st]) ?_); refine Calls.mono (lawText_calls _ hzs.out _) ?_; rintro e w' ⟨bz, rfl, H', hbs⟩; replace H := H.of_ext H'; clear H'; (try clear hc); (try simp only [nrm, splice, Value.cells, Nat.reduceAdd, Act.eval, Act.put] at H); have hc := H.cells; simp only [CellsOf, KnCells, knc, Nat.reduceAdd] at hc; cases bz)
    | ((first
        | (refine loud_ rfl ?_; refine wpList_plain rfl (fun K hK => ?_); (first | (refine op_box _ _ rfl H (fun b w' H1 => hK _ _ ?_)) | (refine op_alloc _ rfl (zero_of _ _ rfl) H (fun b w' H1 => hK _ _ ?_)) | (refine op_store _ _ _ rfl rfl rfl H (by repeat (first | exact Split.here _ _ | apply Split.there)) (by kernel_rfl) (by kernel_rfl) (by kernel_rfl) (fun w' H1 => hK _ _ ?_)) | (refine op_buildSlice_all _ _ _ rfl (by first | exact elem22 | exact elem39 | exact elem76 | exact elem154) (by kernel_rfl) (by kernel_rfl) (by kernel_rfl) H (fun b w' H1 => hK _ _ ?_))); clear hK K; replace H := H1; clear H1)); (try clear hc); (try simp only [nrm, splice, Value.cells, Nat.reduceAdd, Act.eval, Act.put] at H); have hc := H.cells; simp only [CellsOf, KnCells, knc, Nat.reduceAdd] at hc))) | go_values | go_skip | go_guarded | go_step | go_upon | go_back | dsimp only)
            · go_ret
              exact ⟨false, rfl, H.ext, fun h => by cases h⟩
            · go_ret
              exact ⟨false, rfl, H.ext, fun h => by cases h⟩
            · go_ret
              exact ⟨true, rfl, H.ext, fun _ => ⟨hall.out, h12'.out, hbc.out rfl, hbs.out rfl, h20'.out, fun h => by cases h⟩⟩
          · have hI20 : ¬ (tg.size : Int) ≤ 20 := by omega
            clear h20
            have hc := H.cells; simp only [CellsOf, KnCells, knc, Nat.reduceAdd] at hc
            repeat' (first | (go_big_may; (first
    | go_skip
    | (go_at_call 30; (with_reducible refine gate_args (l := [.string cl]) ?_); refine Calls.mono (lawText_calls _ hzc.out _) ?_; rintro e w' ⟨bz, rfl, H', hbc⟩; replace H := H.of_ext H'; clear H'; (try clear hc); (try simp only [nrm, splice, Value.cells, Nat.reduceAdd, Act.eval, Act.put] at H); have hc := H.cells; simp only [CellsOf, KnCells, knc, Nat.reduceAdd] at hc; cases bz)
    | (go_at_call 30; (with_reducible refine gate_args (l := [.string st]) ?_); refine Calls.mono (lawText_calls _ hzs.out _) ?_; rintro e w' ⟨bz, rfl, H', hbs⟩; replace H := H.of_ext H'; clear H'; (try clear hc); (try simp only [nrm, splice, Value.cells, Nat.reduceAdd, Act.eval, Act.put] at H); have hc := H.cells; simp only [CellsOf, KnCells, knc, Nat.reduceAdd] at hc; cases bz)
    | ((first
        | (refine loud_ rfl ?_; refine wpList_plain rfl (fun K hK => ?_); (first | (refine op_box _ _ rfl H (fun b w' H1 => hK _ _ ?_)) | (refine op_alloc _ rfl (zero_of _ _ rfl) H (fun b w' H1 => hK _ _ ?_)) | (refine op_store _ _ _ rfl rfl rfl H (by repeat (first | exact Split.here _ _ | apply Split.there)) (by kernel_rfl) (by kernel_rfl) (by kernel_rfl) (fun w' H1 => hK _ _ ?_)) | (refine op_buildSlice_all _ _ _ rfl (by first | exact elem22 | exact elem39 | exact elem76 | exact elem154) (by kernel_rfl) (by kernel_rfl) (by kernel_rfl) H (fun b w' H1 => hK _ _ ?_))); clear hK K; replace H := H1; clear H1)); (try clear hc); (try simp only [nrm, splice, Value.cells, Nat.reduceAdd, Act.eval, Act.put] at H); have hc := H.cells; simp only [CellsOf, KnCells, knc, Nat.reduceAdd] at hc))) | go_values | go_skip | go_guarded | go_step | go_upon | go_back | dsimp only)
            · go_ret
              exact ⟨false, rfl, H.ext, fun h => by cases h⟩
            · go_ret
              exact ⟨false, rfl, H.ext, fun h => by cases h⟩
            · go_ret
              exact ⟨false, rfl, H.ext, fun h => by cases h⟩
        · have hI12 : ¬ (ts.length : Int) ≤ 12 := by omega
          clear h12
          have hc := H.cells; simp only [CellsOf, KnCells, knc, Nat.reduceAdd] at hc
          repeat' (first | (go_big_may; (first
    | go_skip
    | (go_at_call 30; (with_reducible refine gate_args (l := [.string cl]) ?_); refine Calls.mono (lawText_calls _ hzc.out _) ?_; rintro e w' ⟨bz, rfl, H', hbc⟩; replace H := H.of_ext H'; clear H'; (try clear hc); (try simp only [nrm, splice, Value.cells, Nat.reduceAdd, Act.eval, Act.put] at H); have hc := H.cells; simp only [CellsOf, KnCells, knc, Nat.reduceAdd] at hc; cases bz)
    | (go_at_call 30; (with_reducible refine gate_args (l := [.string st]) ?_); refine Calls.mono (lawText_calls _ hzs.out _) ?_; rintro e w' ⟨bz, rfl, H', hbs⟩; replace H := H.of_ext H'; clear H'; (try clear hc); (try simp only [nrm, splice, Value.cells, Nat.reduceAdd, Act.eval, Act.put] at H); have hc := H.cells; simp only [CellsOf, KnCells, knc, Nat.reduceAdd] at hc; cases bz)
    | ((first
        | (refine loud_ rfl ?_; refine wpList_plain rfl (fun K hK => ?_); (first | (refine op_box _ _ rfl H (fun b w' H1 => hK _ _ ?_)) | (refine op_alloc _ rfl (zero_of _ _ rfl) H (fun b w' H1 => hK _ _ ?_)) | (refine op_store _ _ _ rfl rfl rfl H (by repeat (first | exact Split.here _ _ | apply Split.there)) (by kernel_rfl) (by kernel_rfl) (by kernel_rfl) (fun w' H1 => hK _ _ ?_)) | (refine op_buildSlice_all _ _ _ rfl (by first | exact elem22 | exact elem39 | exact elem76 | exact elem154) (by kernel_rfl) (by kernel_rfl) (by kernel_rfl) H (fun b w' H1 => hK _ _ ?_))); clear hK K; replace H := H1; clear H1)); (try clear hc); (try simp only [nrm, splice, Value.cells, Nat.reduceAdd, Act.eval, Act.put] at H); have hc := H.cells; simp only [CellsOf, KnCells, knc, Nat.reduceAdd] at hc))) | go_values | go_skip | go_guarded | go_step | go_upon | go_back | dsimp only)
          go_ret
          exact ⟨false, rfl, H.ext, fun h => by cases h⟩
      | true =>
        have hvt := Lib.hid (verOf_calls tg hzt.out)
        obtain ⟨ot, hot⟩ : ∃ ot, Hid (verOf tg = ot) := ⟨_, Lib.hid rfl⟩
        rw [hot.out] at hvt
        cases ot with
        | none =>
          simp only [vval, Option.isSome] at hvt
          have hc := H.cells; simp only [CellsOf, KnCells, knc, Nat.reduceAdd] at hc
          repeat' (first | (go_big_may; (first
    | go_skip
    | ((first
        | (go_at_call 14; refine Calls.mono (hvt.out _) ?_; rintro e w' ⟨rfl, H'⟩; replace H := H.of_ext H'; clear H')
        | (refine loud_ rfl ?_; refine wpList_plain rfl (fun K hK => ?_); (first | (refine op_box _ _ rfl H (fun b w' H1 => hK _ _ ?_)) | (refine op_alloc _ rfl (zero_of _ _ rfl) H (fun b w' H1 => hK _ _ ?_)) | (refine op_store _ _ _ rfl rfl rfl H (by repeat (first | exact Split.here _ _ | apply Split.there)) (by kernel_rfl) (by kernel_rfl) (by kernel_rfl) (fun w' H1 => hK _ _ ?_)) | (refine op_buildSlice_all _ _ _ rfl (by first | exact elem22 | exact elem39 | exact elem76 | exact elem154) (by kernel_rfl) (by kernel_rfl) (by kernel_rfl) H (fun b w' H1 => hK _ _ ?_))); clear hK K; replace H := H1; clear H1)); (try clear hc); (try simp only [nrm, splice, Value.cells, Nat.reduceAdd, Act.eval, Act.put] at H); have hc := H.cells; simp only [CellsOf, KnCells, knc, Nat.reduceAdd] at hc))) | go_values | go_skip | go_guarded | go_step | go_upon | go_back | dsimp only)
          go_ret
          exact ⟨false, rfl, H.ext, fun h => by cases h⟩
        | some x =>
          obtain ⟨x1, x2, x3⟩ := x
          simp only [vval, Option.isSome] at hvt
          cases hd with
          | false =>
            have hc := H.cells; simp only [CellsOf, KnCells, knc, Nat.reduceAdd] at hc
            repeat' (first | (go_big_may; (first
    | go_skip
    | ((first
        | (go_at_call 14; refine Calls.mono (hvt.out _) ?_; rintro e w' ⟨rfl, H'⟩; replace H := H.of_ext H'; clear H')
        | (refine loud_ rfl ?_; refine wpList_plain rfl (fun K hK => ?_); (first | (refine op_box _ _ rfl H (fun b w' H1 => hK _ _ ?_)) | (refine op_alloc _ rfl (zero_of _ _ rfl) H (fun b w' H1 => hK _ _ ?_)) | (refine op_store _ _ _ rfl rfl rfl H (by repeat (first | exact Split.here _ _ | apply Split.there)) (by kernel_rfl) (by kernel_rfl) (by kernel_rfl) (fun w' H1 => hK _ _ ?_)) | (refine op_buildSlice_all _ _ _ rfl (by first | exact elem22 | exact elem39 | exact elem76 | exact elem154) (by kernel_rfl) (by kernel_rfl) (by kernel_rfl) H (fun b w' H1 => hK _ _ ?_))); clear hK K; replace H := H1; clear H1)); (try clear hc); (try simp only [nrm, splice, Value.cells, Nat.reduceAdd, Act.eval, Act.put] at H); have hc := H.cells; simp only [CellsOf, KnCells, knc, Nat.reduceAdd] at hc))) | go_values | go_skip | go_guarded | go_step | go_upon | go_back | dsimp only)
            go_ret
            exact ⟨false, rfl, H.ext, fun h => by cases h⟩
          | true =>
            by_cases h12 : ts.length ≤ 12
            · have hI12 : (ts.length : Int) ≤ 12 := by omega
              have h12' := Lib.hid h12
              clear h12
              by_cases h20 : tg.size ≤ 20
              · have hI20 : (tg.size : Int) ≤ 20 := by omega
                have h20' := Lib.hid h20
                clear h20
                have hc := H.cells; simp only [CellsOf, KnCells, knc, Nat.reduceAdd] at hc
                repeat' (first | (go_big_may; (first
    | go_skip
    | (go_at_call 30; (with_reducible refine gate_args (l := [.string cl]) ?_); refine Calls.mono (lawText_calls _ hzc.out _) ?_; rintro e w' ⟨bz, rfl, H', hbc⟩; replace H := H.of_ext H'; clear H'; (try clear hc); (try simp only [nrm, splice, Value.cells, Nat.reduceAdd, Act.eval, Act.put] at H); have hc := H.cells; simp only [CellsOf, KnCells, knc, Nat.reduceAdd] at hc; cases bz)
    | (go_at_call 30; (with_reducible refine gate_args (l := [.string st]) ?_); refine Calls.mono (lawText_calls _ hzs.out _) ?_; rintro e w' ⟨bz, rfl, H', hbs⟩; replace H := H.of_ext H'; clear H'; (try clear hc); (try simp only [nrm, splice, Value.cells, Nat.reduceAdd, Act.eval, Act.put] at H); have hc := H.cells; simp only [CellsOf, KnCells, knc, Nat.reduceAdd] at hc; cases bz)
    | ((first
        | (go_at_call 14; refine Calls.mono (hvt.out _) ?_; rintro e w' ⟨rfl, H'⟩; replace H := H.of_ext H'; clear H')
        | (refine loud_ rfl ?_; refine wpList_plain rfl (fun K hK => ?_); (first | (refine op_box _ _ rfl H (fun b w' H1 => hK _ _ ?_)) | (refine op_alloc _ rfl (zero_of _ _ rfl) H (fun b w' H1 => hK _ _ ?_)) | (refine op_store _ _ _ rfl rfl rfl H (by repeat (first | exact Split.here _ _ | apply Split.there)) (by kernel_rfl) (by kernel_rfl) (by kernel_rfl) (fun w' H1 => hK _ _ ?_)) | (refine op_buildSlice_all _ _ _ rfl (by first | exact elem22 | exact elem39 | exact elem76 | exact elem154) (by kernel_rfl) (by kernel_rfl) (by kernel_rfl) H (fun b w' H1 => hK _ _ ?_))); clear hK K; replace H := H1; clear H1)); (try clear hc); (try simp only [nrm, splice, Value.cells, Nat.reduceAdd, Act.eval, Act.put] at H); have hc := H.cells; simp only [CellsOf, KnCells, knc, Nat.reduceAdd] at hc))) | go_values | go_skip | go_guarded | go_step | go_upon | go_back | dsimp only)
                · go_ret
                  exact ⟨false, rfl, H.ext, fun h => by cases h⟩
                · go_ret
                  exact ⟨false, rfl, H.ext, fun h => by cases h⟩
                · go_ret
                  exact ⟨true, rfl, H.ext, fun _ => ⟨hall.out, h12'.out, hbc.out rfl, hbs.out rfl, h20'.out, fun _ => ⟨rfl, _, hot.out⟩⟩⟩
              · have hI20 : ¬ (tg.size : Int) ≤ 20 := by omega
                clear h20
                have hc := H.cells; simp only [CellsOf, KnCells, knc, Nat.reduceAdd] at hc
                repeat' (first | (go_big_may; (first
    | go_skip
    | (go_at_call 30; (with_reducible refine gate_args (l := [.string cl]) ?_); refine Calls.mono (lawText_calls _ hzc.out _) ?_; rintro e w' ⟨bz, rfl, H', hbc⟩; replace H := H.of_ext H'; clear H'; (try clear hc); (try simp only [nrm, splice, Value.cells, Nat.reduceAdd, Act.eval, Act.put] at H); have hc := H.cells; simp only [CellsOf, KnCells, knc, Nat.reduceAdd] at hc; cases bz)
    | (go_at_call 30; (with_reducible refine gate_args (l := [.string st]) ?_); refine Calls.mono (lawText_calls _ hzs.out _) ?_; rintro e w' ⟨bz, rfl, H', hbs⟩; replace H := H.of_ext H'; clear H'; (try clear hc); (try simp only [nrm, splice, Value.cells, Nat.reduceAdd, Act.eval, Act.put] at H); have hc := H.cells; simp only [CellsOf, KnCells, knc, Nat.reduceAdd] at hc; cases bz)
    | ((first
        | (go_at_call 14; refine Calls.mono (hvt.out _) ?_; rintro e w' ⟨rfl, H'⟩; replace H := H.of_ext H'; clear H')
        | (refine loud_ rfl ?_; refine wpList_plain rfl (fun K hK => ?_); (first | (refine op_box _ _ rfl H (fun b w' H1 => hK _ _ ?_)) | (refine op_alloc _ rfl (zero_of _ _ rfl) H (fun b w' H1 => hK _ _ ?_)) | (refine op_store _ _ _ rfl rfl rfl H (by repeat (first | exact Split.here _ _ | apply Split.there)) (by kernel_rfl) (by kernel_rfl) (by kernel_rfl) (fun w' H1 => hK _ _ ?_)) | (refine op_buildSlice_all _ _ _ rfl (by first | exact elem22 | exact elem39 | exact elem76 | exact elem154) (by kernel_rfl) (by kernel_rfl) (by kernel_rfl) H (fun b w' H1 => hK _ _ ?_))); clear hK K; replace H := H1; clear H1)); (try clear hc); (try simp only [nrm, splice, Value.cells, Nat.reduceAdd, Act.eval, Act.put] at H); have hc := H.cells; simp only [CellsOf, KnCells, knc, Nat.reduceAdd] at hc))) | go_values | go_skip | go_guarded | go_step | go_upon | go_back | dsimp only)
                · go_ret
                  exact ⟨false, rfl, H.ext, fun h => by cases h⟩
                · go_ret
                  exact ⟨false, rfl, H.ext, fun h => by cases h⟩
                · go_ret
                  exact ⟨false, rfl, H.ext, fun h => by cases h⟩
            · have hI12 : ¬ (ts.length : Int) ≤ 12 := by omega
              clear h12
              have hc := H.cells; simp only [CellsOf, KnCells, knc, Nat.reduceAdd] at hc
              repeat' (first | (go_big_may; (first
    | go_skip
    | (go_at_call 30; (with_reducible refine gate_args (l := [.string cl]) ?_); refine Calls.mono (lawText_calls _ hzc.out _) ?_; rintro e w' ⟨bz, rfl, H', hbc⟩; replace H := H.of_ext H'; clear H'; (try clear hc); (try simp only [nrm, splice, Value.cells, Nat.reduceAdd, Act.eval, Act.put] at H); have hc := H.cells; simp only [CellsOf, KnCells, knc, Nat.reduceAdd] at hc; cases bz)
    | (go_at_call 30; (with_reducible refine gate_args (l := [.string st]) ?_); refine Calls.mono (lawText_calls _ hzs.out _) ?_; rintro e w' ⟨bz, rfl, H', hbs⟩; replace H := H.of_ext H'; clear H'; (try clear hc); (try simp only [nrm, splice, Value.cells, Nat.reduceAdd, Act.eval, Act.put] at H); have hc := H.cells; simp only [CellsOf, KnCells, knc, Nat.reduceAdd] at hc; cases bz)
    | ((first
        | (go_at_call 14; refine Calls.mono (hvt.out _) ?_; rintro e w' ⟨rfl, H'⟩; replace H := H.of_ext H'; clear H')
        | (refine loud_ rfl ?_; refine wpList_plain rfl (fun K hK => ?_); (first | (refine op_box _ _ rfl H (fun b w' H1 => hK _ _ ?_)) | (refine op_alloc _ rfl (zero_of _ _ rfl) H (fun b w' H1 => hK _ _ ?_)) | (refine op_store _ _ _ rfl rfl rfl H (by repeat (first | exact Split.here _ _ | apply Split.there)) (by kernel_rfl) (by kernel_rfl) (by kernel_rfl) (fun w' H1 => hK _ _ ?_)) | (refine op_buildSlice_all _ _ _ rfl (by first | exact elem22 | exact elem39 | exact elem76 | exact elem154) (by kernel_rfl) (by kernel_rfl) (by kernel_rfl) H (fun b w' H1 => hK _ _ ?_))); clear hK K; replace H := H1; clear H1)); (try clear hc); (try simp only [nrm, splice, Value.cells, Nat.reduceAdd, Act.eval, Act.put] at H); have hc := H.cells; simp only [CellsOf, KnCells, knc, Nat.reduceAdd] at hc))) | go_values | go_skip | go_guarded | go_step | go_upon | go_back | dsimp only)
              go_ret
              exact ⟨false, rfl, H.ext, fun h => by cases h⟩
end Go.Proofs.YtdcijhdjddiboaaDoor
