import Derived.Test.YtfnapcgbjdkpaaaSnpK
import Derived.Test.YtfnapcgbjdkpaaaVMapS
import Derived.Test.YtfnapcgbjdkpaaaVSort
import Derived.Test.YtfnapcgbjdkpaaaShelf
-- MORE
-- SUB2
namespace Go.Proofs.Ytfnapcgbjdkpaaa
set_option linter.unusedVariables false
set_option linter.unusedSimpArgs false
set_option linter.unnecessarySimpa false
open Go Go.RowKit Go.V Go.Lib

abbrev foldObj (m : Nat) : Obj := .cells #[.map (some m)] 57 (0, 0)
theorem foldNew_calls (w : World) : Calls Try.prog 10 #[] w fun e w' => ∃ fo m, e = .returned (.pointer (some ⟨fo, 0, none⟩)) ∧ St [] w w' [(true, .is fo (foldObj m)), (true, .is m (.map #[] 0))] := by
  have H := St.init [] w
  go_enter Try.func10, Try.ntmps10
  go_wp2_with (first
    | ((first
        | (refine loud_ rfl ?_; refine wpList_plain rfl (fun K hK => ?_); (first | (refine op_makeMap _ rfl H (fun m w' H1 => hK _ _ ?_)) | (refine op_box _ _ rfl H (fun b w' H1 => hK _ _ ?_)) | (refine op_alloc _ rfl (zero_of _ _ rfl) H (fun b w' H1 => hK _ _ ?_)) | (refine op_store _ _ _ rfl rfl rfl H (by repeat (first | exact Split.here _ _ | apply Split.there)) (by kernel_rfl) (by kernel_rfl) (by kernel_rfl) (fun w' H1 => hK _ _ ?_)) | (refine op_buildSlice_all _ _ _ rfl (by first | exact elem23 | exact elem34 | exact elem51 | exact elem148) (by kernel_rfl) (by kernel_rfl) (by kernel_rfl) H (fun b w' H1 => hK _ _ ?_))); clear hK K; replace H := H1; clear H1)); (try clear hc); (try simp only [nrm, splice, Value.cells, Nat.reduceAdd, Act.eval, Act.put] at H); have hc := H.cells; simp only [CellsOf, KnCells, knc, Nat.reduceAdd] at hc))
  go_ret
  exact ⟨_, m, rfl, H.sel (by repeat (first | exact Sel.nil _ | (apply Sel.cons; focus (repeat (first | exact Split.here _ _ | apply Split.there)))))⟩
/-- A folder with one file. -/
abbrev oneFile (name : ByteArray) (v : Value) : Obj := .map #[⟨.string name, v, 0⟩] 1
set_option maxRecDepth 8000 in
theorem foldWrite1 (S : List Nat) (fo m : Nat) (name : ByteArray) (hz : name.size ≤ maxLen) (s : Option Addr) (n c : Nat) (w : World) (H : St S w w [(true, .is m (.map #[] 0)), (false, .is fo (foldObj m))]) :
    Calls Try.prog 11 #[.pointer (some ⟨fo, 0, none⟩), .string name, .slice s n c] w fun e w' => e = .returned .nilIface ∧ St S w w' [(true, .is m (oneFile name (.slice s n c)))] := by
  have hc := H.cells; simp only [CellsOf, KnCells, knc, Nat.reduceAdd] at hc
  go_enter Try.func11, Try.ntmps11
  go_wp2_with (first
    | ((first
        | (refine loud_ rfl ?_; refine wpList_plain rfl (fun K hK => ?_); (first | (refine op_mapPut _ _ _ _ _ _ rfl Try.underlying55 Try.underlying9 rfl rfl rfl H (by repeat (first | exact Split.here _ _ | apply Split.there)) (by simp) hz (fun w' H1 => hK _ _ ?_)) | (refine op_box _ _ rfl H (fun b w' H1 => hK _ _ ?_)) | (refine op_alloc _ rfl (zero_of _ _ rfl) H (fun b w' H1 => hK _ _ ?_)) | (refine op_store _ _ _ rfl rfl rfl H (by repeat (first | exact Split.here _ _ | apply Split.there)) (by kernel_rfl) (by kernel_rfl) (by kernel_rfl) (fun w' H1 => hK _ _ ?_)) | (refine op_buildSlice_all _ _ _ rfl (by first | exact elem23 | exact elem34 | exact elem51 | exact elem148) (by kernel_rfl) (by kernel_rfl) (by kernel_rfl) H (fun b w' H1 => hK _ _ ?_))); clear hK K; replace H := H1; clear H1)); (try clear hc); (try simp only [nrm, splice, Value.cells, Nat.reduceAdd, Act.eval, Act.put] at H); have hc := H.cells; simp only [CellsOf, KnCells, knc, Nat.reduceAdd] at hc))
  (try simp only [Act.put])
  go_wp2_with (first
    | ((first
        | (refine loud_ rfl ?_; refine wpList_plain rfl (fun K hK => ?_); (first | (refine op_box _ _ rfl H (fun b w' H1 => hK _ _ ?_)) | (refine op_alloc _ rfl (zero_of _ _ rfl) H (fun b w' H1 => hK _ _ ?_)) | (refine op_store _ _ _ rfl rfl rfl H (by repeat (first | exact Split.here _ _ | apply Split.there)) (by kernel_rfl) (by kernel_rfl) (by kernel_rfl) (fun w' H1 => hK _ _ ?_)) | (refine op_buildSlice_all _ _ _ rfl (by first | exact elem23 | exact elem34 | exact elem51 | exact elem148) (by kernel_rfl) (by kernel_rfl) (by kernel_rfl) H (fun b w' H1 => hK _ _ ?_))); clear hK K; replace H := H1; clear H1)); (try clear hc); (try simp only [nrm, splice, Value.cells, Nat.reduceAdd, Act.eval, Act.put] at H); have hc := H.cells; simp only [CellsOf, KnCells, knc, Nat.reduceAdd] at hc))
  go_ret
  exact ⟨rfl, H.top1⟩
set_option maxRecDepth 8000 in
theorem foldRead1 (fo m : Nat) (name : ByteArray) (hz : name.size ≤ maxLen) (s : Option Addr) (n c : Nat) (w : World) (H : St [] w w [(false, .is fo (foldObj m)), (false, .is m (oneFile name (.slice s n c)))]) :
    Calls Try.prog 19 #[.pointer (some ⟨fo, 0, none⟩), .string name] w fun e w' => e = .returned (.tuple #[.slice s n c, .nilIface]) ∧ Ext [] w w' := by
  have hc := H.cells; simp only [CellsOf, KnCells, knc, Nat.reduceAdd] at hc
  go_enter Try.func19, Try.ntmps19
  go_wp2_with (first
    | go_skip
    | (refine wpList_plain rfl (fun K hK => ?_); refine op_lookStr _ _ _ _ _ rfl Try.underlying55 Try.underlying9 (v := .slice s n c) rfl rfl (H.obj (by repeat (first | exact Split.here _ _ | apply Split.there))) hz (by simpa using hz) (by simp) (by simp) (hK _ _ ?_); clear hK K)
    | ((first
        | (refine loud_ rfl ?_; refine wpList_plain rfl (fun K hK => ?_); (first | (refine op_box _ _ rfl H (fun b w' H1 => hK _ _ ?_)) | (refine op_alloc _ rfl (zero_of _ _ rfl) H (fun b w' H1 => hK _ _ ?_)) | (refine op_store _ _ _ rfl rfl rfl H (by repeat (first | exact Split.here _ _ | apply Split.there)) (by kernel_rfl) (by kernel_rfl) (by kernel_rfl) (fun w' H1 => hK _ _ ?_)) | (refine op_buildSlice_all _ _ _ rfl (by first | exact elem23 | exact elem34 | exact elem51 | exact elem148) (by kernel_rfl) (by kernel_rfl) (by kernel_rfl) H (fun b w' H1 => hK _ _ ?_))); clear hK K; replace H := H1; clear H1)); (try clear hc); (try simp only [nrm, splice, Value.cells, Nat.reduceAdd, Act.eval, Act.put] at H); have hc := H.cells; simp only [CellsOf, KnCells, knc, Nat.reduceAdd] at hc))
  go_ret2
  exact ⟨rfl, Ext.refl _ _⟩
theorem getIndex_calls (bm bc i t : Nat) (w : World) (h : w.heap[bm]? = some (metaObj bc i t)) : Calls Try.prog 24 #[.pointer (some ⟨bm, 0, none⟩)] w fun e w' => e = .returned (.int .u64 i) ∧ Ext [] w w' := by
  have H : St [] w w [(false, .is bm (metaObj bc i t))] := (St.init [] w).read _ h (by simp)
  have hc := H.cells; simp only [CellsOf, KnCells, knc, Nat.reduceAdd] at hc
  go_enter Try.func24, Try.ntmps24
  go_wp2_with (first
    | ((first
        | (refine loud_ rfl ?_; refine wpList_plain rfl (fun K hK => ?_); (first | (refine op_box _ _ rfl H (fun b w' H1 => hK _ _ ?_)) | (refine op_alloc _ rfl (zero_of _ _ rfl) H (fun b w' H1 => hK _ _ ?_)) | (refine op_store _ _ _ rfl rfl rfl H (by repeat (first | exact Split.here _ _ | apply Split.there)) (by kernel_rfl) (by kernel_rfl) (by kernel_rfl) (fun w' H1 => hK _ _ ?_)) | (refine op_buildSlice_all _ _ _ rfl (by first | exact elem23 | exact elem34 | exact elem51 | exact elem148) (by kernel_rfl) (by kernel_rfl) (by kernel_rfl) H (fun b w' H1 => hK _ _ ?_))); clear hK K; replace H := H1; clear H1)); (try clear hc); (try simp only [nrm, splice, Value.cells, Nat.reduceAdd, Act.eval, Act.put] at H); have hc := H.cells; simp only [CellsOf, KnCells, knc, Nat.reduceAdd] at hc))
  go_ret
  exact ⟨rfl, Ext.refl _ _⟩
theorem getTerm_calls (bm bc i t : Nat) (w : World) (h : w.heap[bm]? = some (metaObj bc i t)) : Calls Try.prog 31 #[.pointer (some ⟨bm, 0, none⟩)] w fun e w' => e = .returned (.int .u64 t) ∧ Ext [] w w' := by
  have H : St [] w w [(false, .is bm (metaObj bc i t))] := (St.init [] w).read _ h (by simp)
  have hc := H.cells; simp only [CellsOf, KnCells, knc, Nat.reduceAdd] at hc
  go_enter Try.func31, Try.ntmps31
  go_wp2_with (first
    | ((first
        | (refine loud_ rfl ?_; refine wpList_plain rfl (fun K hK => ?_); (first | (refine op_box _ _ rfl H (fun b w' H1 => hK _ _ ?_)) | (refine op_alloc _ rfl (zero_of _ _ rfl) H (fun b w' H1 => hK _ _ ?_)) | (refine op_store _ _ _ rfl rfl rfl H (by repeat (first | exact Split.here _ _ | apply Split.there)) (by kernel_rfl) (by kernel_rfl) (by kernel_rfl) (fun w' H1 => hK _ _ ?_)) | (refine op_buildSlice_all _ _ _ rfl (by first | exact elem23 | exact elem34 | exact elem51 | exact elem148) (by kernel_rfl) (by kernel_rfl) (by kernel_rfl) H (fun b w' H1 => hK _ _ ?_))); clear hK K; replace H := H1; clear H1)); (try clear hc); (try simp only [nrm, splice, Value.cells, Nat.reduceAdd, Act.eval, Act.put] at H); have hc := H.cells; simp only [CellsOf, KnCells, knc, Nat.reduceAdd] at hc))
  go_ret
  exact ⟨rfl, Ext.refl _ _⟩
end Go.Proofs.Ytfnapcgbjdkpaaa
