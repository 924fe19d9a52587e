import Derived.Test.YtdcijhdjddiboaaDoorVerU
-- MORE
namespace Go.Proofs.YtdcijhdjddiboaaDoor
set_option linter.unusedVariables false
set_option linter.unusedSimpArgs false
set_option linter.unnecessarySimpa false
open Go.RowKit Go.V

def errTarget : ByteArray := ⟨#[101, 116, 99, 100, 115, 101, 114, 118, 101, 114, 58, 32, 105, 110, 118, 97, 108, 105, 100, 32, 100, 111, 119, 110, 103, 114, 97, 100, 101, 32, 116, 97, 114, 103, 101, 116, 32, 118, 101, 114, 115, 105, 111, 110]⟩
def errJob : ByteArray := ⟨#[101, 116, 99, 100, 115, 101, 114, 118, 101, 114, 58, 32, 99, 108, 117, 115, 116, 101, 114, 32, 104, 97, 115, 32, 97, 32, 100, 111, 119, 110, 103, 114, 97, 100, 101, 32, 106, 111, 98, 32, 105, 110, 32, 112, 114, 111, 103, 114, 101, 115, 115]⟩
def errNoJob : ByteArray := ⟨#[101, 116, 99, 100, 115, 101, 114, 118, 101, 114, 58, 32, 110, 111, 32, 105, 110, 102, 108, 105, 103, 104, 116, 32, 100, 111, 119, 110, 103, 114, 97, 100, 101, 32, 106, 111, 98]⟩
set_option maxRecDepth 10000 in
theorem voteKind_nil (w : World) : Calls Tryd.prog 34 #[.nilIface] w fun e w' => e = .returned (.int .i64 0) ∧ Ext [] w w' := by
  have H := St.init [] w
  go_enter Tryd.func34, Tryd.ntmps34
  repeat' (first | (go_big_may; (first
    | ((first
        | (refine loud_ rfl ?_; refine wpList_plain rfl (fun K hK => ?_); (first | (refine op_box _ _ rfl H (fun b w' H1 => hK _ _ ?_)) | (refine op_alloc _ rfl (zero_of _ _ rfl) H (fun b w' H1 => hK _ _ ?_)) | (refine op_store _ _ _ rfl rfl rfl H (by repeat (first | exact Split.here _ _ | apply Split.there)) (by kernel_rfl) (by kernel_rfl) (by kernel_rfl) (fun w' H1 => hK _ _ ?_)) | (refine op_buildSlice_all _ _ _ rfl (by first | exact elem22 | exact elem39 | exact elem76 | exact elem154) (by kernel_rfl) (by kernel_rfl) (by kernel_rfl) H (fun b w' H1 => hK _ _ ?_))); clear hK K; replace H := H1; clear H1)); (try clear hc); (try simp only [nrm, splice, Value.cells, Nat.reduceAdd, Act.eval, Act.put] at H); have hc := H.cells; simp only [CellsOf, KnCells, knc, Nat.reduceAdd] at hc))) | go_values | go_skip | go_guarded | go_step | go_upon | go_back | dsimp only)
  go_ret
  exact ⟨rfl, H.ext⟩
set_option maxRecDepth 10000 in
theorem voteKind_target (w : World) : Calls Tryd.prog 34 #[.iface 75 (.string ⟨#[101, 116, 99, 100, 115, 101, 114, 118, 101, 114, 58, 32, 105, 110, 118, 97, 108, 105, 100, 32, 100, 111, 119, 110, 103, 114, 97, 100, 101, 32, 116, 97, 114, 103, 101, 116, 32, 118, 101, 114, 115, 105, 111, 110]⟩)] w fun e w' => e = .returned (.int .i64 1) ∧ Ext [] w w' := by
  have H := St.init [] w
  have hq0 : ∀ (w : World), (binOp BinOp.eql 49 (.iface 75 (.string ⟨#[101, 116, 99, 100, 115, 101, 114, 118, 101, 114, 58, 32, 105, 110, 118, 97, 108, 105, 100, 32, 100, 111, 119, 110, 103, 114, 97, 100, 101, 32, 116, 97, 114, 103, 101, 116, 32, 118, 101, 114, 115, 105, 111, 110]⟩)) (.iface 75 (.string ⟨#[101, 116, 99, 100, 115, 101, 114, 118, 101, 114, 58, 32, 105, 110, 118, 97, 108, 105, 100, 32, 100, 111, 119, 110, 103, 114, 97, 100, 101, 32, 116, 97, 114, 103, 101, 116, 32, 118, 101, 114, 115, 105, 111, 110]⟩))).run Tryd.prog w = .ok (.bool true) w := fun w => by kernel_rfl
  go_enter Tryd.func34, Tryd.ntmps34
  repeat' (first | (go_big_may; (first
    | ((first
        | (refine loud_ rfl ?_; refine wpList_plain rfl (fun K hK => ?_); (first | (refine op_box _ _ rfl H (fun b w' H1 => hK _ _ ?_)) | (refine op_alloc _ rfl (zero_of _ _ rfl) H (fun b w' H1 => hK _ _ ?_)) | (refine op_store _ _ _ rfl rfl rfl H (by repeat (first | exact Split.here _ _ | apply Split.there)) (by kernel_rfl) (by kernel_rfl) (by kernel_rfl) (fun w' H1 => hK _ _ ?_)) | (refine op_buildSlice_all _ _ _ rfl (by first | exact elem22 | exact elem39 | exact elem76 | exact elem154) (by kernel_rfl) (by kernel_rfl) (by kernel_rfl) H (fun b w' H1 => hK _ _ ?_))); clear hK K; replace H := H1; clear H1)); (try clear hc); (try simp only [nrm, splice, Value.cells, Nat.reduceAdd, Act.eval, Act.put] at H); have hc := H.cells; simp only [CellsOf, KnCells, knc, Nat.reduceAdd] at hc))) | go_values | go_skip | go_guarded | go_step | go_upon | go_back | dsimp only)
  go_ret
  exact ⟨rfl, H.ext⟩
set_option maxRecDepth 10000 in
theorem voteKind_job (w : World) : Calls Tryd.prog 34 #[.iface 75 (.string ⟨#[101, 116, 99, 100, 115, 101, 114, 118, 101, 114, 58, 32, 99, 108, 117, 115, 116, 101, 114, 32, 104, 97, 115, 32, 97, 32, 100, 111, 119, 110, 103, 114, 97, 100, 101, 32, 106, 111, 98, 32, 105, 110, 32, 112, 114, 111, 103, 114, 101, 115, 115]⟩)] w fun e w' => e = .returned (.int .i64 2) ∧ Ext [] w w' := by
  have H := St.init [] w
  have hq0 : ∀ (w : World), (binOp BinOp.eql 49 (.iface 75 (.string ⟨#[101, 116, 99, 100, 115, 101, 114, 118, 101, 114, 58, 32, 99, 108, 117, 115, 116, 101, 114, 32, 104, 97, 115, 32, 97, 32, 100, 111, 119, 110, 103, 114, 97, 100, 101, 32, 106, 111, 98, 32, 105, 110, 32, 112, 114, 111, 103, 114, 101, 115, 115]⟩)) (.iface 75 (.string ⟨#[101, 116, 99, 100, 115, 101, 114, 118, 101, 114, 58, 32, 105, 110, 118, 97, 108, 105, 100, 32, 100, 111, 119, 110, 103, 114, 97, 100, 101, 32, 116, 97, 114, 103, 101, 116, 32, 118, 101, 114, 115, 105, 111, 110]⟩))).run Tryd.prog w = .ok (.bool false) w := fun w => by kernel_rfl
  have hq1 : ∀ (w : World), (binOp BinOp.eql 49 (.iface 75 (.string ⟨#[101, 116, 99, 100, 115, 101, 114, 118, 101, 114, 58, 32, 99, 108, 117, 115, 116, 101, 114, 32, 104, 97, 115, 32, 97, 32, 100, 111, 119, 110, 103, 114, 97, 100, 101, 32, 106, 111, 98, 32, 105, 110, 32, 112, 114, 111, 103, 114, 101, 115, 115]⟩)) (.iface 75 (.string ⟨#[101, 116, 99, 100, 115, 101, 114, 118, 101, 114, 58, 32, 99, 108, 117, 115, 116, 101, 114, 32, 104, 97, 115, 32, 97, 32, 100, 111, 119, 110, 103, 114, 97, 100, 101, 32, 106, 111, 98, 32, 105, 110, 32, 112, 114, 111, 103, 114, 101, 115, 115]⟩))).run Tryd.prog w = .ok (.bool true) w := fun w => by kernel_rfl
  go_enter Tryd.func34, Tryd.ntmps34
  repeat' (first | (go_big_may; (first
    | ((first
        | (refine loud_ rfl ?_; refine wpList_plain rfl (fun K hK => ?_); (first | (refine op_box _ _ rfl H (fun b w' H1 => hK _ _ ?_)) | (refine op_alloc _ rfl (zero_of _ _ rfl) H (fun b w' H1 => hK _ _ ?_)) | (refine op_store _ _ _ rfl rfl rfl H (by repeat (first | exact Split.here _ _ | apply Split.there)) (by kernel_rfl) (by kernel_rfl) (by kernel_rfl) (fun w' H1 => hK _ _ ?_)) | (refine op_buildSlice_all _ _ _ rfl (by first | exact elem22 | exact elem39 | exact elem76 | exact elem154) (by kernel_rfl) (by kernel_rfl) (by kernel_rfl) H (fun b w' H1 => hK _ _ ?_))); clear hK K; replace H := H1; clear H1)); (try clear hc); (try simp only [nrm, splice, Value.cells, Nat.reduceAdd, Act.eval, Act.put] at H); have hc := H.cells; simp only [CellsOf, KnCells, knc, Nat.reduceAdd] at hc))) | go_values | go_skip | go_guarded | go_step | go_upon | go_back | dsimp only)
  go_ret
  exact ⟨rfl, H.ext⟩
set_option maxRecDepth 10000 in
theorem voteKind_noJob (w : World) : Calls Tryd.prog 34 #[.iface 75 (.string ⟨#[101, 116, 99, 100, 115, 101, 114, 118, 101, 114, 58, 32, 110, 111, 32, 105, 110, 102, 108, 105, 103, 104, 116, 32, 100, 111, 119, 110, 103, 114, 97, 100, 101, 32, 106, 111, 98]⟩)] w fun e w' => e = .returned (.int .i64 3) ∧ Ext [] w w' := by
  have H := St.init [] w
  have hq0 : ∀ (w : World), (binOp BinOp.eql 49 (.iface 75 (.string ⟨#[101, 116, 99, 100, 115, 101, 114, 118, 101, 114, 58, 32, 110, 111, 32, 105, 110, 102, 108, 105, 103, 104, 116, 32, 100, 111, 119, 110, 103, 114, 97, 100, 101, 32, 106, 111, 98]⟩)) (.iface 75 (.string ⟨#[101, 116, 99, 100, 115, 101, 114, 118, 101, 114, 58, 32, 105, 110, 118, 97, 108, 105, 100, 32, 100, 111, 119, 110, 103, 114, 97, 100, 101, 32, 116, 97, 114, 103, 101, 116, 32, 118, 101, 114, 115, 105, 111, 110]⟩))).run Tryd.prog w = .ok (.bool false) w := fun w => by kernel_rfl
  have hq1 : ∀ (w : World), (binOp BinOp.eql 49 (.iface 75 (.string ⟨#[101, 116, 99, 100, 115, 101, 114, 118, 101, 114, 58, 32, 110, 111, 32, 105, 110, 102, 108, 105, 103, 104, 116, 32, 100, 111, 119, 110, 103, 114, 97, 100, 101, 32, 106, 111, 98]⟩)) (.iface 75 (.string ⟨#[101, 116, 99, 100, 115, 101, 114, 118, 101, 114, 58, 32, 99, 108, 117, 115, 116, 101, 114, 32, 104, 97, 115, 32, 97, 32, 100, 111, 119, 110, 103, 114, 97, 100, 101, 32, 106, 111, 98, 32, 105, 110, 32, 112, 114, 111, 103, 114, 101, 115, 115]⟩))).run Tryd.prog w = .ok (.bool false) w := fun w => by kernel_rfl
  have hq2 : ∀ (w : World), (binOp BinOp.eql 49 (.iface 75 (.string ⟨#[101, 116, 99, 100, 115, 101, 114, 118, 101, 114, 58, 32, 110, 111, 32, 105, 110, 102, 108, 105, 103, 104, 116, 32, 100, 111, 119, 110, 103, 114, 97, 100, 101, 32, 106, 111, 98]⟩)) (.iface 75 (.string ⟨#[101, 116, 99, 100, 115, 101, 114, 118, 101, 114, 58, 32, 110, 111, 32, 105, 110, 102, 108, 105, 103, 104, 116, 32, 100, 111, 119, 110, 103, 114, 97, 100, 101, 32, 106, 111, 98]⟩))).run Tryd.prog w = .ok (.bool true) w := fun w => by kernel_rfl
  go_enter Tryd.func34, Tryd.ntmps34
  repeat' (first | (go_big_may; (first
    | ((first
        | (refine loud_ rfl ?_; refine wpList_plain rfl (fun K hK => ?_); (first | (refine op_box _ _ rfl H (fun b w' H1 => hK _ _ ?_)) | (refine op_alloc _ rfl (zero_of _ _ rfl) H (fun b w' H1 => hK _ _ ?_)) | (refine op_store _ _ _ rfl rfl rfl H (by repeat (first | exact Split.here _ _ | apply Split.there)) (by kernel_rfl) (by kernel_rfl) (by kernel_rfl) (fun w' H1 => hK _ _ ?_)) | (refine op_buildSlice_all _ _ _ rfl (by first | exact elem22 | exact elem39 | exact elem76 | exact elem154) (by kernel_rfl) (by kernel_rfl) (by kernel_rfl) H (fun b w' H1 => hK _ _ ?_))); clear hK K; replace H := H1; clear H1)); (try clear hc); (try simp only [nrm, splice, Value.cells, Nat.reduceAdd, Act.eval, Act.put] at H); have hc := H.cells; simp only [CellsOf, KnCells, knc, Nat.reduceAdd] at hc))) | go_values | go_skip | go_guarded | go_step | go_upon | go_back | dsimp only)
  go_ret
  exact ⟨rfl, H.ext⟩
set_option maxRecDepth 10000 in
theorem voteKind_bad (w : World) : Calls Tryd.prog 34 #[.iface 75 (.string ⟨#[105, 110, 118, 97, 108, 105, 100, 32, 100, 111, 119, 110, 103, 114, 97, 100, 101, 32, 116, 97, 114, 103, 101, 116]⟩)] w fun e w' => e = .returned (.int .i64 98) ∧ Ext [] w w' := by
  have H := St.init [] w
  have hq0 : ∀ (w : World), (binOp BinOp.eql 49 (.iface 75 (.string ⟨#[105, 110, 118, 97, 108, 105, 100, 32, 100, 111, 119, 110, 103, 114, 97, 100, 101, 32, 116, 97, 114, 103, 101, 116]⟩)) (.iface 75 (.string ⟨#[101, 116, 99, 100, 115, 101, 114, 118, 101, 114, 58, 32, 105, 110, 118, 97, 108, 105, 100, 32, 100, 111, 119, 110, 103, 114, 97, 100, 101, 32, 116, 97, 114, 103, 101, 116, 32, 118, 101, 114, 115, 105, 111, 110]⟩))).run Tryd.prog w = .ok (.bool false) w := fun w => by kernel_rfl
  have hq1 : ∀ (w : World), (binOp BinOp.eql 49 (.iface 75 (.string ⟨#[105, 110, 118, 97, 108, 105, 100, 32, 100, 111, 119, 110, 103, 114, 97, 100, 101, 32, 116, 97, 114, 103, 101, 116]⟩)) (.iface 75 (.string ⟨#[101, 116, 99, 100, 115, 101, 114, 118, 101, 114, 58, 32, 99, 108, 117, 115, 116, 101, 114, 32, 104, 97, 115, 32, 97, 32, 100, 111, 119, 110, 103, 114, 97, 100, 101, 32, 106, 111, 98, 32, 105, 110, 32, 112, 114, 111, 103, 114, 101, 115, 115]⟩))).run Tryd.prog w = .ok (.bool false) w := fun w => by kernel_rfl
  have hq2 : ∀ (w : World), (binOp BinOp.eql 49 (.iface 75 (.string ⟨#[105, 110, 118, 97, 108, 105, 100, 32, 100, 111, 119, 110, 103, 114, 97, 100, 101, 32, 116, 97, 114, 103, 101, 116]⟩)) (.iface 75 (.string ⟨#[101, 116, 99, 100, 115, 101, 114, 118, 101, 114, 58, 32, 110, 111, 32, 105, 110, 102, 108, 105, 103, 104, 116, 32, 100, 111, 119, 110, 103, 114, 97, 100, 101, 32, 106, 111, 98]⟩))).run Tryd.prog w = .ok (.bool false) w := fun w => by kernel_rfl
  go_enter Tryd.func34, Tryd.ntmps34
  repeat' (first | (go_big_may; (first
    | ((first
        | (refine loud_ rfl ?_; refine wpList_plain rfl (fun K hK => ?_); (first | (refine op_box _ _ rfl H (fun b w' H1 => hK _ _ ?_)) | (refine op_alloc _ rfl (zero_of _ _ rfl) H (fun b w' H1 => hK _ _ ?_)) | (refine op_store _ _ _ rfl rfl rfl H (by repeat (first | exact Split.here _ _ | apply Split.there)) (by kernel_rfl) (by kernel_rfl) (by kernel_rfl) (fun w' H1 => hK _ _ ?_)) | (refine op_buildSlice_all _ _ _ rfl (by first | exact elem22 | exact elem39 | exact elem76 | exact elem154) (by kernel_rfl) (by kernel_rfl) (by kernel_rfl) H (fun b w' H1 => hK _ _ ?_))); clear hK K; replace H := H1; clear H1)); (try clear hc); (try simp only [nrm, splice, Value.cells, Nat.reduceAdd, Act.eval, Act.put] at H); have hc := H.cells; simp only [CellsOf, KnCells, knc, Nat.reduceAdd] at hc))) | go_values | go_skip | go_guarded | go_step | go_upon | go_back | dsimp only)
  go_ret
  exact ⟨rfl, H.ext⟩
theorem newMon (g : Nat) (w : World) : Calls Tryd.prog 32 #[.pointer none, .iface 45 (.pointer (some ⟨g, 0, none⟩))] w fun e w' => ∃ p, e = .returned (.pointer (some ⟨p, 0, none⟩)) ∧ St [] w w' [(true, .is p (mon g))] := by
  have H := St.init [] w
  go_enter Tryd.func32, Tryd.ntmps32
  go_wp2_with (first
    | ((first
        | (refine loud_ rfl ?_; refine wpList_plain rfl (fun K hK => ?_); (first | (refine op_box _ _ rfl H (fun b w' H1 => hK _ _ ?_)) | (refine op_alloc _ rfl (zero_of _ _ rfl) H (fun b w' H1 => hK _ _ ?_)) | (refine op_store _ _ _ rfl rfl rfl H (by repeat (first | exact Split.here _ _ | apply Split.there)) (by kernel_rfl) (by kernel_rfl) (by kernel_rfl) (fun w' H1 => hK _ _ ?_)) | (refine op_buildSlice_all _ _ _ rfl (by first | exact elem22 | exact elem39 | exact elem76 | exact elem154) (by kernel_rfl) (by kernel_rfl) (by kernel_rfl) H (fun b w' H1 => hK _ _ ?_))); clear hK K; replace H := H1; clear H1)); (try clear hc); (try simp only [nrm, splice, Value.cells, Nat.reduceAdd, Act.eval, Act.put] at H); have hc := H.cells; simp only [CellsOf, KnCells, knc, Nat.reduceAdd] at hc))
  go_ret
  exact ⟨_, rfl, H⟩
abbrev man (g : Nat) : Obj := .cells #[.pointer none, .iface 45 (.pointer (some ⟨g, 0, none⟩))] 77 (0, 0)
theorem newMan (g : Nat) (w : World) : Calls Tryd.prog 38 #[.pointer none, .iface 45 (.pointer (some ⟨g, 0, none⟩))] w fun e w' => ∃ p, e = .returned (.pointer (some ⟨p, 0, none⟩)) ∧ St [] w w' [(true, .is p (man g))] := by
  have H := St.init [] w
  go_enter Tryd.func38, Tryd.ntmps38
  go_wp2_with (first
    | ((first
        | (refine loud_ rfl ?_; refine wpList_plain rfl (fun K hK => ?_); (first | (refine op_box _ _ rfl H (fun b w' H1 => hK _ _ ?_)) | (refine op_alloc _ rfl (zero_of _ _ rfl) H (fun b w' H1 => hK _ _ ?_)) | (refine op_store _ _ _ rfl rfl rfl H (by repeat (first | exact Split.here _ _ | apply Split.there)) (by kernel_rfl) (by kernel_rfl) (by kernel_rfl) (fun w' H1 => hK _ _ ?_)) | (refine op_buildSlice_all _ _ _ rfl (by first | exact elem22 | exact elem39 | exact elem76 | exact elem154) (by kernel_rfl) (by kernel_rfl) (by kernel_rfl) H (fun b w' H1 => hK _ _ ?_))); clear hK K; replace H := H1; clear H1)); (try clear hc); (try simp only [nrm, splice, Value.cells, Nat.reduceAdd, Act.eval, Act.put] at H); have hc := H.cells; simp only [CellsOf, KnCells, knc, Nat.reduceAdd] at hc))
  go_ret
  exact ⟨_, rfl, H⟩
theorem parses_ok (s : ByteArray) (x : Vr) (hx : Hid (VText s x)) (w : World) : Calls Tryd.prog 43 #[.string s] w fun e w' => e = .returned (.bool true) ∧ Ext [] w w' := by
  have H := St.init [] w
  go_enter Tryd.func43, Tryd.ntmps43
  go_wp2_with (first
    | go_skip
    | ((first
        | (go_at_call 50; refine Calls.mono (newVersion_ok _ x hx.out _) ?_; rintro e w' ⟨q, rfl, H'⟩; replace H := H.merge (by first | exact Strikes.nil _ | (repeat (first | exact Strikes.nil _ | (apply Strikes.cons; focus (repeat (first | exact Split.here _ _ | apply Split.there)))))) H' rfl; clear H')
        | (refine loud_ rfl ?_; refine wpList_plain rfl (fun K hK => ?_); (first | (refine op_box _ _ rfl H (fun b w' H1 => hK _ _ ?_)) | (refine op_alloc _ rfl (zero_of _ _ rfl) H (fun b w' H1 => hK _ _ ?_)) | (refine op_store _ _ _ rfl rfl rfl H (by repeat (first | exact Split.here _ _ | apply Split.there)) (by kernel_rfl) (by kernel_rfl) (by kernel_rfl) (fun w' H1 => hK _ _ ?_)) | (refine op_buildSlice_all _ _ _ rfl (by first | exact elem22 | exact elem39 | exact elem76 | exact elem154) (by kernel_rfl) (by kernel_rfl) (by kernel_rfl) H (fun b w' H1 => hK _ _ ?_))); clear hK K; replace H := H1; clear H1)); (try clear hc); (try simp only [nrm, splice, Value.cells, Nat.reduceAdd, Act.eval, Act.put] at H); have hc := H.cells; simp only [CellsOf, KnCells, knc, Nat.reduceAdd] at hc))
  go_ret
  exact ⟨rfl, H.ext⟩
theorem parses_no (s : ByteArray) (hx : Hid (VOpt s none)) (w : World) (he : ErrAt w) : Calls Tryd.prog 43 #[.string s] w fun e w' => e = .returned (.bool false) ∧ Ext [] w w' := by
  have H := St.init [] w
  have he' : Hid (∀ w', Ext [] w w' → ErrAt w') := fun w' e => errAt_ext he e
  clear he
  go_enter Tryd.func43, Tryd.ntmps43
  go_wp2_with (first
    | go_skip
    | ((first
        | (go_at_call 50; refine Calls.mono (newVersion_bad _ (hx.out.1) (by have := hx.out.2; omega) _ (he'.out _ H.ext)) ?_; rintro e w' ⟨v, rfl, H'⟩; replace H := H.of_ext H'; clear H')
        | (refine loud_ rfl ?_; refine wpList_plain rfl (fun K hK => ?_); (first | (refine op_box _ _ rfl H (fun b w' H1 => hK _ _ ?_)) | (refine op_alloc _ rfl (zero_of _ _ rfl) H (fun b w' H1 => hK _ _ ?_)) | (refine op_store _ _ _ rfl rfl rfl H (by repeat (first | exact Split.here _ _ | apply Split.there)) (by kernel_rfl) (by kernel_rfl) (by kernel_rfl) (fun w' H1 => hK _ _ ?_)) | (refine op_buildSlice_all _ _ _ rfl (by first | exact elem22 | exact elem39 | exact elem76 | exact elem154) (by kernel_rfl) (by kernel_rfl) (by kernel_rfl) H (fun b w' H1 => hK _ _ ?_))); clear hK K; replace H := H1; clear H1)); (try clear hc); (try simp only [nrm, splice, Value.cells, Nat.reduceAdd, Act.eval, Act.put] at H); have hc := H.cells; simp only [CellsOf, KnCells, knc, Nat.reduceAdd] at hc))
  go_ret
  exact ⟨rfl, H.ext⟩
theorem sane_a (g : Nat) (d : VD) (o : Vo) (hhd : d.hd = false) (w : World) (he : ErrAt w) (h : w.heap[g]? = some (guard d o)) :
    Calls Tryd.prog 31 #[.pointer (some ⟨g, 0, none⟩)] w fun e w' => e = .returned (.bool true) ∧ Ext [] w w' := by
  have H := (St.init [] w).read (.is g _) h (by simp)
  have he' : Hid (∀ w', Ext [] w w' → ErrAt w') := fun w' e => errAt_ext he e
  clear h he
  obtain ⟨cl, st, tg, dn, hd, at', n, cap⟩ := d
  simp only at hhd
  subst hhd
  have hc := H.cells; simp only [CellsOf, KnCells, knc, Nat.reduceAdd] at hc
  go_enter Tryd.func31, Tryd.ntmps31
  repeat' (first | (go_big_may; (first
    | ((first
        | (refine loud_ rfl ?_; refine wpList_plain rfl (fun K hK => ?_); (first | (refine op_box _ _ rfl H (fun b w' H1 => hK _ _ ?_)) | (refine op_alloc _ rfl (zero_of _ _ rfl) H (fun b w' H1 => hK _ _ ?_)) | (refine op_store _ _ _ rfl rfl rfl H (by repeat (first | exact Split.here _ _ | apply Split.there)) (by kernel_rfl) (by kernel_rfl) (by kernel_rfl) (fun w' H1 => hK _ _ ?_)) | (refine op_buildSlice_all _ _ _ rfl (by first | exact elem22 | exact elem39 | exact elem76 | exact elem154) (by kernel_rfl) (by kernel_rfl) (by kernel_rfl) H (fun b w' H1 => hK _ _ ?_))); clear hK K; replace H := H1; clear H1)); (try clear hc); (try simp only [nrm, splice, Value.cells, Nat.reduceAdd, Act.eval, Act.put] at H); have hc := H.cells; simp only [CellsOf, KnCells, knc, Nat.reduceAdd] at hc))) | go_values | go_skip | go_guarded | go_step | go_upon | go_back | dsimp only)
  go_ret
  exact ⟨rfl, H.ext⟩
theorem sane_b (g : Nat) (d : VD) (o : Vo) (hhd : d.hd = true) (hdn : d.dn = false) (w : World) (he : ErrAt w) (h : w.heap[g]? = some (guard d o)) :
    Calls Tryd.prog 31 #[.pointer (some ⟨g, 0, none⟩)] w fun e w' => e = .returned (.bool true) ∧ Ext [] w w' := by
  have H := (St.init [] w).read (.is g _) h (by simp)
  have he' : Hid (∀ w', Ext [] w w' → ErrAt w') := fun w' e => errAt_ext he e
  clear h he
  obtain ⟨cl, st, tg, dn, hd, at', n, cap⟩ := d
  simp only at hhd hdn
  subst hhd hdn
  have hc := H.cells; simp only [CellsOf, KnCells, knc, Nat.reduceAdd] at hc
  go_enter Tryd.func31, Tryd.ntmps31
  repeat' (first | (go_big_may; (first
    | ((first
        | (refine loud_ rfl ?_; refine wpList_plain rfl (fun K hK => ?_); (first | (refine op_box _ _ rfl H (fun b w' H1 => hK _ _ ?_)) | (refine op_alloc _ rfl (zero_of _ _ rfl) H (fun b w' H1 => hK _ _ ?_)) | (refine op_store _ _ _ rfl rfl rfl H (by repeat (first | exact Split.here _ _ | apply Split.there)) (by kernel_rfl) (by kernel_rfl) (by kernel_rfl) (fun w' H1 => hK _ _ ?_)) | (refine op_buildSlice_all _ _ _ rfl (by first | exact elem22 | exact elem39 | exact elem76 | exact elem154) (by kernel_rfl) (by kernel_rfl) (by kernel_rfl) H (fun b w' H1 => hK _ _ ?_))); clear hK K; replace H := H1; clear H1)); (try clear hc); (try simp only [nrm, splice, Value.cells, Nat.reduceAdd, Act.eval, Act.put] at H); have hc := H.cells; simp only [CellsOf, KnCells, knc, Nat.reduceAdd] at hc))) | go_values | go_skip | go_guarded | go_step | go_upon | go_back | dsimp only)
  go_ret
  exact ⟨rfl, H.ext⟩
theorem sane_c (g : Nat) (d : VD) (o : Vo) (hhd : d.hd = true) (hdn : d.dn = true) (t : Vr) (ht : Hid (VText d.tg t)) (w : World) (he : ErrAt w) (h : w.heap[g]? = some (guard d o)) :
    Calls Tryd.prog 31 #[.pointer (some ⟨g, 0, none⟩)] w fun e w' => e = .returned (.bool true) ∧ Ext [] w w' := by
  have H := (St.init [] w).read (.is g _) h (by simp)
  have he' : Hid (∀ w', Ext [] w w' → ErrAt w') := fun w' e => errAt_ext he e
  clear h he
  obtain ⟨cl, st, tg, dn, hd, at', n, cap⟩ := d
  simp only at hhd hdn ht
  subst hhd hdn
  have hc := H.cells; simp only [CellsOf, KnCells, knc, Nat.reduceAdd] at hc
  go_enter Tryd.func31, Tryd.ntmps31
  repeat' (first | (go_big_may; (first
    | go_skip
    | ((first
        | (go_at_call 43; refine Calls.mono (parses_ok _ t ht _) ?_; rintro e w' ⟨rfl, H'⟩; replace H := H.of_ext H'; clear H')
        | (refine loud_ rfl ?_; refine wpList_plain rfl (fun K hK => ?_); (first | (refine op_box _ _ rfl H (fun b w' H1 => hK _ _ ?_)) | (refine op_alloc _ rfl (zero_of _ _ rfl) H (fun b w' H1 => hK _ _ ?_)) | (refine op_store _ _ _ rfl rfl rfl H (by repeat (first | exact Split.here _ _ | apply Split.there)) (by kernel_rfl) (by kernel_rfl) (by kernel_rfl) (fun w' H1 => hK _ _ ?_)) | (refine op_buildSlice_all _ _ _ rfl (by first | exact elem22 | exact elem39 | exact elem76 | exact elem154) (by kernel_rfl) (by kernel_rfl) (by kernel_rfl) H (fun b w' H1 => hK _ _ ?_))); clear hK K; replace H := H1; clear H1)); (try clear hc); (try simp only [nrm, splice, Value.cells, Nat.reduceAdd, Act.eval, Act.put] at H); have hc := H.cells; simp only [CellsOf, KnCells, knc, Nat.reduceAdd] at hc))) | go_values | go_skip | go_guarded | go_step | go_upon | go_back | dsimp only)
  go_ret
  exact ⟨rfl, H.ext⟩
theorem sane_no (g : Nat) (d : VD) (o : Vo) (hhd : d.hd = true) (hdn : d.dn = true) (ht : Hid (VOpt d.tg none)) (w : World) (he : ErrAt w) (h : w.heap[g]? = some (guard d o)) :
    Calls Tryd.prog 31 #[.pointer (some ⟨g, 0, none⟩)] w fun e w' => e = .returned (.bool false) ∧ Ext [] w w' := by
  have H := (St.init [] w).read (.is g _) h (by simp)
  have he' : Hid (∀ w', Ext [] w w' → ErrAt w') := fun w' e => errAt_ext he e
  clear h he
  obtain ⟨cl, st, tg, dn, hd, at', n, cap⟩ := d
  simp only at hhd hdn ht
  subst hhd hdn
  have hc := H.cells; simp only [CellsOf, KnCells, knc, Nat.reduceAdd] at hc
  go_enter Tryd.func31, Tryd.ntmps31
  repeat' (first | (go_big_may; (first
    | go_skip
    | ((first
        | (go_at_call 43; refine Calls.mono (parses_no _ ht _ (he'.out _ H.ext)) ?_; rintro e w' ⟨rfl, H'⟩; replace H := H.of_ext H'; clear H')
        | (refine loud_ rfl ?_; refine wpList_plain rfl (fun K hK => ?_); (first | (refine op_box _ _ rfl H (fun b w' H1 => hK _ _ ?_)) | (refine op_alloc _ rfl (zero_of _ _ rfl) H (fun b w' H1 => hK _ _ ?_)) | (refine op_store _ _ _ rfl rfl rfl H (by repeat (first | exact Split.here _ _ | apply Split.there)) (by kernel_rfl) (by kernel_rfl) (by kernel_rfl) (fun w' H1 => hK _ _ ?_)) | (refine op_buildSlice_all _ _ _ rfl (by first | exact elem22 | exact elem39 | exact elem76 | exact elem154) (by kernel_rfl) (by kernel_rfl) (by kernel_rfl) H (fun b w' H1 => hK _ _ ?_))); clear hK K; replace H := H1; clear H1)); (try clear hc); (try simp only [nrm, splice, Value.cells, Nat.reduceAdd, Act.eval, Act.put] at H); have hc := H.cells; simp only [CellsOf, KnCells, knc, Nat.reduceAdd] at hc))) | go_values | go_skip | go_guarded | go_step | go_upon | go_back | dsimp only)
  go_ret
  exact ⟨rfl, H.ext⟩
end Go.Proofs.YtdcijhdjddiboaaDoor
