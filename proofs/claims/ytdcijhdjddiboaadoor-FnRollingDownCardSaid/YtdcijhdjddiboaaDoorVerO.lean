import Derived.Test.YtdcijhdjddiboaaDoorVerL
import Derived.Test.YtdcijhdjddiboaaDoorVerU
-- MORE
namespace Go.Proofs.YtdcijhdjddiboaaDoor
set_option linter.unusedVariables false
set_option linter.unusedSimpArgs false
set_option linter.unnecessarySimpa false
open Go.RowKit Go.V

/-- A decision as a vote. -/
def decVo : Option Vr × Bool → Vo
  | (some x, _) => ⟨0, vstr ⟨x.a, x.b, 0⟩, ByteArray.empty, false, false, ByteArray.empty⟩
  | (none, true) => ⟨98, ByteArray.empty, ByteArray.empty, false, false, ByteArray.empty⟩
  | (none, false) => vo0
theorem decVo_empty : decVo (none, false) = ⟨0, ByteArray.empty, ByteArray.empty, false, false, ByteArray.empty⟩ := rfl
def v300 : ByteArray := ⟨#[51, 46, 48, 46, 48]⟩
theorem vstr_300 : vstr ⟨3, 0, 0⟩ = v300 := rfl
set_option maxHeartbeats 2000000 in
set_option maxRecDepth 10000 in
theorem sDec_a1 (cl st tg : ByteArray) (dn hd : Bool) (at' : Option Addr) (n cap : Nat) (ts : List ByteArray) (y1 y2 y3 : Int) 
    (hL : Hid (∀ (w : World), St [] w w [(false, .arr at' (strs ts))] → Calls Tryd.prog 15 #[.slice at' n cap] w fun e w' => e = .returned (.tuple #[.agg #[.int .i64 y1, .int .i64 y2, .int .i64 y3], .bool true]) ∧ Ext [] w w'))
    (hC : Hid (∀ (w : World), Calls Tryd.prog 14 #[.string cl] w fun e w' => e = .returned (.tuple #[.agg #[.int .i64 0, .int .i64 0, .int .i64 0], .bool false]) ∧ Ext [] w w'))
    (hok : Hid ((⟨y1, y2, 0⟩ : Vr).Ok)) (w : World) (H : St [] w w [(false, .arr at' (strs ts))]) :
    Calls Tryd.prog 12 #[.agg #[.string cl, .string st, .string tg, .bool dn, .bool hd, .slice at' n cap]] w fun e w' => e = .returned (Vo.val ⟨0, (vstr ⟨y1, y2, 0⟩), ByteArray.empty, false, false, ByteArray.empty⟩) ∧ Ext [] w w' := by
  have hc := H.cells; simp only [CellsOf, KnCells, knc, Nat.reduceAdd] at hc
  go_enter Tryd.func12, Tryd.ntmps12
  repeat' (first | (go_big_may; (first
    | go_skip
    | ((first
        | (go_at_call 15; refine Calls.mono (hL.out _ (H.pick (by repeat (first | exact Picks.nil _ | (apply Picks.wr; focus (repeat (first | exact Split.here _ _ | apply Split.there))) | (apply Picks.rd; focus (repeat (first | exact Split.here _ _ | apply Split.there))))))) ?_; rintro e w' ⟨rfl, H'⟩; replace H := H.of_ext H'; clear H')
        | (go_at_call 14; (with_reducible refine gate_args (l := [.string cl]) ?_); refine Calls.mono (hC.out _) ?_; rintro e w' ⟨rfl, H'⟩; replace H := H.of_ext H'; clear H')
        | (go_at_call 16; refine Calls.mono (verBase_at y1 y2 y3 _) ?_; rintro e w' ⟨rfl, H'⟩; replace H := H.of_ext H'; clear H')
        | (go_at_call 18; refine Calls.mono (verText_calls ⟨y1, y2, 0⟩ hok.out _) ?_; rintro e w' ⟨rfl, H'⟩; replace H := H.of_ext H'; clear H')
        | (refine loud_ rfl ?_; refine wpList_plain rfl (fun K hK => ?_); (first | (refine op_box _ _ rfl H (fun b w' H1 => hK _ _ ?_)) | (refine op_alloc _ rfl (zero_of _ _ rfl) H (fun b w' H1 => hK _ _ ?_)) | (refine op_store _ _ _ rfl rfl rfl H (by repeat (first | exact Split.here _ _ | apply Split.there)) (by kernel_rfl) (by kernel_rfl) (by kernel_rfl) (fun w' H1 => hK _ _ ?_)) | (refine op_buildSlice_all _ _ _ rfl (by first | exact elem22 | exact elem39 | exact elem76 | exact elem154) (by kernel_rfl) (by kernel_rfl) (by kernel_rfl) H (fun b w' H1 => hK _ _ ?_))); clear hK K; replace H := H1; clear H1)); (try clear hc); (try simp only [nrm, splice, Value.cells, Nat.reduceAdd, Act.eval, Act.put] at H); have hc := H.cells; simp only [CellsOf, KnCells, knc, Nat.reduceAdd] at hc))) | go_values | go_skip | go_guarded | go_step | go_upon | go_back | dsimp only)
  exact bodyPost_ret (v := .agg #[.int .i64 0, .string (vstr ⟨y1, y2, 0⟩), .string ByteArray.empty, .bool false, .bool false, .string ByteArray.empty]) (by simp [results, Tryd.results12, go_sem, hc, Act.put]; try rfl) rfl ⟨rfl, H.ext⟩
set_option maxHeartbeats 2000000 in
set_option maxRecDepth 10000 in
theorem sDec_a2 (cl st tg : ByteArray) (dn hd : Bool) (at' : Option Addr) (n cap : Nat) (ts : List ByteArray) 
    (hL : Hid (∀ (w : World), St [] w w [(false, .arr at' (strs ts))] → Calls Tryd.prog 15 #[.slice at' n cap] w fun e w' => e = .returned (.tuple #[.agg #[.int .i64 0, .int .i64 0, .int .i64 0], .bool false]) ∧ Ext [] w w'))
    (hC : Hid (∀ (w : World), Calls Tryd.prog 14 #[.string cl] w fun e w' => e = .returned (.tuple #[.agg #[.int .i64 0, .int .i64 0, .int .i64 0], .bool false]) ∧ Ext [] w w'))
    (w : World) (H : St [] w w [(false, .arr at' (strs ts))]) :
    Calls Tryd.prog 12 #[.agg #[.string cl, .string st, .string tg, .bool dn, .bool hd, .slice at' n cap]] w fun e w' => e = .returned (Vo.val ⟨0, v300, ByteArray.empty, false, false, ByteArray.empty⟩) ∧ Ext [] w w' := by
  have hc := H.cells; simp only [CellsOf, KnCells, knc, Nat.reduceAdd] at hc
  go_enter Tryd.func12, Tryd.ntmps12
  repeat' (first | (go_big_may; (first
    | go_skip
    | ((first
        | (go_at_call 15; refine Calls.mono (hL.out _ (H.pick (by repeat (first | exact Picks.nil _ | (apply Picks.wr; focus (repeat (first | exact Split.here _ _ | apply Split.there))) | (apply Picks.rd; focus (repeat (first | exact Split.here _ _ | apply Split.there))))))) ?_; rintro e w' ⟨rfl, H'⟩; replace H := H.of_ext H'; clear H')
        | (go_at_call 14; (with_reducible refine gate_args (l := [.string cl]) ?_); refine Calls.mono (hC.out _) ?_; rintro e w' ⟨rfl, H'⟩; replace H := H.of_ext H'; clear H')
        | (refine loud_ rfl ?_; refine wpList_plain rfl (fun K hK => ?_); (first | (refine op_box _ _ rfl H (fun b w' H1 => hK _ _ ?_)) | (refine op_alloc _ rfl (zero_of _ _ rfl) H (fun b w' H1 => hK _ _ ?_)) | (refine op_store _ _ _ rfl rfl rfl H (by repeat (first | exact Split.here _ _ | apply Split.there)) (by kernel_rfl) (by kernel_rfl) (by kernel_rfl) (fun w' H1 => hK _ _ ?_)) | (refine op_buildSlice_all _ _ _ rfl (by first | exact elem22 | exact elem39 | exact elem76 | exact elem154) (by kernel_rfl) (by kernel_rfl) (by kernel_rfl) H (fun b w' H1 => hK _ _ ?_))); clear hK K; replace H := H1; clear H1)); (try clear hc); (try simp only [nrm, splice, Value.cells, Nat.reduceAdd, Act.eval, Act.put] at H); have hc := H.cells; simp only [CellsOf, KnCells, knc, Nat.reduceAdd] at hc))) | go_values | go_skip | go_guarded | go_step | go_upon | go_back | dsimp only)
  exact bodyPost_ret (v := .agg #[.int .i64 0, .string ⟨#[51, 46, 48, 46, 48]⟩, .string ByteArray.empty, .bool false, .bool false, .string ByteArray.empty]) (by simp [results, Tryd.results12, go_sem, hc, Act.put]; try rfl) rfl ⟨rfl, H.ext⟩
set_option maxHeartbeats 2000000 in
set_option maxRecDepth 10000 in
theorem sDec_b0 (cl st tg : ByteArray) (dn hd : Bool) (at' : Option Addr) (n cap : Nat) (ts : List ByteArray) (c1 c2 c3 : Int) 
    (hL : Hid (∀ (w : World), St [] w w [(false, .arr at' (strs ts))] → Calls Tryd.prog 15 #[.slice at' n cap] w fun e w' => e = .returned (.tuple #[.agg #[.int .i64 0, .int .i64 0, .int .i64 0], .bool false]) ∧ Ext [] w w'))
    (hC : Hid (∀ (w : World), Calls Tryd.prog 14 #[.string cl] w fun e w' => e = .returned (.tuple #[.agg #[.int .i64 c1, .int .i64 c2, .int .i64 c3], .bool true]) ∧ Ext [] w w'))
    (w : World) (H : St [] w w [(false, .arr at' (strs ts))]) :
    Calls Tryd.prog 12 #[.agg #[.string cl, .string st, .string tg, .bool dn, .bool hd, .slice at' n cap]] w fun e w' => e = .returned (Vo.val ⟨0, ByteArray.empty, ByteArray.empty, false, false, ByteArray.empty⟩) ∧ Ext [] w w' := by
  have hc := H.cells; simp only [CellsOf, KnCells, knc, Nat.reduceAdd] at hc
  go_enter Tryd.func12, Tryd.ntmps12
  repeat' (first | (go_big_may; (first
    | go_skip
    | ((first
        | (go_at_call 15; refine Calls.mono (hL.out _ (H.pick (by repeat (first | exact Picks.nil _ | (apply Picks.wr; focus (repeat (first | exact Split.here _ _ | apply Split.there))) | (apply Picks.rd; focus (repeat (first | exact Split.here _ _ | apply Split.there))))))) ?_; rintro e w' ⟨rfl, H'⟩; replace H := H.of_ext H'; clear H')
        | (go_at_call 14; (with_reducible refine gate_args (l := [.string cl]) ?_); refine Calls.mono (hC.out _) ?_; rintro e w' ⟨rfl, H'⟩; replace H := H.of_ext H'; clear H')
        | (refine loud_ rfl ?_; refine wpList_plain rfl (fun K hK => ?_); (first | (refine op_box _ _ rfl H (fun b w' H1 => hK _ _ ?_)) | (refine op_alloc _ rfl (zero_of _ _ rfl) H (fun b w' H1 => hK _ _ ?_)) | (refine op_store _ _ _ rfl rfl rfl H (by repeat (first | exact Split.here _ _ | apply Split.there)) (by kernel_rfl) (by kernel_rfl) (by kernel_rfl) (fun w' H1 => hK _ _ ?_)) | (refine op_buildSlice_all _ _ _ rfl (by first | exact elem22 | exact elem39 | exact elem76 | exact elem154) (by kernel_rfl) (by kernel_rfl) (by kernel_rfl) H (fun b w' H1 => hK _ _ ?_))); clear hK K; replace H := H1; clear H1)); (try clear hc); (try simp only [nrm, splice, Value.cells, Nat.reduceAdd, Act.eval, Act.put] at H); have hc := H.cells; simp only [CellsOf, KnCells, knc, Nat.reduceAdd] at hc))) | go_values | go_skip | go_guarded | go_step | go_upon | go_back | dsimp only)
  exact bodyPost_ret (v := .agg #[.int .i64 0, .string ByteArray.empty, .string ByteArray.empty, .bool false, .bool false, .string ByteArray.empty]) (by simp [results, Tryd.results12, go_sem, hc, Act.put]; try rfl) rfl ⟨rfl, H.ext⟩
set_option maxHeartbeats 2000000 in
set_option maxRecDepth 10000 in
theorem sDec_b100 (cl st tg : ByteArray) (dn hd : Bool) (at' : Option Addr) (n cap : Nat) (ts : List ByteArray) (c1 c2 c3 : Int) (y1 y2 y3 : Int) 
    (hL : Hid (∀ (w : World), St [] w w [(false, .arr at' (strs ts))] → Calls Tryd.prog 15 #[.slice at' n cap] w fun e w' => e = .returned (.tuple #[.agg #[.int .i64 y1, .int .i64 y2, .int .i64 y3], .bool true]) ∧ Ext [] w w'))
    (hC : Hid (∀ (w : World), Calls Tryd.prog 14 #[.string cl] w fun e w' => e = .returned (.tuple #[.agg #[.int .i64 c1, .int .i64 c2, .int .i64 c3], .bool true]) ∧ Ext [] w w'))
    (hhd : hd = false) (hless : Hid (∀ (w : World), Calls Tryd.prog 17 #[.agg #[.int .i64 c1, .int .i64 c2, .int .i64 c3], .agg #[.int .i64 y1, .int .i64 y2, .int .i64 y3]] w fun e w' => e = .returned (.bool false) ∧ Ext [] w w')) (w : World) (H : St [] w w [(false, .arr at' (strs ts))]) :
    Calls Tryd.prog 12 #[.agg #[.string cl, .string st, .string tg, .bool dn, .bool hd, .slice at' n cap]] w fun e w' => e = .returned (Vo.val ⟨0, ByteArray.empty, ByteArray.empty, false, false, ByteArray.empty⟩) ∧ Ext [] w w' := by
  subst hhd
  have hc := H.cells; simp only [CellsOf, KnCells, knc, Nat.reduceAdd] at hc
  go_enter Tryd.func12, Tryd.ntmps12
  repeat' (first | (go_big_may; (first
    | go_skip
    | ((first
        | (go_at_call 15; refine Calls.mono (hL.out _ (H.pick (by repeat (first | exact Picks.nil _ | (apply Picks.wr; focus (repeat (first | exact Split.here _ _ | apply Split.there))) | (apply Picks.rd; focus (repeat (first | exact Split.here _ _ | apply Split.there))))))) ?_; rintro e w' ⟨rfl, H'⟩; replace H := H.of_ext H'; clear H')
        | (go_at_call 14; (with_reducible refine gate_args (l := [.string cl]) ?_); refine Calls.mono (hC.out _) ?_; rintro e w' ⟨rfl, H'⟩; replace H := H.of_ext H'; clear H')
        | (go_at_call 17; refine Calls.mono (hless.out _) ?_; rintro e w' ⟨rfl, H'⟩; replace H := H.of_ext H'; clear H')
        | (refine loud_ rfl ?_; refine wpList_plain rfl (fun K hK => ?_); (first | (refine op_box _ _ rfl H (fun b w' H1 => hK _ _ ?_)) | (refine op_alloc _ rfl (zero_of _ _ rfl) H (fun b w' H1 => hK _ _ ?_)) | (refine op_store _ _ _ rfl rfl rfl H (by repeat (first | exact Split.here _ _ | apply Split.there)) (by kernel_rfl) (by kernel_rfl) (by kernel_rfl) (fun w' H1 => hK _ _ ?_)) | (refine op_buildSlice_all _ _ _ rfl (by first | exact elem22 | exact elem39 | exact elem76 | exact elem154) (by kernel_rfl) (by kernel_rfl) (by kernel_rfl) H (fun b w' H1 => hK _ _ ?_))); clear hK K; replace H := H1; clear H1)); (try clear hc); (try simp only [nrm, splice, Value.cells, Nat.reduceAdd, Act.eval, Act.put] at H); have hc := H.cells; simp only [CellsOf, KnCells, knc, Nat.reduceAdd] at hc))) | go_values | go_skip | go_guarded | go_step | go_upon | go_back | dsimp only)
  exact bodyPost_ret (v := .agg #[.int .i64 0, .string ByteArray.empty, .string ByteArray.empty, .bool false, .bool false, .string ByteArray.empty]) (by simp [results, Tryd.results12, go_sem, hc, Act.put]; try rfl) rfl ⟨rfl, H.ext⟩
set_option maxHeartbeats 2000000 in
set_option maxRecDepth 10000 in
theorem sDec_b101 (cl st tg : ByteArray) (dn hd : Bool) (at' : Option Addr) (n cap : Nat) (ts : List ByteArray) (c1 c2 c3 : Int) (y1 y2 y3 : Int) 
    (hL : Hid (∀ (w : World), St [] w w [(false, .arr at' (strs ts))] → Calls Tryd.prog 15 #[.slice at' n cap] w fun e w' => e = .returned (.tuple #[.agg #[.int .i64 y1, .int .i64 y2, .int .i64 y3], .bool true]) ∧ Ext [] w w'))
    (hC : Hid (∀ (w : World), Calls Tryd.prog 14 #[.string cl] w fun e w' => e = .returned (.tuple #[.agg #[.int .i64 c1, .int .i64 c2, .int .i64 c3], .bool true]) ∧ Ext [] w w'))
    (hhd : hd = false) (hless : Hid (∀ (w : World), Calls Tryd.prog 17 #[.agg #[.int .i64 c1, .int .i64 c2, .int .i64 c3], .agg #[.int .i64 y1, .int .i64 y2, .int .i64 y3]] w fun e w' => e = .returned (.bool true) ∧ Ext [] w w')) (hch : Hid (∀ (w : World), Calls Tryd.prog 36 #[.agg #[.int .i64 c1, .int .i64 c2, .int .i64 c3], .agg #[.int .i64 y1, .int .i64 y2, .int .i64 y3]] w fun e w' => e = .returned (.bool false) ∧ Ext [] w w')) (w : World) (H : St [] w w [(false, .arr at' (strs ts))]) :
    Calls Tryd.prog 12 #[.agg #[.string cl, .string st, .string tg, .bool dn, .bool hd, .slice at' n cap]] w fun e w' => e = .returned (Vo.val ⟨0, ByteArray.empty, ByteArray.empty, false, false, ByteArray.empty⟩) ∧ Ext [] w w' := by
  subst hhd
  have hc := H.cells; simp only [CellsOf, KnCells, knc, Nat.reduceAdd] at hc
  go_enter Tryd.func12, Tryd.ntmps12
  repeat' (first | (go_big_may; (first
    | go_skip
    | ((first
        | (go_at_call 15; refine Calls.mono (hL.out _ (H.pick (by repeat (first | exact Picks.nil _ | (apply Picks.wr; focus (repeat (first | exact Split.here _ _ | apply Split.there))) | (apply Picks.rd; focus (repeat (first | exact Split.here _ _ | apply Split.there))))))) ?_; rintro e w' ⟨rfl, H'⟩; replace H := H.of_ext H'; clear H')
        | (go_at_call 14; (with_reducible refine gate_args (l := [.string cl]) ?_); refine Calls.mono (hC.out _) ?_; rintro e w' ⟨rfl, H'⟩; replace H := H.of_ext H'; clear H')
        | (go_at_call 17; refine Calls.mono (hless.out _) ?_; rintro e w' ⟨rfl, H'⟩; replace H := H.of_ext H'; clear H')
        | (go_at_call 36; refine Calls.mono (hch.out _) ?_; rintro e w' ⟨rfl, H'⟩; replace H := H.of_ext H'; clear H')
        | (refine loud_ rfl ?_; refine wpList_plain rfl (fun K hK => ?_); (first | (refine op_box _ _ rfl H (fun b w' H1 => hK _ _ ?_)) | (refine op_alloc _ rfl (zero_of _ _ rfl) H (fun b w' H1 => hK _ _ ?_)) | (refine op_store _ _ _ rfl rfl rfl H (by repeat (first | exact Split.here _ _ | apply Split.there)) (by kernel_rfl) (by kernel_rfl) (by kernel_rfl) (fun w' H1 => hK _ _ ?_)) | (refine op_buildSlice_all _ _ _ rfl (by first | exact elem22 | exact elem39 | exact elem76 | exact elem154) (by kernel_rfl) (by kernel_rfl) (by kernel_rfl) H (fun b w' H1 => hK _ _ ?_))); clear hK K; replace H := H1; clear H1)); (try clear hc); (try simp only [nrm, splice, Value.cells, Nat.reduceAdd, Act.eval, Act.put] at H); have hc := H.cells; simp only [CellsOf, KnCells, knc, Nat.reduceAdd] at hc))) | go_values | go_skip | go_guarded | go_step | go_upon | go_back | dsimp only)
  exact bodyPost_ret (v := .agg #[.int .i64 0, .string ByteArray.empty, .string ByteArray.empty, .bool false, .bool false, .string ByteArray.empty]) (by simp [results, Tryd.results12, go_sem, hc, Act.put]; try rfl) rfl ⟨rfl, H.ext⟩
set_option maxHeartbeats 2000000 in
set_option maxRecDepth 10000 in
theorem sDec_b102 (cl st tg : ByteArray) (dn hd : Bool) (at' : Option Addr) (n cap : Nat) (ts : List ByteArray) (c1 c2 c3 : Int) (y1 y2 y3 : Int) 
    (hL : Hid (∀ (w : World), St [] w w [(false, .arr at' (strs ts))] → Calls Tryd.prog 15 #[.slice at' n cap] w fun e w' => e = .returned (.tuple #[.agg #[.int .i64 y1, .int .i64 y2, .int .i64 y3], .bool true]) ∧ Ext [] w w'))
    (hC : Hid (∀ (w : World), Calls Tryd.prog 14 #[.string cl] w fun e w' => e = .returned (.tuple #[.agg #[.int .i64 c1, .int .i64 c2, .int .i64 c3], .bool true]) ∧ Ext [] w w'))
    (hhd : hd = false) (hless : Hid (∀ (w : World), Calls Tryd.prog 17 #[.agg #[.int .i64 c1, .int .i64 c2, .int .i64 c3], .agg #[.int .i64 y1, .int .i64 y2, .int .i64 y3]] w fun e w' => e = .returned (.bool true) ∧ Ext [] w w')) (hch : Hid (∀ (w : World), Calls Tryd.prog 36 #[.agg #[.int .i64 c1, .int .i64 c2, .int .i64 c3], .agg #[.int .i64 y1, .int .i64 y2, .int .i64 y3]] w fun e w' => e = .returned (.bool true) ∧ Ext [] w w')) (hok : Hid ((⟨y1, y2, 0⟩ : Vr).Ok)) (w : World) (H : St [] w w [(false, .arr at' (strs ts))]) :
    Calls Tryd.prog 12 #[.agg #[.string cl, .string st, .string tg, .bool dn, .bool hd, .slice at' n cap]] w fun e w' => e = .returned (Vo.val ⟨0, (vstr ⟨y1, y2, 0⟩), ByteArray.empty, false, false, ByteArray.empty⟩) ∧ Ext [] w w' := by
  subst hhd
  have hc := H.cells; simp only [CellsOf, KnCells, knc, Nat.reduceAdd] at hc
  go_enter Tryd.func12, Tryd.ntmps12
  repeat' (first | (go_big_may; (first
    | go_skip
    | ((first
        | (go_at_call 15; refine Calls.mono (hL.out _ (H.pick (by repeat (first | exact Picks.nil _ | (apply Picks.wr; focus (repeat (first | exact Split.here _ _ | apply Split.there))) | (apply Picks.rd; focus (repeat (first | exact Split.here _ _ | apply Split.there))))))) ?_; rintro e w' ⟨rfl, H'⟩; replace H := H.of_ext H'; clear H')
        | (go_at_call 14; (with_reducible refine gate_args (l := [.string cl]) ?_); refine Calls.mono (hC.out _) ?_; rintro e w' ⟨rfl, H'⟩; replace H := H.of_ext H'; clear H')
        | (go_at_call 17; refine Calls.mono (hless.out _) ?_; rintro e w' ⟨rfl, H'⟩; replace H := H.of_ext H'; clear H')
        | (go_at_call 36; refine Calls.mono (hch.out _) ?_; rintro e w' ⟨rfl, H'⟩; replace H := H.of_ext H'; clear H')
        | (go_at_call 16; refine Calls.mono (verBase_at y1 y2 y3 _) ?_; rintro e w' ⟨rfl, H'⟩; replace H := H.of_ext H'; clear H')
        | (go_at_call 18; refine Calls.mono (verText_calls ⟨y1, y2, 0⟩ hok.out _) ?_; rintro e w' ⟨rfl, H'⟩; replace H := H.of_ext H'; clear H')
        | (refine loud_ rfl ?_; refine wpList_plain rfl (fun K hK => ?_); (first | (refine op_box _ _ rfl H (fun b w' H1 => hK _ _ ?_)) | (refine op_alloc _ rfl (zero_of _ _ rfl) H (fun b w' H1 => hK _ _ ?_)) | (refine op_store _ _ _ rfl rfl rfl H (by repeat (first | exact Split.here _ _ | apply Split.there)) (by kernel_rfl) (by kernel_rfl) (by kernel_rfl) (fun w' H1 => hK _ _ ?_)) | (refine op_buildSlice_all _ _ _ rfl (by first | exact elem22 | exact elem39 | exact elem76 | exact elem154) (by kernel_rfl) (by kernel_rfl) (by kernel_rfl) H (fun b w' H1 => hK _ _ ?_))); clear hK K; replace H := H1; clear H1)); (try clear hc); (try simp only [nrm, splice, Value.cells, Nat.reduceAdd, Act.eval, Act.put] at H); have hc := H.cells; simp only [CellsOf, KnCells, knc, Nat.reduceAdd] at hc))) | go_values | go_skip | go_guarded | go_step | go_upon | go_back | dsimp only)
  exact bodyPost_ret (v := .agg #[.int .i64 0, .string (vstr ⟨y1, y2, 0⟩), .string ByteArray.empty, .bool false, .bool false, .string ByteArray.empty]) (by simp [results, Tryd.results12, go_sem, hc, Act.put]; try rfl) rfl ⟨rfl, H.ext⟩
set_option maxHeartbeats 2000000 in
set_option maxRecDepth 10000 in
theorem sDec_b110 (cl st tg : ByteArray) (dn hd : Bool) (at' : Option Addr) (n cap : Nat) (ts : List ByteArray) (c1 c2 c3 : Int) (y1 y2 y3 : Int) 
    (hL : Hid (∀ (w : World), St [] w w [(false, .arr at' (strs ts))] → Calls Tryd.prog 15 #[.slice at' n cap] w fun e w' => e = .returned (.tuple #[.agg #[.int .i64 y1, .int .i64 y2, .int .i64 y3], .bool true]) ∧ Ext [] w w'))
    (hC : Hid (∀ (w : World), Calls Tryd.prog 14 #[.string cl] w fun e w' => e = .returned (.tuple #[.agg #[.int .i64 c1, .int .i64 c2, .int .i64 c3], .bool true]) ∧ Ext [] w w'))
    (hhd : hd = true) (hdn : dn = false) (hless : Hid (∀ (w : World), Calls Tryd.prog 17 #[.agg #[.int .i64 c1, .int .i64 c2, .int .i64 c3], .agg #[.int .i64 y1, .int .i64 y2, .int .i64 y3]] w fun e w' => e = .returned (.bool false) ∧ Ext [] w w')) (w : World) (H : St [] w w [(false, .arr at' (strs ts))]) :
    Calls Tryd.prog 12 #[.agg #[.string cl, .string st, .string tg, .bool dn, .bool hd, .slice at' n cap]] w fun e w' => e = .returned (Vo.val ⟨0, ByteArray.empty, ByteArray.empty, false, false, ByteArray.empty⟩) ∧ Ext [] w w' := by
  subst hhd hdn
  have hc := H.cells; simp only [CellsOf, KnCells, knc, Nat.reduceAdd] at hc
  go_enter Tryd.func12, Tryd.ntmps12
  repeat' (first | (go_big_may; (first
    | go_skip
    | ((first
        | (go_at_call 15; refine Calls.mono (hL.out _ (H.pick (by repeat (first | exact Picks.nil _ | (apply Picks.wr; focus (repeat (first | exact Split.here _ _ | apply Split.there))) | (apply Picks.rd; focus (repeat (first | exact Split.here _ _ | apply Split.there))))))) ?_; rintro e w' ⟨rfl, H'⟩; replace H := H.of_ext H'; clear H')
        | (go_at_call 14; (with_reducible refine gate_args (l := [.string cl]) ?_); refine Calls.mono (hC.out _) ?_; rintro e w' ⟨rfl, H'⟩; replace H := H.of_ext H'; clear H')
        | (go_at_call 17; refine Calls.mono (hless.out _) ?_; rintro e w' ⟨rfl, H'⟩; replace H := H.of_ext H'; clear H')
        | (refine loud_ rfl ?_; refine wpList_plain rfl (fun K hK => ?_); (first | (refine op_box _ _ rfl H (fun b w' H1 => hK _ _ ?_)) | (refine op_alloc _ rfl (zero_of _ _ rfl) H (fun b w' H1 => hK _ _ ?_)) | (refine op_store _ _ _ rfl rfl rfl H (by repeat (first | exact Split.here _ _ | apply Split.there)) (by kernel_rfl) (by kernel_rfl) (by kernel_rfl) (fun w' H1 => hK _ _ ?_)) | (refine op_buildSlice_all _ _ _ rfl (by first | exact elem22 | exact elem39 | exact elem76 | exact elem154) (by kernel_rfl) (by kernel_rfl) (by kernel_rfl) H (fun b w' H1 => hK _ _ ?_))); clear hK K; replace H := H1; clear H1)); (try clear hc); (try simp only [nrm, splice, Value.cells, Nat.reduceAdd, Act.eval, Act.put] at H); have hc := H.cells; simp only [CellsOf, KnCells, knc, Nat.reduceAdd] at hc))) | go_values | go_skip | go_guarded | go_step | go_upon | go_back | dsimp only)
  exact bodyPost_ret (v := .agg #[.int .i64 0, .string ByteArray.empty, .string ByteArray.empty, .bool false, .bool false, .string ByteArray.empty]) (by simp [results, Tryd.results12, go_sem, hc, Act.put]; try rfl) rfl ⟨rfl, H.ext⟩
set_option maxHeartbeats 2000000 in
set_option maxRecDepth 10000 in
theorem sDec_b111 (cl st tg : ByteArray) (dn hd : Bool) (at' : Option Addr) (n cap : Nat) (ts : List ByteArray) (c1 c2 c3 : Int) (y1 y2 y3 : Int) 
    (hL : Hid (∀ (w : World), St [] w w [(false, .arr at' (strs ts))] → Calls Tryd.prog 15 #[.slice at' n cap] w fun e w' => e = .returned (.tuple #[.agg #[.int .i64 y1, .int .i64 y2, .int .i64 y3], .bool true]) ∧ Ext [] w w'))
    (hC : Hid (∀ (w : World), Calls Tryd.prog 14 #[.string cl] w fun e w' => e = .returned (.tuple #[.agg #[.int .i64 c1, .int .i64 c2, .int .i64 c3], .bool true]) ∧ Ext [] w w'))
    (hhd : hd = true) (hdn : dn = false) (hless : Hid (∀ (w : World), Calls Tryd.prog 17 #[.agg #[.int .i64 c1, .int .i64 c2, .int .i64 c3], .agg #[.int .i64 y1, .int .i64 y2, .int .i64 y3]] w fun e w' => e = .returned (.bool true) ∧ Ext [] w w')) (hch : Hid (∀ (w : World), Calls Tryd.prog 36 #[.agg #[.int .i64 c1, .int .i64 c2, .int .i64 c3], .agg #[.int .i64 y1, .int .i64 y2, .int .i64 y3]] w fun e w' => e = .returned (.bool false) ∧ Ext [] w w')) (w : World) (H : St [] w w [(false, .arr at' (strs ts))]) :
    Calls Tryd.prog 12 #[.agg #[.string cl, .string st, .string tg, .bool dn, .bool hd, .slice at' n cap]] w fun e w' => e = .returned (Vo.val ⟨0, ByteArray.empty, ByteArray.empty, false, false, ByteArray.empty⟩) ∧ Ext [] w w' := by
  subst hhd hdn
  have hc := H.cells; simp only [CellsOf, KnCells, knc, Nat.reduceAdd] at hc
  go_enter Tryd.func12, Tryd.ntmps12
  repeat' (first | (go_big_may; (first
    | go_skip
    | ((first
        | (go_at_call 15; refine Calls.mono (hL.out _ (H.pick (by repeat (first | exact Picks.nil _ | (apply Picks.wr; focus (repeat (first | exact Split.here _ _ | apply Split.there))) | (apply Picks.rd; focus (repeat (first | exact Split.here _ _ | apply Split.there))))))) ?_; rintro e w' ⟨rfl, H'⟩; replace H := H.of_ext H'; clear H')
        | (go_at_call 14; (with_reducible refine gate_args (l := [.string cl]) ?_); refine Calls.mono (hC.out _) ?_; rintro e w' ⟨rfl, H'⟩; replace H := H.of_ext H'; clear H')
        | (go_at_call 17; refine Calls.mono (hless.out _) ?_; rintro e w' ⟨rfl, H'⟩; replace H := H.of_ext H'; clear H')
        | (go_at_call 36; refine Calls.mono (hch.out _) ?_; rintro e w' ⟨rfl, H'⟩; replace H := H.of_ext H'; clear H')
        | (refine loud_ rfl ?_; refine wpList_plain rfl (fun K hK => ?_); (first | (refine op_box _ _ rfl H (fun b w' H1 => hK _ _ ?_)) | (refine op_alloc _ rfl (zero_of _ _ rfl) H (fun b w' H1 => hK _ _ ?_)) | (refine op_store _ _ _ rfl rfl rfl H (by repeat (first | exact Split.here _ _ | apply Split.there)) (by kernel_rfl) (by kernel_rfl) (by kernel_rfl) (fun w' H1 => hK _ _ ?_)) | (refine op_buildSlice_all _ _ _ rfl (by first | exact elem22 | exact elem39 | exact elem76 | exact elem154) (by kernel_rfl) (by kernel_rfl) (by kernel_rfl) H (fun b w' H1 => hK _ _ ?_))); clear hK K; replace H := H1; clear H1)); (try clear hc); (try simp only [nrm, splice, Value.cells, Nat.reduceAdd, Act.eval, Act.put] at H); have hc := H.cells; simp only [CellsOf, KnCells, knc, Nat.reduceAdd] at hc))) | go_values | go_skip | go_guarded | go_step | go_upon | go_back | dsimp only)
  exact bodyPost_ret (v := .agg #[.int .i64 0, .string ByteArray.empty, .string ByteArray.empty, .bool false, .bool false, .string ByteArray.empty]) (by simp [results, Tryd.results12, go_sem, hc, Act.put]; try rfl) rfl ⟨rfl, H.ext⟩
set_option maxHeartbeats 2000000 in
set_option maxRecDepth 10000 in
theorem sDec_b112 (cl st tg : ByteArray) (dn hd : Bool) (at' : Option Addr) (n cap : Nat) (ts : List ByteArray) (c1 c2 c3 : Int) (y1 y2 y3 : Int) 
    (hL : Hid (∀ (w : World), St [] w w [(false, .arr at' (strs ts))] → Calls Tryd.prog 15 #[.slice at' n cap] w fun e w' => e = .returned (.tuple #[.agg #[.int .i64 y1, .int .i64 y2, .int .i64 y3], .bool true]) ∧ Ext [] w w'))
    (hC : Hid (∀ (w : World), Calls Tryd.prog 14 #[.string cl] w fun e w' => e = .returned (.tuple #[.agg #[.int .i64 c1, .int .i64 c2, .int .i64 c3], .bool true]) ∧ Ext [] w w'))
    (hhd : hd = true) (hdn : dn = false) (hless : Hid (∀ (w : World), Calls Tryd.prog 17 #[.agg #[.int .i64 c1, .int .i64 c2, .int .i64 c3], .agg #[.int .i64 y1, .int .i64 y2, .int .i64 y3]] w fun e w' => e = .returned (.bool true) ∧ Ext [] w w')) (hch : Hid (∀ (w : World), Calls Tryd.prog 36 #[.agg #[.int .i64 c1, .int .i64 c2, .int .i64 c3], .agg #[.int .i64 y1, .int .i64 y2, .int .i64 y3]] w fun e w' => e = .returned (.bool true) ∧ Ext [] w w')) (hok : Hid ((⟨y1, y2, 0⟩ : Vr).Ok)) (w : World) (H : St [] w w [(false, .arr at' (strs ts))]) :
    Calls Tryd.prog 12 #[.agg #[.string cl, .string st, .string tg, .bool dn, .bool hd, .slice at' n cap]] w fun e w' => e = .returned (Vo.val ⟨0, (vstr ⟨y1, y2, 0⟩), ByteArray.empty, false, false, ByteArray.empty⟩) ∧ Ext [] w w' := by
  subst hhd hdn
  have hc := H.cells; simp only [CellsOf, KnCells, knc, Nat.reduceAdd] at hc
  go_enter Tryd.func12, Tryd.ntmps12
  repeat' (first | (go_big_may; (first
    | go_skip
    | ((first
        | (go_at_call 15; refine Calls.mono (hL.out _ (H.pick (by repeat (first | exact Picks.nil _ | (apply Picks.wr; focus (repeat (first | exact Split.here _ _ | apply Split.there))) | (apply Picks.rd; focus (repeat (first | exact Split.here _ _ | apply Split.there))))))) ?_; rintro e w' ⟨rfl, H'⟩; replace H := H.of_ext H'; clear H')
        | (go_at_call 14; (with_reducible refine gate_args (l := [.string cl]) ?_); refine Calls.mono (hC.out _) ?_; rintro e w' ⟨rfl, H'⟩; replace H := H.of_ext H'; clear H')
        | (go_at_call 17; refine Calls.mono (hless.out _) ?_; rintro e w' ⟨rfl, H'⟩; replace H := H.of_ext H'; clear H')
        | (go_at_call 36; refine Calls.mono (hch.out _) ?_; rintro e w' ⟨rfl, H'⟩; replace H := H.of_ext H'; clear H')
        | (go_at_call 16; refine Calls.mono (verBase_at y1 y2 y3 _) ?_; rintro e w' ⟨rfl, H'⟩; replace H := H.of_ext H'; clear H')
        | (go_at_call 18; refine Calls.mono (verText_calls ⟨y1, y2, 0⟩ hok.out _) ?_; rintro e w' ⟨rfl, H'⟩; replace H := H.of_ext H'; clear H')
        | (refine loud_ rfl ?_; refine wpList_plain rfl (fun K hK => ?_); (first | (refine op_box _ _ rfl H (fun b w' H1 => hK _ _ ?_)) | (refine op_alloc _ rfl (zero_of _ _ rfl) H (fun b w' H1 => hK _ _ ?_)) | (refine op_store _ _ _ rfl rfl rfl H (by repeat (first | exact Split.here _ _ | apply Split.there)) (by kernel_rfl) (by kernel_rfl) (by kernel_rfl) (fun w' H1 => hK _ _ ?_)) | (refine op_buildSlice_all _ _ _ rfl (by first | exact elem22 | exact elem39 | exact elem76 | exact elem154) (by kernel_rfl) (by kernel_rfl) (by kernel_rfl) H (fun b w' H1 => hK _ _ ?_))); clear hK K; replace H := H1; clear H1)); (try clear hc); (try simp only [nrm, splice, Value.cells, Nat.reduceAdd, Act.eval, Act.put] at H); have hc := H.cells; simp only [CellsOf, KnCells, knc, Nat.reduceAdd] at hc))) | go_values | go_skip | go_guarded | go_step | go_upon | go_back | dsimp only)
  exact bodyPost_ret (v := .agg #[.int .i64 0, .string (vstr ⟨y1, y2, 0⟩), .string ByteArray.empty, .bool false, .bool false, .string ByteArray.empty]) (by simp [results, Tryd.results12, go_sem, hc, Act.put]; try rfl) rfl ⟨rfl, H.ext⟩
set_option maxHeartbeats 2000000 in
set_option maxRecDepth 10000 in
theorem sDec_b20 (cl st tg : ByteArray) (dn hd : Bool) (at' : Option Addr) (n cap : Nat) (ts : List ByteArray) (c1 c2 c3 : Int) (y1 y2 y3 : Int) 
    (hL : Hid (∀ (w : World), St [] w w [(false, .arr at' (strs ts))] → Calls Tryd.prog 15 #[.slice at' n cap] w fun e w' => e = .returned (.tuple #[.agg #[.int .i64 y1, .int .i64 y2, .int .i64 y3], .bool true]) ∧ Ext [] w w'))
    (hC : Hid (∀ (w : World), Calls Tryd.prog 14 #[.string cl] w fun e w' => e = .returned (.tuple #[.agg #[.int .i64 c1, .int .i64 c2, .int .i64 c3], .bool true]) ∧ Ext [] w w'))
    (hhd : hd = true) (hdn : dn = true) (hT : Hid (∀ (w : World), Calls Tryd.prog 14 #[.string tg] w fun e w' => e = .returned (.tuple #[.agg #[.int .i64 c1, .int .i64 c2, .int .i64 c3], .bool true]) ∧ Ext [] w w')) (w : World) (H : St [] w w [(false, .arr at' (strs ts))]) :
    Calls Tryd.prog 12 #[.agg #[.string cl, .string st, .string tg, .bool dn, .bool hd, .slice at' n cap]] w fun e w' => e = .returned (Vo.val ⟨0, ByteArray.empty, ByteArray.empty, false, false, ByteArray.empty⟩) ∧ Ext [] w w' := by
  subst hhd hdn
  have hc := H.cells; simp only [CellsOf, KnCells, knc, Nat.reduceAdd] at hc
  go_enter Tryd.func12, Tryd.ntmps12
  repeat' (first | (go_big_may; (first
    | go_skip
    | ((first
        | (go_at_call 15; refine Calls.mono (hL.out _ (H.pick (by repeat (first | exact Picks.nil _ | (apply Picks.wr; focus (repeat (first | exact Split.here _ _ | apply Split.there))) | (apply Picks.rd; focus (repeat (first | exact Split.here _ _ | apply Split.there))))))) ?_; rintro e w' ⟨rfl, H'⟩; replace H := H.of_ext H'; clear H')
        | (go_at_call 14; (with_reducible refine gate_args (l := [.string cl]) ?_); refine Calls.mono (hC.out _) ?_; rintro e w' ⟨rfl, H'⟩; replace H := H.of_ext H'; clear H')
        | (go_at_call 14; (with_reducible refine gate_args (l := [.string tg]) ?_); refine Calls.mono (hT.out _) ?_; rintro e w' ⟨rfl, H'⟩; replace H := H.of_ext H'; clear H')
        | (refine loud_ rfl ?_; refine wpList_plain rfl (fun K hK => ?_); (first | (refine op_box _ _ rfl H (fun b w' H1 => hK _ _ ?_)) | (refine op_alloc _ rfl (zero_of _ _ rfl) H (fun b w' H1 => hK _ _ ?_)) | (refine op_store _ _ _ rfl rfl rfl H (by repeat (first | exact Split.here _ _ | apply Split.there)) (by kernel_rfl) (by kernel_rfl) (by kernel_rfl) (fun w' H1 => hK _ _ ?_)) | (refine op_buildSlice_all _ _ _ rfl (by first | exact elem22 | exact elem39 | exact elem76 | exact elem154) (by kernel_rfl) (by kernel_rfl) (by kernel_rfl) H (fun b w' H1 => hK _ _ ?_))); clear hK K; replace H := H1; clear H1)); (try clear hc); (try simp only [nrm, splice, Value.cells, Nat.reduceAdd, Act.eval, Act.put] at H); have hc := H.cells; simp only [CellsOf, KnCells, knc, Nat.reduceAdd] at hc))) | go_values | go_skip | go_guarded | go_step | go_upon | go_back | dsimp only)
  exact bodyPost_ret (v := .agg #[.int .i64 0, .string ByteArray.empty, .string ByteArray.empty, .bool false, .bool false, .string ByteArray.empty]) (by simp [results, Tryd.results12, go_sem, hc, Act.put]; try rfl) rfl ⟨rfl, H.ext⟩
set_option maxHeartbeats 2000000 in
set_option maxRecDepth 10000 in
theorem sDec_b21 (cl st tg : ByteArray) (dn hd : Bool) (at' : Option Addr) (n cap : Nat) (ts : List ByteArray) (c1 c2 c3 : Int) (y1 y2 y3 : Int) (t1 t2 t3 : Int) 
    (hL : Hid (∀ (w : World), St [] w w [(false, .arr at' (strs ts))] → Calls Tryd.prog 15 #[.slice at' n cap] w fun e w' => e = .returned (.tuple #[.agg #[.int .i64 y1, .int .i64 y2, .int .i64 y3], .bool true]) ∧ Ext [] w w'))
    (hC : Hid (∀ (w : World), Calls Tryd.prog 14 #[.string cl] w fun e w' => e = .returned (.tuple #[.agg #[.int .i64 c1, .int .i64 c2, .int .i64 c3], .bool true]) ∧ Ext [] w w'))
    (hhd : hd = true) (hdn : dn = true) (hT : Hid (∀ (w : World), Calls Tryd.prog 14 #[.string tg] w fun e w' => e = .returned (.tuple #[.agg #[.int .i64 t1, .int .i64 t2, .int .i64 t3], .bool true]) ∧ Ext [] w w')) (heq : (decide (t1 = c1) && (decide (t2 = c2) && decide (t3 = c3))) = false) (hd1 : Hid (∀ (w : World), Calls Tryd.prog 35 #[.agg #[.int .i64 c1, .int .i64 c2, .int .i64 c3], .agg #[.int .i64 t1, .int .i64 t2, .int .i64 t3]] w fun e w' => e = .returned (.bool false) ∧ Ext [] w w')) (w : World) (H : St [] w w [(false, .arr at' (strs ts))]) :
    Calls Tryd.prog 12 #[.agg #[.string cl, .string st, .string tg, .bool dn, .bool hd, .slice at' n cap]] w fun e w' => e = .returned (Vo.val ⟨98, ByteArray.empty, ByteArray.empty, false, false, ByteArray.empty⟩) ∧ Ext [] w w' := by
  subst hhd hdn
  by_cases e1 : t1 = c1
  · subst e1
    by_cases e2 : t2 = c2
    · subst e2
      have e3 : ¬ t3 = c3 := by simpa using heq
      clear heq
      have b3 : (t3 == c3) = false := by simp; omega
      have hc := H.cells; simp only [CellsOf, KnCells, knc, Nat.reduceAdd] at hc
      go_enter Tryd.func12, Tryd.ntmps12
      repeat' (first | (go_big_may; (first
    | go_skip
    | ((first
        | (go_at_call 15; refine Calls.mono (hL.out _ (H.pick (by repeat (first | exact Picks.nil _ | (apply Picks.wr; focus (repeat (first | exact Split.here _ _ | apply Split.there))) | (apply Picks.rd; focus (repeat (first | exact Split.here _ _ | apply Split.there))))))) ?_; rintro e w' ⟨rfl, H'⟩; replace H := H.of_ext H'; clear H')
        | (go_at_call 14; (with_reducible refine gate_args (l := [.string cl]) ?_); refine Calls.mono (hC.out _) ?_; rintro e w' ⟨rfl, H'⟩; replace H := H.of_ext H'; clear H')
        | (go_at_call 14; (with_reducible refine gate_args (l := [.string tg]) ?_); refine Calls.mono (hT.out _) ?_; rintro e w' ⟨rfl, H'⟩; replace H := H.of_ext H'; clear H')
        | (go_at_call 35; (with_reducible refine gate_args (l := [.agg #[.int .i64 t1, .int .i64 t2, .int .i64 c3], .agg #[.int .i64 t1, .int .i64 t2, .int .i64 t3]]) ?_); refine Calls.mono (hd1.out _) ?_; rintro e w' ⟨rfl, H'⟩; replace H := H.of_ext H'; clear H')
        | (refine loud_ rfl ?_; refine wpList_plain rfl (fun K hK => ?_); (first | (refine op_box _ _ rfl H (fun b w' H1 => hK _ _ ?_)) | (refine op_alloc _ rfl (zero_of _ _ rfl) H (fun b w' H1 => hK _ _ ?_)) | (refine op_store _ _ _ rfl rfl rfl H (by repeat (first | exact Split.here _ _ | apply Split.there)) (by kernel_rfl) (by kernel_rfl) (by kernel_rfl) (fun w' H1 => hK _ _ ?_)) | (refine op_buildSlice_all _ _ _ rfl (by first | exact elem22 | exact elem39 | exact elem76 | exact elem154) (by kernel_rfl) (by kernel_rfl) (by kernel_rfl) H (fun b w' H1 => hK _ _ ?_))); clear hK K; replace H := H1; clear H1)); (try clear hc); (try simp only [nrm, splice, Value.cells, Nat.reduceAdd, Act.eval, Act.put] at H); have hc := H.cells; simp only [CellsOf, KnCells, knc, Nat.reduceAdd] at hc))) | go_values | go_skip | go_guarded | go_step | go_upon | go_back | dsimp only)
      exact bodyPost_ret (v := .agg #[.int .i64 98, .string ByteArray.empty, .string ByteArray.empty, .bool false, .bool false, .string ByteArray.empty]) (by simp [results, Tryd.results12, go_sem, hc, Act.put]; try rfl) rfl ⟨rfl, H.ext⟩
    · clear heq
      have b2 : (t2 == c2) = false := by simp; omega
      have hc := H.cells; simp only [CellsOf, KnCells, knc, Nat.reduceAdd] at hc
      go_enter Tryd.func12, Tryd.ntmps12
      repeat' (first | (go_big_may; (first
    | go_skip
    | ((first
        | (go_at_call 15; refine Calls.mono (hL.out _ (H.pick (by repeat (first | exact Picks.nil _ | (apply Picks.wr; focus (repeat (first | exact Split.here _ _ | apply Split.there))) | (apply Picks.rd; focus (repeat (first | exact Split.here _ _ | apply Split.there))))))) ?_; rintro e w' ⟨rfl, H'⟩; replace H := H.of_ext H'; clear H')
        | (go_at_call 14; (with_reducible refine gate_args (l := [.string cl]) ?_); refine Calls.mono (hC.out _) ?_; rintro e w' ⟨rfl, H'⟩; replace H := H.of_ext H'; clear H')
        | (go_at_call 14; (with_reducible refine gate_args (l := [.string tg]) ?_); refine Calls.mono (hT.out _) ?_; rintro e w' ⟨rfl, H'⟩; replace H := H.of_ext H'; clear H')
        | (go_at_call 35; (with_reducible refine gate_args (l := [.agg #[.int .i64 t1, .int .i64 c2, .int .i64 c3], .agg #[.int .i64 t1, .int .i64 t2, .int .i64 t3]]) ?_); refine Calls.mono (hd1.out _) ?_; rintro e w' ⟨rfl, H'⟩; replace H := H.of_ext H'; clear H')
        | (refine loud_ rfl ?_; refine wpList_plain rfl (fun K hK => ?_); (first | (refine op_box _ _ rfl H (fun b w' H1 => hK _ _ ?_)) | (refine op_alloc _ rfl (zero_of _ _ rfl) H (fun b w' H1 => hK _ _ ?_)) | (refine op_store _ _ _ rfl rfl rfl H (by repeat (first | exact Split.here _ _ | apply Split.there)) (by kernel_rfl) (by kernel_rfl) (by kernel_rfl) (fun w' H1 => hK _ _ ?_)) | (refine op_buildSlice_all _ _ _ rfl (by first | exact elem22 | exact elem39 | exact elem76 | exact elem154) (by kernel_rfl) (by kernel_rfl) (by kernel_rfl) H (fun b w' H1 => hK _ _ ?_))); clear hK K; replace H := H1; clear H1)); (try clear hc); (try simp only [nrm, splice, Value.cells, Nat.reduceAdd, Act.eval, Act.put] at H); have hc := H.cells; simp only [CellsOf, KnCells, knc, Nat.reduceAdd] at hc))) | go_values | go_skip | go_guarded | go_step | go_upon | go_back | dsimp only)
      exact bodyPost_ret (v := .agg #[.int .i64 98, .string ByteArray.empty, .string ByteArray.empty, .bool false, .bool false, .string ByteArray.empty]) (by simp [results, Tryd.results12, go_sem, hc, Act.put]; try rfl) rfl ⟨rfl, H.ext⟩
  · clear heq
    have b1 : (t1 == c1) = false := by simp; omega
    have hc := H.cells; simp only [CellsOf, KnCells, knc, Nat.reduceAdd] at hc
    go_enter Tryd.func12, Tryd.ntmps12
    repeat' (first | (go_big_may; (first
    | go_skip
    | ((first
        | (go_at_call 15; refine Calls.mono (hL.out _ (H.pick (by repeat (first | exact Picks.nil _ | (apply Picks.wr; focus (repeat (first | exact Split.here _ _ | apply Split.there))) | (apply Picks.rd; focus (repeat (first | exact Split.here _ _ | apply Split.there))))))) ?_; rintro e w' ⟨rfl, H'⟩; replace H := H.of_ext H'; clear H')
        | (go_at_call 14; (with_reducible refine gate_args (l := [.string cl]) ?_); refine Calls.mono (hC.out _) ?_; rintro e w' ⟨rfl, H'⟩; replace H := H.of_ext H'; clear H')
        | (go_at_call 14; (with_reducible refine gate_args (l := [.string tg]) ?_); refine Calls.mono (hT.out _) ?_; rintro e w' ⟨rfl, H'⟩; replace H := H.of_ext H'; clear H')
        | (go_at_call 35; (with_reducible refine gate_args (l := [.agg #[.int .i64 c1, .int .i64 c2, .int .i64 c3], .agg #[.int .i64 t1, .int .i64 t2, .int .i64 t3]]) ?_); refine Calls.mono (hd1.out _) ?_; rintro e w' ⟨rfl, H'⟩; replace H := H.of_ext H'; clear H')
        | (refine loud_ rfl ?_; refine wpList_plain rfl (fun K hK => ?_); (first | (refine op_box _ _ rfl H (fun b w' H1 => hK _ _ ?_)) | (refine op_alloc _ rfl (zero_of _ _ rfl) H (fun b w' H1 => hK _ _ ?_)) | (refine op_store _ _ _ rfl rfl rfl H (by repeat (first | exact Split.here _ _ | apply Split.there)) (by kernel_rfl) (by kernel_rfl) (by kernel_rfl) (fun w' H1 => hK _ _ ?_)) | (refine op_buildSlice_all _ _ _ rfl (by first | exact elem22 | exact elem39 | exact elem76 | exact elem154) (by kernel_rfl) (by kernel_rfl) (by kernel_rfl) H (fun b w' H1 => hK _ _ ?_))); clear hK K; replace H := H1; clear H1)); (try clear hc); (try simp only [nrm, splice, Value.cells, Nat.reduceAdd, Act.eval, Act.put] at H); have hc := H.cells; simp only [CellsOf, KnCells, knc, Nat.reduceAdd] at hc))) | go_values | go_skip | go_guarded | go_step | go_upon | go_back | dsimp only)
    exact bodyPost_ret (v := .agg #[.int .i64 98, .string ByteArray.empty, .string ByteArray.empty, .bool false, .bool false, .string ByteArray.empty]) (by simp [results, Tryd.results12, go_sem, hc, Act.put]; try rfl) rfl ⟨rfl, H.ext⟩
set_option maxHeartbeats 2000000 in
set_option maxRecDepth 10000 in
theorem sDec_b22 (cl st tg : ByteArray) (dn hd : Bool) (at' : Option Addr) (n cap : Nat) (ts : List ByteArray) (c1 c2 c3 : Int) (y1 y2 y3 : Int) (t1 t2 t3 : Int) 
    (hL : Hid (∀ (w : World), St [] w w [(false, .arr at' (strs ts))] → Calls Tryd.prog 15 #[.slice at' n cap] w fun e w' => e = .returned (.tuple #[.agg #[.int .i64 y1, .int .i64 y2, .int .i64 y3], .bool true]) ∧ Ext [] w w'))
    (hC : Hid (∀ (w : World), Calls Tryd.prog 14 #[.string cl] w fun e w' => e = .returned (.tuple #[.agg #[.int .i64 c1, .int .i64 c2, .int .i64 c3], .bool true]) ∧ Ext [] w w'))
    (hhd : hd = true) (hdn : dn = true) (hT : Hid (∀ (w : World), Calls Tryd.prog 14 #[.string tg] w fun e w' => e = .returned (.tuple #[.agg #[.int .i64 t1, .int .i64 t2, .int .i64 t3], .bool true]) ∧ Ext [] w w')) (heq : (decide (t1 = c1) && (decide (t2 = c2) && decide (t3 = c3))) = false) (hd1 : Hid (∀ (w : World), Calls Tryd.prog 35 #[.agg #[.int .i64 c1, .int .i64 c2, .int .i64 c3], .agg #[.int .i64 t1, .int .i64 t2, .int .i64 t3]] w fun e w' => e = .returned (.bool true) ∧ Ext [] w w')) (hd2 : Hid (∀ (w : World), Calls Tryd.prog 35 #[.agg #[.int .i64 y1, .int .i64 y2, .int .i64 y3], .agg #[.int .i64 t1, .int .i64 t2, .int .i64 t3]] w fun e w' => e = .returned (.bool false) ∧ Ext [] w w')) (w : World) (H : St [] w w [(false, .arr at' (strs ts))]) :
    Calls Tryd.prog 12 #[.agg #[.string cl, .string st, .string tg, .bool dn, .bool hd, .slice at' n cap]] w fun e w' => e = .returned (Vo.val ⟨98, ByteArray.empty, ByteArray.empty, false, false, ByteArray.empty⟩) ∧ Ext [] w w' := by
  subst hhd hdn
  by_cases e1 : t1 = c1
  · subst e1
    by_cases e2 : t2 = c2
    · subst e2
      have e3 : ¬ t3 = c3 := by simpa using heq
      clear heq
      have b3 : (t3 == c3) = false := by simp; omega
      have hc := H.cells; simp only [CellsOf, KnCells, knc, Nat.reduceAdd] at hc
      go_enter Tryd.func12, Tryd.ntmps12
      repeat' (first | (go_big_may; (first
    | go_skip
    | ((first
        | (go_at_call 15; refine Calls.mono (hL.out _ (H.pick (by repeat (first | exact Picks.nil _ | (apply Picks.wr; focus (repeat (first | exact Split.here _ _ | apply Split.there))) | (apply Picks.rd; focus (repeat (first | exact Split.here _ _ | apply Split.there))))))) ?_; rintro e w' ⟨rfl, H'⟩; replace H := H.of_ext H'; clear H')
        | (go_at_call 14; (with_reducible refine gate_args (l := [.string cl]) ?_); refine Calls.mono (hC.out _) ?_; rintro e w' ⟨rfl, H'⟩; replace H := H.of_ext H'; clear H')
        | (go_at_call 14; (with_reducible refine gate_args (l := [.string tg]) ?_); refine Calls.mono (hT.out _) ?_; rintro e w' ⟨rfl, H'⟩; replace H := H.of_ext H'; clear H')
        | (go_at_call 35; (with_reducible refine gate_args (l := [.agg #[.int .i64 t1, .int .i64 t2, .int .i64 c3], .agg #[.int .i64 t1, .int .i64 t2, .int .i64 t3]]) ?_); refine Calls.mono (hd1.out _) ?_; rintro e w' ⟨rfl, H'⟩; replace H := H.of_ext H'; clear H')
        | (go_at_call 35; (with_reducible refine gate_args (l := [.agg #[.int .i64 y1, .int .i64 y2, .int .i64 y3], .agg #[.int .i64 t1, .int .i64 t2, .int .i64 t3]]) ?_); refine Calls.mono (hd2.out _) ?_; rintro e w' ⟨rfl, H'⟩; replace H := H.of_ext H'; clear H')
        | (refine loud_ rfl ?_; refine wpList_plain rfl (fun K hK => ?_); (first | (refine op_box _ _ rfl H (fun b w' H1 => hK _ _ ?_)) | (refine op_alloc _ rfl (zero_of _ _ rfl) H (fun b w' H1 => hK _ _ ?_)) | (refine op_store _ _ _ rfl rfl rfl H (by repeat (first | exact Split.here _ _ | apply Split.there)) (by kernel_rfl) (by kernel_rfl) (by kernel_rfl) (fun w' H1 => hK _ _ ?_)) | (refine op_buildSlice_all _ _ _ rfl (by first | exact elem22 | exact elem39 | exact elem76 | exact elem154) (by kernel_rfl) (by kernel_rfl) (by kernel_rfl) H (fun b w' H1 => hK _ _ ?_))); clear hK K; replace H := H1; clear H1)); (try clear hc); (try simp only [nrm, splice, Value.cells, Nat.reduceAdd, Act.eval, Act.put] at H); have hc := H.cells; simp only [CellsOf, KnCells, knc, Nat.reduceAdd] at hc))) | go_values | go_skip | go_guarded | go_step | go_upon | go_back | dsimp only)
      exact bodyPost_ret (v := .agg #[.int .i64 98, .string ByteArray.empty, .string ByteArray.empty, .bool false, .bool false, .string ByteArray.empty]) (by simp [results, Tryd.results12, go_sem, hc, Act.put]; try rfl) rfl ⟨rfl, H.ext⟩
    · clear heq
      have b2 : (t2 == c2) = false := by simp; omega
      have hc := H.cells; simp only [CellsOf, KnCells, knc, Nat.reduceAdd] at hc
      go_enter Tryd.func12, Tryd.ntmps12
      repeat' (first | (go_big_may; (first
    | go_skip
    | ((first
        | (go_at_call 15; refine Calls.mono (hL.out _ (H.pick (by repeat (first | exact Picks.nil _ | (apply Picks.wr; focus (repeat (first | exact Split.here _ _ | apply Split.there))) | (apply Picks.rd; focus (repeat (first | exact Split.here _ _ | apply Split.there))))))) ?_; rintro e w' ⟨rfl, H'⟩; replace H := H.of_ext H'; clear H')
        | (go_at_call 14; (with_reducible refine gate_args (l := [.string cl]) ?_); refine Calls.mono (hC.out _) ?_; rintro e w' ⟨rfl, H'⟩; replace H := H.of_ext H'; clear H')
        | (go_at_call 14; (with_reducible refine gate_args (l := [.string tg]) ?_); refine Calls.mono (hT.out _) ?_; rintro e w' ⟨rfl, H'⟩; replace H := H.of_ext H'; clear H')
        | (go_at_call 35; (with_reducible refine gate_args (l := [.agg #[.int .i64 t1, .int .i64 c2, .int .i64 c3], .agg #[.int .i64 t1, .int .i64 t2, .int .i64 t3]]) ?_); refine Calls.mono (hd1.out _) ?_; rintro e w' ⟨rfl, H'⟩; replace H := H.of_ext H'; clear H')
        | (go_at_call 35; (with_reducible refine gate_args (l := [.agg #[.int .i64 y1, .int .i64 y2, .int .i64 y3], .agg #[.int .i64 t1, .int .i64 t2, .int .i64 t3]]) ?_); refine Calls.mono (hd2.out _) ?_; rintro e w' ⟨rfl, H'⟩; replace H := H.of_ext H'; clear H')
        | (refine loud_ rfl ?_; refine wpList_plain rfl (fun K hK => ?_); (first | (refine op_box _ _ rfl H (fun b w' H1 => hK _ _ ?_)) | (refine op_alloc _ rfl (zero_of _ _ rfl) H (fun b w' H1 => hK _ _ ?_)) | (refine op_store _ _ _ rfl rfl rfl H (by repeat (first | exact Split.here _ _ | apply Split.there)) (by kernel_rfl) (by kernel_rfl) (by kernel_rfl) (fun w' H1 => hK _ _ ?_)) | (refine op_buildSlice_all _ _ _ rfl (by first | exact elem22 | exact elem39 | exact elem76 | exact elem154) (by kernel_rfl) (by kernel_rfl) (by kernel_rfl) H (fun b w' H1 => hK _ _ ?_))); clear hK K; replace H := H1; clear H1)); (try clear hc); (try simp only [nrm, splice, Value.cells, Nat.reduceAdd, Act.eval, Act.put] at H); have hc := H.cells; simp only [CellsOf, KnCells, knc, Nat.reduceAdd] at hc))) | go_values | go_skip | go_guarded | go_step | go_upon | go_back | dsimp only)
      exact bodyPost_ret (v := .agg #[.int .i64 98, .string ByteArray.empty, .string ByteArray.empty, .bool false, .bool false, .string ByteArray.empty]) (by simp [results, Tryd.results12, go_sem, hc, Act.put]; try rfl) rfl ⟨rfl, H.ext⟩
  · clear heq
    have b1 : (t1 == c1) = false := by simp; omega
    have hc := H.cells; simp only [CellsOf, KnCells, knc, Nat.reduceAdd] at hc
    go_enter Tryd.func12, Tryd.ntmps12
    repeat' (first | (go_big_may; (first
    | go_skip
    | ((first
        | (go_at_call 15; refine Calls.mono (hL.out _ (H.pick (by repeat (first | exact Picks.nil _ | (apply Picks.wr; focus (repeat (first | exact Split.here _ _ | apply Split.there))) | (apply Picks.rd; focus (repeat (first | exact Split.here _ _ | apply Split.there))))))) ?_; rintro e w' ⟨rfl, H'⟩; replace H := H.of_ext H'; clear H')
        | (go_at_call 14; (with_reducible refine gate_args (l := [.string cl]) ?_); refine Calls.mono (hC.out _) ?_; rintro e w' ⟨rfl, H'⟩; replace H := H.of_ext H'; clear H')
        | (go_at_call 14; (with_reducible refine gate_args (l := [.string tg]) ?_); refine Calls.mono (hT.out _) ?_; rintro e w' ⟨rfl, H'⟩; replace H := H.of_ext H'; clear H')
        | (go_at_call 35; (with_reducible refine gate_args (l := [.agg #[.int .i64 c1, .int .i64 c2, .int .i64 c3], .agg #[.int .i64 t1, .int .i64 t2, .int .i64 t3]]) ?_); refine Calls.mono (hd1.out _) ?_; rintro e w' ⟨rfl, H'⟩; replace H := H.of_ext H'; clear H')
        | (go_at_call 35; (with_reducible refine gate_args (l := [.agg #[.int .i64 y1, .int .i64 y2, .int .i64 y3], .agg #[.int .i64 t1, .int .i64 t2, .int .i64 t3]]) ?_); refine Calls.mono (hd2.out _) ?_; rintro e w' ⟨rfl, H'⟩; replace H := H.of_ext H'; clear H')
        | (refine loud_ rfl ?_; refine wpList_plain rfl (fun K hK => ?_); (first | (refine op_box _ _ rfl H (fun b w' H1 => hK _ _ ?_)) | (refine op_alloc _ rfl (zero_of _ _ rfl) H (fun b w' H1 => hK _ _ ?_)) | (refine op_store _ _ _ rfl rfl rfl H (by repeat (first | exact Split.here _ _ | apply Split.there)) (by kernel_rfl) (by kernel_rfl) (by kernel_rfl) (fun w' H1 => hK _ _ ?_)) | (refine op_buildSlice_all _ _ _ rfl (by first | exact elem22 | exact elem39 | exact elem76 | exact elem154) (by kernel_rfl) (by kernel_rfl) (by kernel_rfl) H (fun b w' H1 => hK _ _ ?_))); clear hK K; replace H := H1; clear H1)); (try clear hc); (try simp only [nrm, splice, Value.cells, Nat.reduceAdd, Act.eval, Act.put] at H); have hc := H.cells; simp only [CellsOf, KnCells, knc, Nat.reduceAdd] at hc))) | go_values | go_skip | go_guarded | go_step | go_upon | go_back | dsimp only)
    exact bodyPost_ret (v := .agg #[.int .i64 98, .string ByteArray.empty, .string ByteArray.empty, .bool false, .bool false, .string ByteArray.empty]) (by simp [results, Tryd.results12, go_sem, hc, Act.put]; try rfl) rfl ⟨rfl, H.ext⟩
set_option maxHeartbeats 2000000 in
set_option maxRecDepth 10000 in
theorem sDec_b23 (cl st tg : ByteArray) (dn hd : Bool) (at' : Option Addr) (n cap : Nat) (ts : List ByteArray) (c1 c2 c3 : Int) (y1 y2 y3 : Int) (t1 t2 t3 : Int) 
    (hL : Hid (∀ (w : World), St [] w w [(false, .arr at' (strs ts))] → Calls Tryd.prog 15 #[.slice at' n cap] w fun e w' => e = .returned (.tuple #[.agg #[.int .i64 y1, .int .i64 y2, .int .i64 y3], .bool true]) ∧ Ext [] w w'))
    (hC : Hid (∀ (w : World), Calls Tryd.prog 14 #[.string cl] w fun e w' => e = .returned (.tuple #[.agg #[.int .i64 c1, .int .i64 c2, .int .i64 c3], .bool true]) ∧ Ext [] w w'))
    (hhd : hd = true) (hdn : dn = true) (hT : Hid (∀ (w : World), Calls Tryd.prog 14 #[.string tg] w fun e w' => e = .returned (.tuple #[.agg #[.int .i64 t1, .int .i64 t2, .int .i64 t3], .bool true]) ∧ Ext [] w w')) (heq : (decide (t1 = c1) && (decide (t2 = c2) && decide (t3 = c3))) = false) (hd1 : Hid (∀ (w : World), Calls Tryd.prog 35 #[.agg #[.int .i64 c1, .int .i64 c2, .int .i64 c3], .agg #[.int .i64 t1, .int .i64 t2, .int .i64 t3]] w fun e w' => e = .returned (.bool true) ∧ Ext [] w w')) (hd2 : Hid (∀ (w : World), Calls Tryd.prog 35 #[.agg #[.int .i64 y1, .int .i64 y2, .int .i64 y3], .agg #[.int .i64 t1, .int .i64 t2, .int .i64 t3]] w fun e w' => e = .returned (.bool true) ∧ Ext [] w w')) (hok : Hid ((⟨t1, t2, 0⟩ : Vr).Ok)) (w : World) (H : St [] w w [(false, .arr at' (strs ts))]) :
    Calls Tryd.prog 12 #[.agg #[.string cl, .string st, .string tg, .bool dn, .bool hd, .slice at' n cap]] w fun e w' => e = .returned (Vo.val ⟨0, (vstr ⟨t1, t2, 0⟩), ByteArray.empty, false, false, ByteArray.empty⟩) ∧ Ext [] w w' := by
  subst hhd hdn
  by_cases e1 : t1 = c1
  · subst e1
    by_cases e2 : t2 = c2
    · subst e2
      have e3 : ¬ t3 = c3 := by simpa using heq
      clear heq
      have b3 : (t3 == c3) = false := by simp; omega
      have hc := H.cells; simp only [CellsOf, KnCells, knc, Nat.reduceAdd] at hc
      go_enter Tryd.func12, Tryd.ntmps12
      repeat' (first | (go_big_may; (first
    | go_skip
    | ((first
        | (go_at_call 15; refine Calls.mono (hL.out _ (H.pick (by repeat (first | exact Picks.nil _ | (apply Picks.wr; focus (repeat (first | exact Split.here _ _ | apply Split.there))) | (apply Picks.rd; focus (repeat (first | exact Split.here _ _ | apply Split.there))))))) ?_; rintro e w' ⟨rfl, H'⟩; replace H := H.of_ext H'; clear H')
        | (go_at_call 14; (with_reducible refine gate_args (l := [.string cl]) ?_); refine Calls.mono (hC.out _) ?_; rintro e w' ⟨rfl, H'⟩; replace H := H.of_ext H'; clear H')
        | (go_at_call 14; (with_reducible refine gate_args (l := [.string tg]) ?_); refine Calls.mono (hT.out _) ?_; rintro e w' ⟨rfl, H'⟩; replace H := H.of_ext H'; clear H')
        | (go_at_call 35; (with_reducible refine gate_args (l := [.agg #[.int .i64 t1, .int .i64 t2, .int .i64 c3], .agg #[.int .i64 t1, .int .i64 t2, .int .i64 t3]]) ?_); refine Calls.mono (hd1.out _) ?_; rintro e w' ⟨rfl, H'⟩; replace H := H.of_ext H'; clear H')
        | (go_at_call 35; (with_reducible refine gate_args (l := [.agg #[.int .i64 y1, .int .i64 y2, .int .i64 y3], .agg #[.int .i64 t1, .int .i64 t2, .int .i64 t3]]) ?_); refine Calls.mono (hd2.out _) ?_; rintro e w' ⟨rfl, H'⟩; replace H := H.of_ext H'; clear H')
        | (go_at_call 16; refine Calls.mono (verBase_at t1 t2 t3 _) ?_; rintro e w' ⟨rfl, H'⟩; replace H := H.of_ext H'; clear H')
        | (go_at_call 18; refine Calls.mono (verText_calls ⟨t1, t2, 0⟩ hok.out _) ?_; rintro e w' ⟨rfl, H'⟩; replace H := H.of_ext H'; clear H')
        | (refine loud_ rfl ?_; refine wpList_plain rfl (fun K hK => ?_); (first | (refine op_box _ _ rfl H (fun b w' H1 => hK _ _ ?_)) | (refine op_alloc _ rfl (zero_of _ _ rfl) H (fun b w' H1 => hK _ _ ?_)) | (refine op_store _ _ _ rfl rfl rfl H (by repeat (first | exact Split.here _ _ | apply Split.there)) (by kernel_rfl) (by kernel_rfl) (by kernel_rfl) (fun w' H1 => hK _ _ ?_)) | (refine op_buildSlice_all _ _ _ rfl (by first | exact elem22 | exact elem39 | exact elem76 | exact elem154) (by kernel_rfl) (by kernel_rfl) (by kernel_rfl) H (fun b w' H1 => hK _ _ ?_))); clear hK K; replace H := H1; clear H1)); (try clear hc); (try simp only [nrm, splice, Value.cells, Nat.reduceAdd, Act.eval, Act.put] at H); have hc := H.cells; simp only [CellsOf, KnCells, knc, Nat.reduceAdd] at hc))) | go_values | go_skip | go_guarded | go_step | go_upon | go_back | dsimp only)
      exact bodyPost_ret (v := .agg #[.int .i64 0, .string (vstr ⟨t1, t2, 0⟩), .string ByteArray.empty, .bool false, .bool false, .string ByteArray.empty]) (by simp [results, Tryd.results12, go_sem, hc, Act.put]; try rfl) rfl ⟨rfl, H.ext⟩
    · clear heq
      have b2 : (t2 == c2) = false := by simp; omega
      have hc := H.cells; simp only [CellsOf, KnCells, knc, Nat.reduceAdd] at hc
      go_enter Tryd.func12, Tryd.ntmps12
      repeat' (first | (go_big_may; (first
    | go_skip
    | ((first
        | (go_at_call 15; refine Calls.mono (hL.out _ (H.pick (by repeat (first | exact Picks.nil _ | (apply Picks.wr; focus (repeat (first | exact Split.here _ _ | apply Split.there))) | (apply Picks.rd; focus (repeat (first | exact Split.here _ _ | apply Split.there))))))) ?_; rintro e w' ⟨rfl, H'⟩; replace H := H.of_ext H'; clear H')
        | (go_at_call 14; (with_reducible refine gate_args (l := [.string cl]) ?_); refine Calls.mono (hC.out _) ?_; rintro e w' ⟨rfl, H'⟩; replace H := H.of_ext H'; clear H')
        | (go_at_call 14; (with_reducible refine gate_args (l := [.string tg]) ?_); refine Calls.mono (hT.out _) ?_; rintro e w' ⟨rfl, H'⟩; replace H := H.of_ext H'; clear H')
        | (go_at_call 35; (with_reducible refine gate_args (l := [.agg #[.int .i64 t1, .int .i64 c2, .int .i64 c3], .agg #[.int .i64 t1, .int .i64 t2, .int .i64 t3]]) ?_); refine Calls.mono (hd1.out _) ?_; rintro e w' ⟨rfl, H'⟩; replace H := H.of_ext H'; clear H')
        | (go_at_call 35; (with_reducible refine gate_args (l := [.agg #[.int .i64 y1, .int .i64 y2, .int .i64 y3], .agg #[.int .i64 t1, .int .i64 t2, .int .i64 t3]]) ?_); refine Calls.mono (hd2.out _) ?_; rintro e w' ⟨rfl, H'⟩; replace H := H.of_ext H'; clear H')
        | (go_at_call 16; refine Calls.mono (verBase_at t1 t2 t3 _) ?_; rintro e w' ⟨rfl, H'⟩; replace H := H.of_ext H'; clear H')
        | (go_at_call 18; refine Calls.mono (verText_calls ⟨t1, t2, 0⟩ hok.out _) ?_; rintro e w' ⟨rfl, H'⟩; replace H := H.of_ext H'; clear H')
        | (refine loud_ rfl ?_; refine wpList_plain rfl (fun K hK => ?_); (first | (refine op_box _ _ rfl H (fun b w' H1 => hK _ _ ?_)) | (refine op_alloc _ rfl (zero_of _ _ rfl) H (fun b w' H1 => hK _ _ ?_)) | (refine op_store _ _ _ rfl rfl rfl H (by repeat (first | exact Split.here _ _ | apply Split.there)) (by kernel_rfl) (by kernel_rfl) (by kernel_rfl) (fun w' H1 => hK _ _ ?_)) | (refine op_buildSlice_all _ _ _ rfl (by first | exact elem22 | exact elem39 | exact elem76 | exact elem154) (by kernel_rfl) (by kernel_rfl) (by kernel_rfl) H (fun b w' H1 => hK _ _ ?_))); clear hK K; replace H := H1; clear H1)); (try clear hc); (try simp only [nrm, splice, Value.cells, Nat.reduceAdd, Act.eval, Act.put] at H); have hc := H.cells; simp only [CellsOf, KnCells, knc, Nat.reduceAdd] at hc))) | go_values | go_skip | go_guarded | go_step | go_upon | go_back | dsimp only)
      exact bodyPost_ret (v := .agg #[.int .i64 0, .string (vstr ⟨t1, t2, 0⟩), .string ByteArray.empty, .bool false, .bool false, .string ByteArray.empty]) (by simp [results, Tryd.results12, go_sem, hc, Act.put]; try rfl) rfl ⟨rfl, H.ext⟩
  · clear heq
    have b1 : (t1 == c1) = false := by simp; omega
    have hc := H.cells; simp only [CellsOf, KnCells, knc, Nat.reduceAdd] at hc
    go_enter Tryd.func12, Tryd.ntmps12
    repeat' (first | (go_big_may; (first
    | go_skip
    | ((first
        | (go_at_call 15; refine Calls.mono (hL.out _ (H.pick (by repeat (first | exact Picks.nil _ | (apply Picks.wr; focus (repeat (first | exact Split.here _ _ | apply Split.there))) | (apply Picks.rd; focus (repeat (first | exact Split.here _ _ | apply Split.there))))))) ?_; rintro e w' ⟨rfl, H'⟩; replace H := H.of_ext H'; clear H')
        | (go_at_call 14; (with_reducible refine gate_args (l := [.string cl]) ?_); refine Calls.mono (hC.out _) ?_; rintro e w' ⟨rfl, H'⟩; replace H := H.of_ext H'; clear H')
        | (go_at_call 14; (with_reducible refine gate_args (l := [.string tg]) ?_); refine Calls.mono (hT.out _) ?_; rintro e w' ⟨rfl, H'⟩; replace H := H.of_ext H'; clear H')
        | (go_at_call 35; (with_reducible refine gate_args (l := [.agg #[.int .i64 c1, .int .i64 c2, .int .i64 c3], .agg #[.int .i64 t1, .int .i64 t2, .int .i64 t3]]) ?_); refine Calls.mono (hd1.out _) ?_; rintro e w' ⟨rfl, H'⟩; replace H := H.of_ext H'; clear H')
        | (go_at_call 35; (with_reducible refine gate_args (l := [.agg #[.int .i64 y1, .int .i64 y2, .int .i64 y3], .agg #[.int .i64 t1, .int .i64 t2, .int .i64 t3]]) ?_); refine Calls.mono (hd2.out _) ?_; rintro e w' ⟨rfl, H'⟩; replace H := H.of_ext H'; clear H')
        | (go_at_call 16; refine Calls.mono (verBase_at t1 t2 t3 _) ?_; rintro e w' ⟨rfl, H'⟩; replace H := H.of_ext H'; clear H')
        | (go_at_call 18; refine Calls.mono (verText_calls ⟨t1, t2, 0⟩ hok.out _) ?_; rintro e w' ⟨rfl, H'⟩; replace H := H.of_ext H'; clear H')
        | (refine loud_ rfl ?_; refine wpList_plain rfl (fun K hK => ?_); (first | (refine op_box _ _ rfl H (fun b w' H1 => hK _ _ ?_)) | (refine op_alloc _ rfl (zero_of _ _ rfl) H (fun b w' H1 => hK _ _ ?_)) | (refine op_store _ _ _ rfl rfl rfl H (by repeat (first | exact Split.here _ _ | apply Split.there)) (by kernel_rfl) (by kernel_rfl) (by kernel_rfl) (fun w' H1 => hK _ _ ?_)) | (refine op_buildSlice_all _ _ _ rfl (by first | exact elem22 | exact elem39 | exact elem76 | exact elem154) (by kernel_rfl) (by kernel_rfl) (by kernel_rfl) H (fun b w' H1 => hK _ _ ?_))); clear hK K; replace H := H1; clear H1)); (try clear hc); (try simp only [nrm, splice, Value.cells, Nat.reduceAdd, Act.eval, Act.put] at H); have hc := H.cells; simp only [CellsOf, KnCells, knc, Nat.reduceAdd] at hc))) | go_values | go_skip | go_guarded | go_step | go_upon | go_back | dsimp only)
    exact bodyPost_ret (v := .agg #[.int .i64 0, .string (vstr ⟨t1, t2, 0⟩), .string ByteArray.empty, .bool false, .bool false, .string ByteArray.empty]) (by simp [results, Tryd.results12, go_sem, hc, Act.put]; try rfl) rfl ⟨rfl, H.ext⟩
end Go.Proofs.YtdcijhdjddiboaaDoor
