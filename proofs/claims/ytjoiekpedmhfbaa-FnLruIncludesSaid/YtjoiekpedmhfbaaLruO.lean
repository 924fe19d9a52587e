import Derived.Test.YtjoiekpedmhfbaaLruN
import Derived.Stop.Asserts
-- MORE
-- SUB2
namespace Go.Proofs.Ytjoiekpedmhfbaa
set_option linter.unusedVariables false
set_option linter.unusedSimpArgs false
set_option linter.unnecessarySimpa false
open Go.RowKit Go.V

abbrev ik (k : Int) : Value := .iface 3 (.int .i64 k)
abbrev ntry (k v : Int) : Obj := .cells #[ik k, ik v] 68 (0, 0)
abbrev gobj (M : Int) (ev : Value) (lb mb : Nat) : Obj := .cells #[.int .i64 M, ev, pt lb, .map (some mb)] 52 (0, 0)
theorem keyI : KeyAs Try.prog 20 ik := by
  obtain ⟨j, hj⟩ := info_ex Try.underlying3
  have hc : (Try.prog.info? 3).map (·.comparable) = some true := by kernel_rfl
  rw [hj] at hc
  exact keyAs_iface Try.underlying20 Try.underlying3 hj (by simpa using hc)
theorem zeroE (w : World) : (zeroValue 64).run Try.prog w = .ok (.pointer none) w := by kernel_rfl
theorem mapNil (mb : Nat) (w : World) : (binOp .eql 50 (.map (some mb)) (.map none)).run Try.prog w = .ok (.bool false) w := by kernel_rfl
theorem assertE (nb : Nat) (w : World) : (Instr.typeAssert (ent nb) 20 69 false).run Try.prog w = .ok (pt nb) w := by kernel_rfl
set_option maxRecDepth 8000 in
theorem gGet_no (gb lb mb clock : Nat) (M : Int) (ev : Value) (es : Array MapEntry) (l : AL) (k : Int) (hl : Hid (KV1 ik es l)) (hk : Hid (aget l k = none)) (w : World) (H : St [] w w [(false, .is gb (gobj M ev lb mb)), (false, .is mb (.map es clock))]) :
    Calls Try.prog 21 #[pt gb, ik k] w fun e w' => e = .returned (.tuple #[.nilIface, .bool false]) ∧ Ext [] w w' := by
  have hmn := mapNil mb
  have hc := H.cells; simp only [CellsOf, KnCells, knc, Nat.reduceAdd] at hc
  go_enter Try.func21, Try.ntmps21
  repeat' (first | (go_big_may; (first
    | go_skip
    | (refine wpList_plain rfl (fun K hK => ?_); refine op_look _ _ _ _ _ rfl Try.underlying50 keyI zeroE rfl rfl (H.obj (by repeat (first | exact Split.here _ _ | apply Split.there))) hl.out hk.out (hK _ _ ?_); clear hK K)
    | ((first
        | (refine loud_ rfl ?_; refine wpList_plain rfl (fun K hK => ?_); (first | (refine op_box _ _ rfl H (fun b w' H1 => hK _ _ ?_)) | (refine op_alloc _ rfl (zero_of _ _ rfl) H (fun b w' H1 => hK _ _ ?_)) | (refine op_store _ _ _ rfl rfl rfl H (by repeat (first | exact Split.here _ _ | apply Split.there)) (by kernel_rfl) (by kernel_rfl) (by kernel_rfl) (fun w' H1 => hK _ _ ?_)) | (refine op_buildSlice_all _ _ _ rfl (by first | exact elem22 | exact elem25 | exact elem31 | exact elem35) (by kernel_rfl) (by kernel_rfl) (by kernel_rfl) H (fun b w' H1 => hK _ _ ?_))); clear hK K; replace H := H1; clear H1)); (try clear hc); (try simp only [nrm, splice, Value.cells, Nat.reduceAdd, Act.eval, Act.put] at H); have hc := H.cells; simp only [CellsOf, KnCells, knc, Nat.reduceAdd] at hc))) | go_values | go_skip | go_guarded | go_step | go_upon | go_back | dsimp only)
  go_ret2
  exact ⟨rfl, H.ext⟩
set_option maxHeartbeats 4000000 in
set_option maxRecDepth 10000 in
theorem gGet_A (gb mb nb clock lb f e : Nat) (n : Int) (fl fv : Value) (M : Int) (ev : Value) (es : Array MapEntry) (l : AL) (k k' v : Int) (hl : Hid (KV1 ik es l)) (hk : Hid (aget l k = some (pt e))) (he : ¬ e = lb) (hfe : ¬ f = e) (S : List Nat) (w : World) (H : St S w w [(true, .is gb (gobj M ev lb mb)), (true, .is mb (.map es clock)), (true, .is nb (ntry k' v)), (true, .is lb (root (pt f) (pt e) n)), (true, .is f (elem (pt e) (pt lb) fl fv)), (true, .is e (elem (pt lb) (pt f) (pt lb) (ent nb)))]) :
    Calls Try.prog 21 #[pt gb, ik k] w fun y w' => y = .returned (.tuple #[ik v, .bool true]) ∧ St S w w' [(true, .is gb (gobj M ev lb mb)), (true, .is mb (.map es clock)), (true, .is nb (ntry k' v)), (true, .is lb (root (pt e) (pt f) n)), (true, .is f (elem (pt lb) (pt e) fl fv)), (true, .is e (elem (pt f) (pt lb) (pt lb) (ent nb)))] := by
  have hmn := mapNil mb
  have hta := assertE nb
  have hc := H.cells; simp only [CellsOf, KnCells, knc, Nat.reduceAdd] at hc
  go_enter Try.func21, Try.ntmps21
  repeat' (first | (go_big_may; (first
    | go_skip
    | (refine wpList_plain rfl (fun K hK => ?_); refine op_look _ _ _ _ _ rfl Try.underlying50 keyI zeroE rfl rfl (H.obj (by repeat (first | exact Split.here _ _ | apply Split.there))) hl.out hk.out (hK _ _ ?_); clear hK K)
    | ((first
        | (go_at_call 32; refine Calls.mono (listFrontA _ _ _ _ _ _ _ he hfe _ _ (H.pick (by repeat (first | exact Picks.nil _ | (apply Picks.wr; focus (repeat (first | exact Split.here _ _ | apply Split.there))) | (apply Picks.rd; focus (repeat (first | exact Split.here _ _ | apply Split.there))))))) ?_; rintro e w' ⟨rfl, H'⟩; replace H := H.merge (by first | exact Strikes.nil _ | (repeat (first | exact Strikes.nil _ | (apply Strikes.cons; focus (repeat (first | exact Split.here _ _ | apply Split.there)))))) H' rfl; clear H')
        | (refine loud_ rfl ?_; refine wpList_plain rfl (fun K hK => ?_); (first | (refine op_box _ _ rfl H (fun b w' H1 => hK _ _ ?_)) | (refine op_alloc _ rfl (zero_of _ _ rfl) H (fun b w' H1 => hK _ _ ?_)) | (refine op_store _ _ _ rfl rfl rfl H (by repeat (first | exact Split.here _ _ | apply Split.there)) (by kernel_rfl) (by kernel_rfl) (by kernel_rfl) (fun w' H1 => hK _ _ ?_)) | (refine op_buildSlice_all _ _ _ rfl (by first | exact elem22 | exact elem25 | exact elem31 | exact elem35) (by kernel_rfl) (by kernel_rfl) (by kernel_rfl) H (fun b w' H1 => hK _ _ ?_))); clear hK K; replace H := H1; clear H1)); (try clear hc); (try simp only [nrm, splice, Value.cells, Nat.reduceAdd, Act.eval, Act.put] at H); have hc := H.cells; simp only [CellsOf, KnCells, knc, Nat.reduceAdd] at hc))) | go_values | go_skip | go_guarded | go_step | go_upon | go_back | dsimp only)
  go_ret2
  exact ⟨rfl, H.sel (by repeat (first | exact Sel.nil _ | (apply Sel.cons; focus (repeat (first | exact Split.here _ _ | apply Split.there)))))⟩
set_option maxHeartbeats 4000000 in
set_option maxRecDepth 10000 in
theorem gUpd_A (gb mb nb clock lb f e : Nat) (n : Int) (fl fv : Value) (M : Int) (ev : Value) (es : Array MapEntry) (l : AL) (k k' v u : Int) (hl : Hid (KV1 ik es l)) (hk : Hid (aget l k = some (pt e))) (he : ¬ e = lb) (hfe : ¬ f = e) (S : List Nat) (w : World) (H : St S w w [(true, .is gb (gobj M ev lb mb)), (true, .is mb (.map es clock)), (true, .is nb (ntry k' v)), (true, .is lb (root (pt f) (pt e) n)), (true, .is f (elem (pt e) (pt lb) fl fv)), (true, .is e (elem (pt lb) (pt f) (pt lb) (ent nb)))]) :
    Calls Try.prog 20 #[pt gb, ik k, ik u] w fun y w' => y = .returned (.tuple #[]) ∧ St S w w' [(true, .is gb (gobj M ev lb mb)), (true, .is mb (.map es clock)), (true, .is nb (ntry k' u)), (true, .is lb (root (pt e) (pt f) n)), (true, .is f (elem (pt lb) (pt e) fl fv)), (true, .is e (elem (pt f) (pt lb) (pt lb) (ent nb)))] := by
  have hmn := mapNil mb
  have hta := assertE nb
  have hc := H.cells; simp only [CellsOf, KnCells, knc, Nat.reduceAdd] at hc
  go_enter Try.func20, Try.ntmps20
  repeat' (first | (go_big_may; (first
    | go_skip
    | (refine wpList_plain rfl (fun K hK => ?_); refine op_look _ _ _ _ _ rfl Try.underlying50 keyI zeroE rfl rfl (H.obj (by repeat (first | exact Split.here _ _ | apply Split.there))) hl.out hk.out (hK _ _ ?_); clear hK K)
    | ((first
        | (go_at_call 32; refine Calls.mono (listFrontA _ _ _ _ _ _ _ he hfe _ _ (H.pick (by repeat (first | exact Picks.nil _ | (apply Picks.wr; focus (repeat (first | exact Split.here _ _ | apply Split.there))) | (apply Picks.rd; focus (repeat (first | exact Split.here _ _ | apply Split.there))))))) ?_; rintro e w' ⟨rfl, H'⟩; replace H := H.merge (by first | exact Strikes.nil _ | (repeat (first | exact Strikes.nil _ | (apply Strikes.cons; focus (repeat (first | exact Split.here _ _ | apply Split.there)))))) H' rfl; clear H')
        | (refine loud_ rfl ?_; refine wpList_plain rfl (fun K hK => ?_); (first | (refine op_box _ _ rfl H (fun b w' H1 => hK _ _ ?_)) | (refine op_alloc _ rfl (zero_of _ _ rfl) H (fun b w' H1 => hK _ _ ?_)) | (refine op_store _ _ _ rfl rfl rfl H (by repeat (first | exact Split.here _ _ | apply Split.there)) (by kernel_rfl) (by kernel_rfl) (by kernel_rfl) (fun w' H1 => hK _ _ ?_)) | (refine op_buildSlice_all _ _ _ rfl (by first | exact elem22 | exact elem25 | exact elem31 | exact elem35) (by kernel_rfl) (by kernel_rfl) (by kernel_rfl) H (fun b w' H1 => hK _ _ ?_))); clear hK K; replace H := H1; clear H1)); (try clear hc); (try simp only [nrm, splice, Value.cells, Nat.reduceAdd, Act.eval, Act.put] at H); have hc := H.cells; simp only [CellsOf, KnCells, knc, Nat.reduceAdd] at hc))) | go_values | go_skip | go_guarded | go_step | go_upon | go_back | dsimp only)
  (try simp only [Exit.inBlock, Exit.then])
  refine bodyPost_ret_by (results_none rfl _ _ _) rfl ?_
  exact ⟨rfl, H.sel (by repeat (first | exact Sel.nil _ | (apply Sel.cons; focus (repeat (first | exact Split.here _ _ | apply Split.there)))))⟩
set_option maxHeartbeats 4000000 in
set_option maxRecDepth 10000 in
theorem gGet_B (gb mb nb clock lb f e x : Nat) (n : Int) (fl fv rp xn xl xv : Value) (M : Int) (ev : Value) (es : Array MapEntry) (l : AL) (k k' v : Int) (hl : Hid (KV1 ik es l)) (hk : Hid (aget l k = some (pt e))) (he : ¬ e = lb) (hfe : ¬ f = e) (S : List Nat) (w : World) (H : St S w w [(true, .is gb (gobj M ev lb mb)), (true, .is mb (.map es clock)), (true, .is nb (ntry k' v)), (true, .is lb (root (pt f) rp n)), (true, .is f (elem (pt e) (pt lb) fl fv)), (true, .is e (elem (pt x) (pt f) (pt lb) (ent nb))), (true, .is x (elem xn (pt e) xl xv))]) :
    Calls Try.prog 21 #[pt gb, ik k] w fun y w' => y = .returned (.tuple #[ik v, .bool true]) ∧ St S w w' [(true, .is gb (gobj M ev lb mb)), (true, .is mb (.map es clock)), (true, .is nb (ntry k' v)), (true, .is lb (root (pt e) rp n)), (true, .is f (elem (pt x) (pt e) fl fv)), (true, .is e (elem (pt f) (pt lb) (pt lb) (ent nb))), (true, .is x (elem xn (pt f) xl xv))] := by
  have hmn := mapNil mb
  have hta := assertE nb
  have hc := H.cells; simp only [CellsOf, KnCells, knc, Nat.reduceAdd] at hc
  go_enter Try.func21, Try.ntmps21
  repeat' (first | (go_big_may; (first
    | go_skip
    | (refine wpList_plain rfl (fun K hK => ?_); refine op_look _ _ _ _ _ rfl Try.underlying50 keyI zeroE rfl rfl (H.obj (by repeat (first | exact Split.here _ _ | apply Split.there))) hl.out hk.out (hK _ _ ?_); clear hK K)
    | ((first
        | (go_at_call 32; refine Calls.mono (listFrontB _ _ _ _ _ _ _ _ _ _ _ _ he hfe _ _ (H.pick (by repeat (first | exact Picks.nil _ | (apply Picks.wr; focus (repeat (first | exact Split.here _ _ | apply Split.there))) | (apply Picks.rd; focus (repeat (first | exact Split.here _ _ | apply Split.there))))))) ?_; rintro e w' ⟨rfl, H'⟩; replace H := H.merge (by first | exact Strikes.nil _ | (repeat (first | exact Strikes.nil _ | (apply Strikes.cons; focus (repeat (first | exact Split.here _ _ | apply Split.there)))))) H' rfl; clear H')
        | (refine loud_ rfl ?_; refine wpList_plain rfl (fun K hK => ?_); (first | (refine op_box _ _ rfl H (fun b w' H1 => hK _ _ ?_)) | (refine op_alloc _ rfl (zero_of _ _ rfl) H (fun b w' H1 => hK _ _ ?_)) | (refine op_store _ _ _ rfl rfl rfl H (by repeat (first | exact Split.here _ _ | apply Split.there)) (by kernel_rfl) (by kernel_rfl) (by kernel_rfl) (fun w' H1 => hK _ _ ?_)) | (refine op_buildSlice_all _ _ _ rfl (by first | exact elem22 | exact elem25 | exact elem31 | exact elem35) (by kernel_rfl) (by kernel_rfl) (by kernel_rfl) H (fun b w' H1 => hK _ _ ?_))); clear hK K; replace H := H1; clear H1)); (try clear hc); (try simp only [nrm, splice, Value.cells, Nat.reduceAdd, Act.eval, Act.put] at H); have hc := H.cells; simp only [CellsOf, KnCells, knc, Nat.reduceAdd] at hc))) | go_values | go_skip | go_guarded | go_step | go_upon | go_back | dsimp only)
  go_ret2
  exact ⟨rfl, H.sel (by repeat (first | exact Sel.nil _ | (apply Sel.cons; focus (repeat (first | exact Split.here _ _ | apply Split.there)))))⟩
set_option maxHeartbeats 4000000 in
set_option maxRecDepth 10000 in
theorem gUpd_B (gb mb nb clock lb f e x : Nat) (n : Int) (fl fv rp xn xl xv : Value) (M : Int) (ev : Value) (es : Array MapEntry) (l : AL) (k k' v u : Int) (hl : Hid (KV1 ik es l)) (hk : Hid (aget l k = some (pt e))) (he : ¬ e = lb) (hfe : ¬ f = e) (S : List Nat) (w : World) (H : St S w w [(true, .is gb (gobj M ev lb mb)), (true, .is mb (.map es clock)), (true, .is nb (ntry k' v)), (true, .is lb (root (pt f) rp n)), (true, .is f (elem (pt e) (pt lb) fl fv)), (true, .is e (elem (pt x) (pt f) (pt lb) (ent nb))), (true, .is x (elem xn (pt e) xl xv))]) :
    Calls Try.prog 20 #[pt gb, ik k, ik u] w fun y w' => y = .returned (.tuple #[]) ∧ St S w w' [(true, .is gb (gobj M ev lb mb)), (true, .is mb (.map es clock)), (true, .is nb (ntry k' u)), (true, .is lb (root (pt e) rp n)), (true, .is f (elem (pt x) (pt e) fl fv)), (true, .is e (elem (pt f) (pt lb) (pt lb) (ent nb))), (true, .is x (elem xn (pt f) xl xv))] := by
  have hmn := mapNil mb
  have hta := assertE nb
  have hc := H.cells; simp only [CellsOf, KnCells, knc, Nat.reduceAdd] at hc
  go_enter Try.func20, Try.ntmps20
  repeat' (first | (go_big_may; (first
    | go_skip
    | (refine wpList_plain rfl (fun K hK => ?_); refine op_look _ _ _ _ _ rfl Try.underlying50 keyI zeroE rfl rfl (H.obj (by repeat (first | exact Split.here _ _ | apply Split.there))) hl.out hk.out (hK _ _ ?_); clear hK K)
    | ((first
        | (go_at_call 32; refine Calls.mono (listFrontB _ _ _ _ _ _ _ _ _ _ _ _ he hfe _ _ (H.pick (by repeat (first | exact Picks.nil _ | (apply Picks.wr; focus (repeat (first | exact Split.here _ _ | apply Split.there))) | (apply Picks.rd; focus (repeat (first | exact Split.here _ _ | apply Split.there))))))) ?_; rintro e w' ⟨rfl, H'⟩; replace H := H.merge (by first | exact Strikes.nil _ | (repeat (first | exact Strikes.nil _ | (apply Strikes.cons; focus (repeat (first | exact Split.here _ _ | apply Split.there)))))) H' rfl; clear H')
        | (refine loud_ rfl ?_; refine wpList_plain rfl (fun K hK => ?_); (first | (refine op_box _ _ rfl H (fun b w' H1 => hK _ _ ?_)) | (refine op_alloc _ rfl (zero_of _ _ rfl) H (fun b w' H1 => hK _ _ ?_)) | (refine op_store _ _ _ rfl rfl rfl H (by repeat (first | exact Split.here _ _ | apply Split.there)) (by kernel_rfl) (by kernel_rfl) (by kernel_rfl) (fun w' H1 => hK _ _ ?_)) | (refine op_buildSlice_all _ _ _ rfl (by first | exact elem22 | exact elem25 | exact elem31 | exact elem35) (by kernel_rfl) (by kernel_rfl) (by kernel_rfl) H (fun b w' H1 => hK _ _ ?_))); clear hK K; replace H := H1; clear H1)); (try clear hc); (try simp only [nrm, splice, Value.cells, Nat.reduceAdd, Act.eval, Act.put] at H); have hc := H.cells; simp only [CellsOf, KnCells, knc, Nat.reduceAdd] at hc))) | go_values | go_skip | go_guarded | go_step | go_upon | go_back | dsimp only)
  (try simp only [Exit.inBlock, Exit.then])
  refine bodyPost_ret_by (results_none rfl _ _ _) rfl ?_
  exact ⟨rfl, H.sel (by repeat (first | exact Sel.nil _ | (apply Sel.cons; focus (repeat (first | exact Split.here _ _ | apply Split.there)))))⟩
set_option maxHeartbeats 4000000 in
set_option maxRecDepth 10000 in
theorem gGet_C (gb mb nb clock lb f p e : Nat) (n : Int) (fl fv fn pp pl pv : Value) (M : Int) (ev : Value) (es : Array MapEntry) (l : AL) (k k' v : Int) (hl : Hid (KV1 ik es l)) (hk : Hid (aget l k = some (pt e))) (he : ¬ e = lb) (hfe : ¬ f = e) (S : List Nat) (w : World) (H : St S w w [(true, .is gb (gobj M ev lb mb)), (true, .is mb (.map es clock)), (true, .is nb (ntry k' v)), (true, .is lb (root (pt f) (pt e) n)), (true, .is f (elem fn (pt lb) fl fv)), (true, .is p (elem (pt e) pp pl pv)), (true, .is e (elem (pt lb) (pt p) (pt lb) (ent nb)))]) :
    Calls Try.prog 21 #[pt gb, ik k] w fun y w' => y = .returned (.tuple #[ik v, .bool true]) ∧ St S w w' [(true, .is gb (gobj M ev lb mb)), (true, .is mb (.map es clock)), (true, .is nb (ntry k' v)), (true, .is lb (root (pt e) (pt p) n)), (true, .is f (elem fn (pt e) fl fv)), (true, .is p (elem (pt lb) pp pl pv)), (true, .is e (elem (pt f) (pt lb) (pt lb) (ent nb)))] := by
  have hmn := mapNil mb
  have hta := assertE nb
  have hc := H.cells; simp only [CellsOf, KnCells, knc, Nat.reduceAdd] at hc
  go_enter Try.func21, Try.ntmps21
  repeat' (first | (go_big_may; (first
    | go_skip
    | (refine wpList_plain rfl (fun K hK => ?_); refine op_look _ _ _ _ _ rfl Try.underlying50 keyI zeroE rfl rfl (H.obj (by repeat (first | exact Split.here _ _ | apply Split.there))) hl.out hk.out (hK _ _ ?_); clear hK K)
    | ((first
        | (go_at_call 32; refine Calls.mono (listFrontC _ _ _ _ _ _ _ _ _ _ _ _ he hfe _ _ (H.pick (by repeat (first | exact Picks.nil _ | (apply Picks.wr; focus (repeat (first | exact Split.here _ _ | apply Split.there))) | (apply Picks.rd; focus (repeat (first | exact Split.here _ _ | apply Split.there))))))) ?_; rintro e w' ⟨rfl, H'⟩; replace H := H.merge (by first | exact Strikes.nil _ | (repeat (first | exact Strikes.nil _ | (apply Strikes.cons; focus (repeat (first | exact Split.here _ _ | apply Split.there)))))) H' rfl; clear H')
        | (refine loud_ rfl ?_; refine wpList_plain rfl (fun K hK => ?_); (first | (refine op_box _ _ rfl H (fun b w' H1 => hK _ _ ?_)) | (refine op_alloc _ rfl (zero_of _ _ rfl) H (fun b w' H1 => hK _ _ ?_)) | (refine op_store _ _ _ rfl rfl rfl H (by repeat (first | exact Split.here _ _ | apply Split.there)) (by kernel_rfl) (by kernel_rfl) (by kernel_rfl) (fun w' H1 => hK _ _ ?_)) | (refine op_buildSlice_all _ _ _ rfl (by first | exact elem22 | exact elem25 | exact elem31 | exact elem35) (by kernel_rfl) (by kernel_rfl) (by kernel_rfl) H (fun b w' H1 => hK _ _ ?_))); clear hK K; replace H := H1; clear H1)); (try clear hc); (try simp only [nrm, splice, Value.cells, Nat.reduceAdd, Act.eval, Act.put] at H); have hc := H.cells; simp only [CellsOf, KnCells, knc, Nat.reduceAdd] at hc))) | go_values | go_skip | go_guarded | go_step | go_upon | go_back | dsimp only)
  go_ret2
  exact ⟨rfl, H.sel (by repeat (first | exact Sel.nil _ | (apply Sel.cons; focus (repeat (first | exact Split.here _ _ | apply Split.there)))))⟩
set_option maxHeartbeats 4000000 in
set_option maxRecDepth 10000 in
theorem gUpd_C (gb mb nb clock lb f p e : Nat) (n : Int) (fl fv fn pp pl pv : Value) (M : Int) (ev : Value) (es : Array MapEntry) (l : AL) (k k' v u : Int) (hl : Hid (KV1 ik es l)) (hk : Hid (aget l k = some (pt e))) (he : ¬ e = lb) (hfe : ¬ f = e) (S : List Nat) (w : World) (H : St S w w [(true, .is gb (gobj M ev lb mb)), (true, .is mb (.map es clock)), (true, .is nb (ntry k' v)), (true, .is lb (root (pt f) (pt e) n)), (true, .is f (elem fn (pt lb) fl fv)), (true, .is p (elem (pt e) pp pl pv)), (true, .is e (elem (pt lb) (pt p) (pt lb) (ent nb)))]) :
    Calls Try.prog 20 #[pt gb, ik k, ik u] w fun y w' => y = .returned (.tuple #[]) ∧ St S w w' [(true, .is gb (gobj M ev lb mb)), (true, .is mb (.map es clock)), (true, .is nb (ntry k' u)), (true, .is lb (root (pt e) (pt p) n)), (true, .is f (elem fn (pt e) fl fv)), (true, .is p (elem (pt lb) pp pl pv)), (true, .is e (elem (pt f) (pt lb) (pt lb) (ent nb)))] := by
  have hmn := mapNil mb
  have hta := assertE nb
  have hc := H.cells; simp only [CellsOf, KnCells, knc, Nat.reduceAdd] at hc
  go_enter Try.func20, Try.ntmps20
  repeat' (first | (go_big_may; (first
    | go_skip
    | (refine wpList_plain rfl (fun K hK => ?_); refine op_look _ _ _ _ _ rfl Try.underlying50 keyI zeroE rfl rfl (H.obj (by repeat (first | exact Split.here _ _ | apply Split.there))) hl.out hk.out (hK _ _ ?_); clear hK K)
    | ((first
        | (go_at_call 32; refine Calls.mono (listFrontC _ _ _ _ _ _ _ _ _ _ _ _ he hfe _ _ (H.pick (by repeat (first | exact Picks.nil _ | (apply Picks.wr; focus (repeat (first | exact Split.here _ _ | apply Split.there))) | (apply Picks.rd; focus (repeat (first | exact Split.here _ _ | apply Split.there))))))) ?_; rintro e w' ⟨rfl, H'⟩; replace H := H.merge (by first | exact Strikes.nil _ | (repeat (first | exact Strikes.nil _ | (apply Strikes.cons; focus (repeat (first | exact Split.here _ _ | apply Split.there)))))) H' rfl; clear H')
        | (refine loud_ rfl ?_; refine wpList_plain rfl (fun K hK => ?_); (first | (refine op_box _ _ rfl H (fun b w' H1 => hK _ _ ?_)) | (refine op_alloc _ rfl (zero_of _ _ rfl) H (fun b w' H1 => hK _ _ ?_)) | (refine op_store _ _ _ rfl rfl rfl H (by repeat (first | exact Split.here _ _ | apply Split.there)) (by kernel_rfl) (by kernel_rfl) (by kernel_rfl) (fun w' H1 => hK _ _ ?_)) | (refine op_buildSlice_all _ _ _ rfl (by first | exact elem22 | exact elem25 | exact elem31 | exact elem35) (by kernel_rfl) (by kernel_rfl) (by kernel_rfl) H (fun b w' H1 => hK _ _ ?_))); clear hK K; replace H := H1; clear H1)); (try clear hc); (try simp only [nrm, splice, Value.cells, Nat.reduceAdd, Act.eval, Act.put] at H); have hc := H.cells; simp only [CellsOf, KnCells, knc, Nat.reduceAdd] at hc))) | go_values | go_skip | go_guarded | go_step | go_upon | go_back | dsimp only)
  (try simp only [Exit.inBlock, Exit.then])
  refine bodyPost_ret_by (results_none rfl _ _ _) rfl ?_
  exact ⟨rfl, H.sel (by repeat (first | exact Sel.nil _ | (apply Sel.cons; focus (repeat (first | exact Split.here _ _ | apply Split.there)))))⟩
set_option maxHeartbeats 4000000 in
set_option maxRecDepth 10000 in
theorem gGet_D (gb mb nb clock lb f p e x : Nat) (n : Int) (fl fv fn pp pl pv rp xn xl xv : Value) (M : Int) (ev : Value) (es : Array MapEntry) (l : AL) (k k' v : Int) (hl : Hid (KV1 ik es l)) (hk : Hid (aget l k = some (pt e))) (he : ¬ e = lb) (hfe : ¬ f = e) (S : List Nat) (w : World) (H : St S w w [(true, .is gb (gobj M ev lb mb)), (true, .is mb (.map es clock)), (true, .is nb (ntry k' v)), (true, .is lb (root (pt f) rp n)), (true, .is f (elem fn (pt lb) fl fv)), (true, .is p (elem (pt e) pp pl pv)), (true, .is e (elem (pt x) (pt p) (pt lb) (ent nb))), (true, .is x (elem xn (pt e) xl xv))]) :
    Calls Try.prog 21 #[pt gb, ik k] w fun y w' => y = .returned (.tuple #[ik v, .bool true]) ∧ St S w w' [(true, .is gb (gobj M ev lb mb)), (true, .is mb (.map es clock)), (true, .is nb (ntry k' v)), (true, .is lb (root (pt e) rp n)), (true, .is f (elem fn (pt e) fl fv)), (true, .is p (elem (pt x) pp pl pv)), (true, .is e (elem (pt f) (pt lb) (pt lb) (ent nb))), (true, .is x (elem xn (pt p) xl xv))] := by
  have hmn := mapNil mb
  have hta := assertE nb
  have hc := H.cells; simp only [CellsOf, KnCells, knc, Nat.reduceAdd] at hc
  go_enter Try.func21, Try.ntmps21
  repeat' (first | (go_big_may; (first
    | go_skip
    | (refine wpList_plain rfl (fun K hK => ?_); refine op_look _ _ _ _ _ rfl Try.underlying50 keyI zeroE rfl rfl (H.obj (by repeat (first | exact Split.here _ _ | apply Split.there))) hl.out hk.out (hK _ _ ?_); clear hK K)
    | ((first
        | (go_at_call 32; refine Calls.mono (listFrontD _ _ _ _ _ _ _ _ _ _ _ _ _ _ _ _ _ he hfe _ _ (H.pick (by repeat (first | exact Picks.nil _ | (apply Picks.wr; focus (repeat (first | exact Split.here _ _ | apply Split.there))) | (apply Picks.rd; focus (repeat (first | exact Split.here _ _ | apply Split.there))))))) ?_; rintro e w' ⟨rfl, H'⟩; replace H := H.merge (by first | exact Strikes.nil _ | (repeat (first | exact Strikes.nil _ | (apply Strikes.cons; focus (repeat (first | exact Split.here _ _ | apply Split.there)))))) H' rfl; clear H')
        | (refine loud_ rfl ?_; refine wpList_plain rfl (fun K hK => ?_); (first | (refine op_box _ _ rfl H (fun b w' H1 => hK _ _ ?_)) | (refine op_alloc _ rfl (zero_of _ _ rfl) H (fun b w' H1 => hK _ _ ?_)) | (refine op_store _ _ _ rfl rfl rfl H (by repeat (first | exact Split.here _ _ | apply Split.there)) (by kernel_rfl) (by kernel_rfl) (by kernel_rfl) (fun w' H1 => hK _ _ ?_)) | (refine op_buildSlice_all _ _ _ rfl (by first | exact elem22 | exact elem25 | exact elem31 | exact elem35) (by kernel_rfl) (by kernel_rfl) (by kernel_rfl) H (fun b w' H1 => hK _ _ ?_))); clear hK K; replace H := H1; clear H1)); (try clear hc); (try simp only [nrm, splice, Value.cells, Nat.reduceAdd, Act.eval, Act.put] at H); have hc := H.cells; simp only [CellsOf, KnCells, knc, Nat.reduceAdd] at hc))) | go_values | go_skip | go_guarded | go_step | go_upon | go_back | dsimp only)
  go_ret2
  exact ⟨rfl, H.sel (by repeat (first | exact Sel.nil _ | (apply Sel.cons; focus (repeat (first | exact Split.here _ _ | apply Split.there)))))⟩
set_option maxHeartbeats 4000000 in
set_option maxRecDepth 10000 in
theorem gUpd_D (gb mb nb clock lb f p e x : Nat) (n : Int) (fl fv fn pp pl pv rp xn xl xv : Value) (M : Int) (ev : Value) (es : Array MapEntry) (l : AL) (k k' v u : Int) (hl : Hid (KV1 ik es l)) (hk : Hid (aget l k = some (pt e))) (he : ¬ e = lb) (hfe : ¬ f = e) (S : List Nat) (w : World) (H : St S w w [(true, .is gb (gobj M ev lb mb)), (true, .is mb (.map es clock)), (true, .is nb (ntry k' v)), (true, .is lb (root (pt f) rp n)), (true, .is f (elem fn (pt lb) fl fv)), (true, .is p (elem (pt e) pp pl pv)), (true, .is e (elem (pt x) (pt p) (pt lb) (ent nb))), (true, .is x (elem xn (pt e) xl xv))]) :
    Calls Try.prog 20 #[pt gb, ik k, ik u] w fun y w' => y = .returned (.tuple #[]) ∧ St S w w' [(true, .is gb (gobj M ev lb mb)), (true, .is mb (.map es clock)), (true, .is nb (ntry k' u)), (true, .is lb (root (pt e) rp n)), (true, .is f (elem fn (pt e) fl fv)), (true, .is p (elem (pt x) pp pl pv)), (true, .is e (elem (pt f) (pt lb) (pt lb) (ent nb))), (true, .is x (elem xn (pt p) xl xv))] := by
  have hmn := mapNil mb
  have hta := assertE nb
  have hc := H.cells; simp only [CellsOf, KnCells, knc, Nat.reduceAdd] at hc
  go_enter Try.func20, Try.ntmps20
  repeat' (first | (go_big_may; (first
    | go_skip
    | (refine wpList_plain rfl (fun K hK => ?_); refine op_look _ _ _ _ _ rfl Try.underlying50 keyI zeroE rfl rfl (H.obj (by repeat (first | exact Split.here _ _ | apply Split.there))) hl.out hk.out (hK _ _ ?_); clear hK K)
    | ((first
        | (go_at_call 32; refine Calls.mono (listFrontD _ _ _ _ _ _ _ _ _ _ _ _ _ _ _ _ _ he hfe _ _ (H.pick (by repeat (first | exact Picks.nil _ | (apply Picks.wr; focus (repeat (first | exact Split.here _ _ | apply Split.there))) | (apply Picks.rd; focus (repeat (first | exact Split.here _ _ | apply Split.there))))))) ?_; rintro e w' ⟨rfl, H'⟩; replace H := H.merge (by first | exact Strikes.nil _ | (repeat (first | exact Strikes.nil _ | (apply Strikes.cons; focus (repeat (first | exact Split.here _ _ | apply Split.there)))))) H' rfl; clear H')
        | (refine loud_ rfl ?_; refine wpList_plain rfl (fun K hK => ?_); (first | (refine op_box _ _ rfl H (fun b w' H1 => hK _ _ ?_)) | (refine op_alloc _ rfl (zero_of _ _ rfl) H (fun b w' H1 => hK _ _ ?_)) | (refine op_store _ _ _ rfl rfl rfl H (by repeat (first | exact Split.here _ _ | apply Split.there)) (by kernel_rfl) (by kernel_rfl) (by kernel_rfl) (fun w' H1 => hK _ _ ?_)) | (refine op_buildSlice_all _ _ _ rfl (by first | exact elem22 | exact elem25 | exact elem31 | exact elem35) (by kernel_rfl) (by kernel_rfl) (by kernel_rfl) H (fun b w' H1 => hK _ _ ?_))); clear hK K; replace H := H1; clear H1)); (try clear hc); (try simp only [nrm, splice, Value.cells, Nat.reduceAdd, Act.eval, Act.put] at H); have hc := H.cells; simp only [CellsOf, KnCells, knc, Nat.reduceAdd] at hc))) | go_values | go_skip | go_guarded | go_step | go_upon | go_back | dsimp only)
  (try simp only [Exit.inBlock, Exit.then])
  refine bodyPost_ret_by (results_none rfl _ _ _) rfl ?_
  exact ⟨rfl, H.sel (by repeat (first | exact Sel.nil _ | (apply Sel.cons; focus (repeat (first | exact Split.here _ _ | apply Split.there)))))⟩
set_option maxHeartbeats 4000000 in
set_option maxRecDepth 10000 in
theorem gGet_F (gb mb nb clock lb e : Nat) (n : Int) (nx pv rp : Value) (M : Int) (ev : Value) (es : Array MapEntry) (l : AL) (k k' v : Int) (hl : Hid (KV1 ik es l)) (hk : Hid (aget l k = some (pt e))) (S : List Nat) (w : World) (H : St S w w [(true, .is gb (gobj M ev lb mb)), (true, .is mb (.map es clock)), (true, .is nb (ntry k' v)), (true, .is lb (root (pt e) rp n)), (true, .is e (elem nx pv (pt lb) (ent nb)))]) :
    Calls Try.prog 21 #[pt gb, ik k] w fun y w' => y = .returned (.tuple #[ik v, .bool true]) ∧ St S w w' [(true, .is gb (gobj M ev lb mb)), (true, .is mb (.map es clock)), (true, .is nb (ntry k' v)), (true, .is lb (root (pt e) rp n)), (true, .is e (elem nx pv (pt lb) (ent nb)))] := by
  have hmn := mapNil mb
  have hta := assertE nb
  have hc := H.cells; simp only [CellsOf, KnCells, knc, Nat.reduceAdd] at hc
  go_enter Try.func21, Try.ntmps21
  repeat' (first | (go_big_may; (first
    | go_skip
    | (refine wpList_plain rfl (fun K hK => ?_); refine op_look _ _ _ _ _ rfl Try.underlying50 keyI zeroE rfl rfl (H.obj (by repeat (first | exact Split.here _ _ | apply Split.there))) hl.out hk.out (hK _ _ ?_); clear hK K)
    | ((first
        | (go_at_call 32; refine Calls.mono (listFirst _ _ _ _ _ _ _ _ (H.obj (b := lb) (by repeat (first | exact Split.here _ _ | apply Split.there))) (H.obj (b := e) (by repeat (first | exact Split.here _ _ | apply Split.there)))) ?_; rintro e w' ⟨rfl, H'⟩; replace H := H.of_ext H'; clear H')
        | (refine loud_ rfl ?_; refine wpList_plain rfl (fun K hK => ?_); (first | (refine op_box _ _ rfl H (fun b w' H1 => hK _ _ ?_)) | (refine op_alloc _ rfl (zero_of _ _ rfl) H (fun b w' H1 => hK _ _ ?_)) | (refine op_store _ _ _ rfl rfl rfl H (by repeat (first | exact Split.here _ _ | apply Split.there)) (by kernel_rfl) (by kernel_rfl) (by kernel_rfl) (fun w' H1 => hK _ _ ?_)) | (refine op_buildSlice_all _ _ _ rfl (by first | exact elem22 | exact elem25 | exact elem31 | exact elem35) (by kernel_rfl) (by kernel_rfl) (by kernel_rfl) H (fun b w' H1 => hK _ _ ?_))); clear hK K; replace H := H1; clear H1)); (try clear hc); (try simp only [nrm, splice, Value.cells, Nat.reduceAdd, Act.eval, Act.put] at H); have hc := H.cells; simp only [CellsOf, KnCells, knc, Nat.reduceAdd] at hc))) | go_values | go_skip | go_guarded | go_step | go_upon | go_back | dsimp only)
  go_ret2
  exact ⟨rfl, H.sel (by repeat (first | exact Sel.nil _ | (apply Sel.cons; focus (repeat (first | exact Split.here _ _ | apply Split.there)))))⟩
set_option maxHeartbeats 4000000 in
set_option maxRecDepth 10000 in
theorem gUpd_F (gb mb nb clock lb e : Nat) (n : Int) (nx pv rp : Value) (M : Int) (ev : Value) (es : Array MapEntry) (l : AL) (k k' v u : Int) (hl : Hid (KV1 ik es l)) (hk : Hid (aget l k = some (pt e))) (S : List Nat) (w : World) (H : St S w w [(true, .is gb (gobj M ev lb mb)), (true, .is mb (.map es clock)), (true, .is nb (ntry k' v)), (true, .is lb (root (pt e) rp n)), (true, .is e (elem nx pv (pt lb) (ent nb)))]) :
    Calls Try.prog 20 #[pt gb, ik k, ik u] w fun y w' => y = .returned (.tuple #[]) ∧ St S w w' [(true, .is gb (gobj M ev lb mb)), (true, .is mb (.map es clock)), (true, .is nb (ntry k' u)), (true, .is lb (root (pt e) rp n)), (true, .is e (elem nx pv (pt lb) (ent nb)))] := by
  have hmn := mapNil mb
  have hta := assertE nb
  have hc := H.cells; simp only [CellsOf, KnCells, knc, Nat.reduceAdd] at hc
  go_enter Try.func20, Try.ntmps20
  repeat' (first | (go_big_may; (first
    | go_skip
    | (refine wpList_plain rfl (fun K hK => ?_); refine op_look _ _ _ _ _ rfl Try.underlying50 keyI zeroE rfl rfl (H.obj (by repeat (first | exact Split.here _ _ | apply Split.there))) hl.out hk.out (hK _ _ ?_); clear hK K)
    | ((first
        | (go_at_call 32; refine Calls.mono (listFirst _ _ _ _ _ _ _ _ (H.obj (b := lb) (by repeat (first | exact Split.here _ _ | apply Split.there))) (H.obj (b := e) (by repeat (first | exact Split.here _ _ | apply Split.there)))) ?_; rintro e w' ⟨rfl, H'⟩; replace H := H.of_ext H'; clear H')
        | (refine loud_ rfl ?_; refine wpList_plain rfl (fun K hK => ?_); (first | (refine op_box _ _ rfl H (fun b w' H1 => hK _ _ ?_)) | (refine op_alloc _ rfl (zero_of _ _ rfl) H (fun b w' H1 => hK _ _ ?_)) | (refine op_store _ _ _ rfl rfl rfl H (by repeat (first | exact Split.here _ _ | apply Split.there)) (by kernel_rfl) (by kernel_rfl) (by kernel_rfl) (fun w' H1 => hK _ _ ?_)) | (refine op_buildSlice_all _ _ _ rfl (by first | exact elem22 | exact elem25 | exact elem31 | exact elem35) (by kernel_rfl) (by kernel_rfl) (by kernel_rfl) H (fun b w' H1 => hK _ _ ?_))); clear hK K; replace H := H1; clear H1)); (try clear hc); (try simp only [nrm, splice, Value.cells, Nat.reduceAdd, Act.eval, Act.put] at H); have hc := H.cells; simp only [CellsOf, KnCells, knc, Nat.reduceAdd] at hc))) | go_values | go_skip | go_guarded | go_step | go_upon | go_back | dsimp only)
  (try simp only [Exit.inBlock, Exit.then])
  refine bodyPost_ret_by (results_none rfl _ _ _) rfl ?_
  exact ⟨rfl, H.sel (by repeat (first | exact Sel.nil _ | (apply Sel.cons; focus (repeat (first | exact Split.here _ _ | apply Split.there)))))⟩
end Go.Proofs.Ytjoiekpedmhfbaa
