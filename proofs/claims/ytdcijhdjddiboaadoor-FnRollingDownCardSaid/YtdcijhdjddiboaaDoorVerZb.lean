import Derived.Test.YtdcijhdjddiboaaDoorVerZ
-- MORE
namespace Go.Proofs.YtdcijhdjddiboaaDoor
set_option linter.unusedVariables false
set_option linter.unusedSimpArgs false
set_option linter.unnecessarySimpa false
open Go.RowKit Go.V

set_option maxRecDepth 8000 in
theorem mEn_bad (d : VD) (c t : Vr) (hcv : Hid (VText d.cl c)) (htk : Hid t.Ok) (heq : Hid (veq t (vprev c) = false))  (p g q : Nat) (o : Vo) (cx : Value) (S : List Nat) (w : World) (H : St S w w [(false, .is p (man g)), (true, .is g (guard d o)), (false, .is q (t.obj 62)), genv]) :
    Calls Tryd.prog 45 #[.pointer (some ⟨p, 0, none⟩), cx, .pointer (some ⟨q, 0, none⟩)] w fun e w' => e = .returned (.iface 75 (.string errTarget)) ∧ St S w w' [(true, .is g (guard d o))] := by
  have hmeDowngradeEnable : ∀ (w : World), (method 256 45 (.pointer (some ⟨g, 0, none⟩)) "DowngradeEnable").run Tryd.prog w = .ok (103, .pointer (some ⟨g, 0, none⟩)) w := fun w => by kernel_rfl
  have hnaDowngradeEnable : ∀ (w : World), (nilAhead 256 45 (.pointer (some ⟨g, 0, none⟩)) "DowngradeEnable").run Tryd.prog w = .ok (some false) w := fun w => by kernel_rfl
  have hc := H.cells; simp only [CellsOf, KnCells, knc, Nat.reduceAdd] at hc
  go_enter Tryd.func45, Tryd.ntmps45
  repeat' (first | (go_big_may; (first
    | go_skip
    | ((first
        | (go_at_call 46; refine Calls.mono (mVal_bad d c t hcv heq  q p g o _ _ (H.pick (by repeat (first | exact Picks.nil _ | (apply Picks.wr; focus (repeat (first | exact Split.here _ _ | apply Split.there))) | (apply Picks.rd; focus (repeat (first | exact Split.here _ _ | apply Split.there))))))) ?_; rintro e w' ⟨rfl, H'⟩; replace H := H.of_ext H'; clear H')
        | (refine loud_ rfl ?_; refine wpList_plain rfl (fun K hK => ?_); (first | (refine op_box _ _ rfl H (fun b w' H1 => hK _ _ ?_)) | (refine op_alloc _ rfl (zero_of _ _ rfl) H (fun b w' H1 => hK _ _ ?_)) | (refine op_store _ _ _ rfl rfl rfl H (by repeat (first | exact Split.here _ _ | apply Split.there)) (by kernel_rfl) (by kernel_rfl) (by kernel_rfl) (fun w' H1 => hK _ _ ?_)) | (refine op_buildSlice_all _ _ _ rfl (by first | exact elem22 | exact elem39 | exact elem76 | exact elem154) (by kernel_rfl) (by kernel_rfl) (by kernel_rfl) H (fun b w' H1 => hK _ _ ?_))); clear hK K; replace H := H1; clear H1)); (try clear hc); (try simp only [nrm, splice, Value.cells, Nat.reduceAdd, Act.eval, Act.put] at H); have hc := H.cells; simp only [CellsOf, KnCells, knc, Nat.reduceAdd] at hc))) | go_values | go_skip | go_guarded | go_step | go_upon | go_back | dsimp only)
  go_ret
  exact ⟨rfl, H.sel (by repeat (first | exact Sel.nil _ | (apply Sel.cons; focus (repeat (first | exact Split.here _ _ | apply Split.there)))))⟩
set_option maxRecDepth 8000 in
theorem mEn_job (d : VD) (c t : Vr) (hcv : Hid (VText d.cl c)) (htk : Hid t.Ok) (heq : Hid (veq t (vprev c) = true)) (hhd : Hid (d.hd = true)) (hdn : Hid (d.dn = true)) (p g q : Nat) (o : Vo) (cx : Value) (S : List Nat) (w : World) (H : St S w w [(false, .is p (man g)), (true, .is g (guard d o)), (false, .is q (t.obj 62)), genv]) :
    Calls Tryd.prog 45 #[.pointer (some ⟨p, 0, none⟩), cx, .pointer (some ⟨q, 0, none⟩)] w fun e w' => e = .returned (.iface 75 (.string errJob)) ∧ St S w w' [(true, .is g (guard d o))] := by
  have hmeDowngradeEnable : ∀ (w : World), (method 256 45 (.pointer (some ⟨g, 0, none⟩)) "DowngradeEnable").run Tryd.prog w = .ok (103, .pointer (some ⟨g, 0, none⟩)) w := fun w => by kernel_rfl
  have hnaDowngradeEnable : ∀ (w : World), (nilAhead 256 45 (.pointer (some ⟨g, 0, none⟩)) "DowngradeEnable").run Tryd.prog w = .ok (some false) w := fun w => by kernel_rfl
  have hc := H.cells; simp only [CellsOf, KnCells, knc, Nat.reduceAdd] at hc
  go_enter Tryd.func45, Tryd.ntmps45
  repeat' (first | (go_big_may; (first
    | go_skip
    | ((first
        | (go_at_call 46; refine Calls.mono (mVal_job d c t hcv heq hhd.out hdn.out q p g o _ _ (H.pick (by repeat (first | exact Picks.nil _ | (apply Picks.wr; focus (repeat (first | exact Split.here _ _ | apply Split.there))) | (apply Picks.rd; focus (repeat (first | exact Split.here _ _ | apply Split.there))))))) ?_; rintro e w' ⟨rfl, H'⟩; replace H := H.of_ext H'; clear H')
        | (refine loud_ rfl ?_; refine wpList_plain rfl (fun K hK => ?_); (first | (refine op_box _ _ rfl H (fun b w' H1 => hK _ _ ?_)) | (refine op_alloc _ rfl (zero_of _ _ rfl) H (fun b w' H1 => hK _ _ ?_)) | (refine op_store _ _ _ rfl rfl rfl H (by repeat (first | exact Split.here _ _ | apply Split.there)) (by kernel_rfl) (by kernel_rfl) (by kernel_rfl) (fun w' H1 => hK _ _ ?_)) | (refine op_buildSlice_all _ _ _ rfl (by first | exact elem22 | exact elem39 | exact elem76 | exact elem154) (by kernel_rfl) (by kernel_rfl) (by kernel_rfl) H (fun b w' H1 => hK _ _ ?_))); clear hK K; replace H := H1; clear H1)); (try clear hc); (try simp only [nrm, splice, Value.cells, Nat.reduceAdd, Act.eval, Act.put] at H); have hc := H.cells; simp only [CellsOf, KnCells, knc, Nat.reduceAdd] at hc))) | go_values | go_skip | go_guarded | go_step | go_upon | go_back | dsimp only)
  go_ret
  exact ⟨rfl, H.sel (by repeat (first | exact Sel.nil _ | (apply Sel.cons; focus (repeat (first | exact Split.here _ _ | apply Split.there)))))⟩
set_option maxRecDepth 8000 in
theorem mEn_oka (d : VD) (c t : Vr) (hcv : Hid (VText d.cl c)) (htk : Hid t.Ok) (heq : Hid (veq t (vprev c) = true)) (hhd : Hid (d.hd = false)) (p g q : Nat) (o : Vo) (cx : Value) (S : List Nat) (w : World) (H : St S w w [(false, .is p (man g)), (true, .is g (guard d o)), (false, .is q (t.obj 62)), genv]) :
    Calls Tryd.prog 45 #[.pointer (some ⟨p, 0, none⟩), cx, .pointer (some ⟨q, 0, none⟩)] w fun e w' => e = .returned .nilIface ∧ St S w w' [(true, .is g (guard d { o with en := true, tg := vstr t }))] := by
  have hmeDowngradeEnable : ∀ (w : World), (method 256 45 (.pointer (some ⟨g, 0, none⟩)) "DowngradeEnable").run Tryd.prog w = .ok (103, .pointer (some ⟨g, 0, none⟩)) w := fun w => by kernel_rfl
  have hnaDowngradeEnable : ∀ (w : World), (nilAhead 256 45 (.pointer (some ⟨g, 0, none⟩)) "DowngradeEnable").run Tryd.prog w = .ok (some false) w := fun w => by kernel_rfl
  have hc := H.cells; simp only [CellsOf, KnCells, knc, Nat.reduceAdd] at hc
  go_enter Tryd.func45, Tryd.ntmps45
  repeat' (first | (go_big_may; (first
    | go_skip
    | ((first
        | (go_at_call 46; refine Calls.mono (mVal_oka d c t hcv heq hhd.out q p g o _ _ (H.pick (by repeat (first | exact Picks.nil _ | (apply Picks.wr; focus (repeat (first | exact Split.here _ _ | apply Split.there))) | (apply Picks.rd; focus (repeat (first | exact Split.here _ _ | apply Split.there))))))) ?_; rintro e w' ⟨rfl, H'⟩; replace H := H.of_ext H'; clear H')
        | (go_at_call 103; refine Calls.mono (gEnable g q d o _ t htk.out _ _ (H.pick (by repeat (first | exact Picks.nil _ | (apply Picks.wr; focus (repeat (first | exact Split.here _ _ | apply Split.there))) | (apply Picks.rd; focus (repeat (first | exact Split.here _ _ | apply Split.there))))))) ?_; rintro e w' ⟨rfl, H'⟩; replace H := H.merge (by first | exact Strikes.nil _ | (repeat (first | exact Strikes.nil _ | (apply Strikes.cons; focus (repeat (first | exact Split.here _ _ | apply Split.there)))))) H' rfl; clear H')
        | (refine loud_ rfl ?_; refine wpList_plain rfl (fun K hK => ?_); (first | (refine op_box _ _ rfl H (fun b w' H1 => hK _ _ ?_)) | (refine op_alloc _ rfl (zero_of _ _ rfl) H (fun b w' H1 => hK _ _ ?_)) | (refine op_store _ _ _ rfl rfl rfl H (by repeat (first | exact Split.here _ _ | apply Split.there)) (by kernel_rfl) (by kernel_rfl) (by kernel_rfl) (fun w' H1 => hK _ _ ?_)) | (refine op_buildSlice_all _ _ _ rfl (by first | exact elem22 | exact elem39 | exact elem76 | exact elem154) (by kernel_rfl) (by kernel_rfl) (by kernel_rfl) H (fun b w' H1 => hK _ _ ?_))); clear hK K; replace H := H1; clear H1)); (try clear hc); (try simp only [nrm, splice, Value.cells, Nat.reduceAdd, Act.eval, Act.put] at H); have hc := H.cells; simp only [CellsOf, KnCells, knc, Nat.reduceAdd] at hc))) | go_values | go_skip | go_guarded | go_step | go_upon | go_back | dsimp only)
  go_ret
  exact ⟨rfl, H.sel (by repeat (first | exact Sel.nil _ | (apply Sel.cons; focus (repeat (first | exact Split.here _ _ | apply Split.there)))))⟩
set_option maxRecDepth 8000 in
theorem mEn_okb (d : VD) (c t : Vr) (hcv : Hid (VText d.cl c)) (htk : Hid t.Ok) (heq : Hid (veq t (vprev c) = true)) (hhd : Hid (d.hd = true)) (hdn : Hid (d.dn = false)) (p g q : Nat) (o : Vo) (cx : Value) (S : List Nat) (w : World) (H : St S w w [(false, .is p (man g)), (true, .is g (guard d o)), (false, .is q (t.obj 62)), genv]) :
    Calls Tryd.prog 45 #[.pointer (some ⟨p, 0, none⟩), cx, .pointer (some ⟨q, 0, none⟩)] w fun e w' => e = .returned .nilIface ∧ St S w w' [(true, .is g (guard d { o with en := true, tg := vstr t }))] := by
  have hmeDowngradeEnable : ∀ (w : World), (method 256 45 (.pointer (some ⟨g, 0, none⟩)) "DowngradeEnable").run Tryd.prog w = .ok (103, .pointer (some ⟨g, 0, none⟩)) w := fun w => by kernel_rfl
  have hnaDowngradeEnable : ∀ (w : World), (nilAhead 256 45 (.pointer (some ⟨g, 0, none⟩)) "DowngradeEnable").run Tryd.prog w = .ok (some false) w := fun w => by kernel_rfl
  have hc := H.cells; simp only [CellsOf, KnCells, knc, Nat.reduceAdd] at hc
  go_enter Tryd.func45, Tryd.ntmps45
  repeat' (first | (go_big_may; (first
    | go_skip
    | ((first
        | (go_at_call 46; refine Calls.mono (mVal_okb d c t hcv heq hhd.out hdn.out q p g o _ _ (H.pick (by repeat (first | exact Picks.nil _ | (apply Picks.wr; focus (repeat (first | exact Split.here _ _ | apply Split.there))) | (apply Picks.rd; focus (repeat (first | exact Split.here _ _ | apply Split.there))))))) ?_; rintro e w' ⟨rfl, H'⟩; replace H := H.of_ext H'; clear H')
        | (go_at_call 103; refine Calls.mono (gEnable g q d o _ t htk.out _ _ (H.pick (by repeat (first | exact Picks.nil _ | (apply Picks.wr; focus (repeat (first | exact Split.here _ _ | apply Split.there))) | (apply Picks.rd; focus (repeat (first | exact Split.here _ _ | apply Split.there))))))) ?_; rintro e w' ⟨rfl, H'⟩; replace H := H.merge (by first | exact Strikes.nil _ | (repeat (first | exact Strikes.nil _ | (apply Strikes.cons; focus (repeat (first | exact Split.here _ _ | apply Split.there)))))) H' rfl; clear H')
        | (refine loud_ rfl ?_; refine wpList_plain rfl (fun K hK => ?_); (first | (refine op_box _ _ rfl H (fun b w' H1 => hK _ _ ?_)) | (refine op_alloc _ rfl (zero_of _ _ rfl) H (fun b w' H1 => hK _ _ ?_)) | (refine op_store _ _ _ rfl rfl rfl H (by repeat (first | exact Split.here _ _ | apply Split.there)) (by kernel_rfl) (by kernel_rfl) (by kernel_rfl) (fun w' H1 => hK _ _ ?_)) | (refine op_buildSlice_all _ _ _ rfl (by first | exact elem22 | exact elem39 | exact elem76 | exact elem154) (by kernel_rfl) (by kernel_rfl) (by kernel_rfl) H (fun b w' H1 => hK _ _ ?_))); clear hK K; replace H := H1; clear H1)); (try clear hc); (try simp only [nrm, splice, Value.cells, Nat.reduceAdd, Act.eval, Act.put] at H); have hc := H.cells; simp only [CellsOf, KnCells, knc, Nat.reduceAdd] at hc))) | go_values | go_skip | go_guarded | go_step | go_upon | go_back | dsimp only)
  go_ret
  exact ⟨rfl, H.sel (by repeat (first | exact Sel.nil _ | (apply Sel.cons; focus (repeat (first | exact Split.here _ _ | apply Split.there)))))⟩
end Go.Proofs.YtdcijhdjddiboaaDoor
