import Derived.Test.YtfnapcgbjdkpaaaSnpM
-- MORE
-- SUB2
namespace Go.Proofs.Ytfnapcgbjdkpaaa
set_option linter.unusedVariables false
set_option linter.unusedSimpArgs false
set_option linter.unnecessarySimpa false
open Go Go.RowKit Go.V Go.Lib

set_option maxRecDepth 8000 in
theorem marshalSnap (bs bm bc blk off : Nat) (d : List UInt8) (nd cd : Nat) (i t : Nat) (sv : Option Addr) (vs : List Nat) (n c : Nat) (hd : Hid (d.length = nd)) (hnd : nd ≤ 1000000) (hit : Hid (i < 18446744073709551616 ∧ t < 18446744073709551616)) (hn : Hid (vs.length = n)) (hv : Hid (∀ v ∈ vs, v < 18446744073709551616)) (hnn : n ≤ 1000000) (w : World)
    (H : St [] w w [(false, .is bs (snapObj (some ⟨blk, off, none⟩) nd cd bm)), (false, .is bm (metaObj bc i t)), (false, .is bc (confObj sv n c)), (false, soft (some ⟨blk, off, none⟩) (by8 d)), (false, soft sv (u64s vs))]) :
    Calls Try.prog 32 #[.iface 41 (.pointer (some ⟨bs, 0, none⟩))] w fun e w' => ∃ j b cap ys, Hid (ys = by8 (snapB d vs i t) ∧ j = ys.length) ∧ j ≤ 20000000 ∧ e = .returned (.tuple #[.slice (some ⟨b, 0, none⟩) j cap, .nilIface]) ∧ St [] w w' [(true, .row (some b) 5 1 j cap ys)] := by
  have hme : ∀ (w : World), (method 250 41 (.pointer (some ⟨bs, 0, none⟩)) "PutFields").run Try.prog w = .ok (70, .pointer (some ⟨bs, 0, none⟩)) w := fun w => by kernel_rfl
  have hna : ∀ (w : World), (nilAhead 250 41 (.pointer (some ⟨bs, 0, none⟩)) "PutFields").run Try.prog w = .ok (some false) w := fun w => by kernel_rfl
  go_enter Try.func32, Try.ntmps32
  repeat' (first | (go_big_may; (first
    | go_skip
    | ((first
        | (go_at_call 70; refine Calls.mono (snapPut_calls bs bm bc blk off d nd cd i t sv vs n c hd hnd hit hn hv hnn _ (H.pick (by repeat (first | exact Picks.nil _ | (apply Picks.wr; focus (repeat (first | exact Split.here _ _ | apply Split.there))) | (apply Picks.rd; focus (repeat (first | exact Split.here _ _ | apply Split.there))))))) ?_; rintro e w' ⟨j, b, cap, ys, hj, hb, rfl, H'⟩; replace H := H.merge (by first | exact Strikes.nil _ | (repeat (first | exact Strikes.nil _ | (apply Strikes.cons; focus (repeat (first | exact Split.here _ _ | apply Split.there)))))) H' rfl; clear H')
        | (refine loud_ rfl ?_; refine wpList_plain rfl (fun K hK => ?_); (first | (refine op_box _ _ rfl H (fun b w' H1 => hK _ _ ?_)) | (refine op_alloc _ rfl (zero_of _ _ rfl) H (fun b w' H1 => hK _ _ ?_)) | (refine op_store _ _ _ rfl rfl rfl H (by repeat (first | exact Split.here _ _ | apply Split.there)) (by kernel_rfl) (by kernel_rfl) (by kernel_rfl) (fun w' H1 => hK _ _ ?_)) | (refine op_buildSlice_all _ _ _ rfl (by first | exact elem23 | exact elem34 | exact elem51 | exact elem148) (by kernel_rfl) (by kernel_rfl) (by kernel_rfl) H (fun b w' H1 => hK _ _ ?_))); clear hK K; replace H := H1; clear H1)); (try clear hc); (try simp only [nrm, splice, Value.cells, Nat.reduceAdd, Act.eval, Act.put] at H); have hc := H.cells; simp only [CellsOf, KnCells, knc, Nat.reduceAdd] at hc))) | go_values | go_skip | go_guarded | go_step | go_upon | go_back | dsimp only)
  go_ret2
  exact ⟨j, b, cap, ys, hj, hb, rfl, H.top1⟩
set_option maxRecDepth 8000 in
theorem marshalFile (bf br b0 : Nat) (r : Nat) (p : List UInt8) (n c : Nat) (hp : Hid (p.length = n)) (hn : n ≤ 30000000) (hr : Hid (r < 4294967296)) (w : World) (H : St [] w w [(false, .is bf (fileObj (some ⟨br, 0, none⟩) (some ⟨b0, 0, none⟩) n c)), (false, .is br (u32Obj r)), (false, soft (some ⟨b0, 0, none⟩) (by8 p))]) :
    Calls Try.prog 32 #[.iface 63 (.pointer (some ⟨bf, 0, none⟩))] w fun e w' => ∃ j b cap ys, Hid (ys = by8 (fileB r p) ∧ j = ys.length) ∧ j ≤ 40000000 ∧ e = .returned (.tuple #[.slice (some ⟨b, 0, none⟩) j cap, .nilIface]) ∧ St [] w w' [(true, .row (some b) 5 1 j cap ys)] := by
  have hme : ∀ (w : World), (method 250 63 (.pointer (some ⟨bf, 0, none⟩)) "PutFields").run Try.prog w = .ok (84, .pointer (some ⟨bf, 0, none⟩)) w := fun w => by kernel_rfl
  have hna : ∀ (w : World), (nilAhead 250 63 (.pointer (some ⟨bf, 0, none⟩)) "PutFields").run Try.prog w = .ok (some false) w := fun w => by kernel_rfl
  go_enter Try.func32, Try.ntmps32
  repeat' (first | (go_big_may; (first
    | go_skip
    | ((first
        | (go_at_call 84; refine Calls.mono (filePut_calls bf br b0 r p n c hp hn hr _ (H.pick (by repeat (first | exact Picks.nil _ | (apply Picks.wr; focus (repeat (first | exact Split.here _ _ | apply Split.there))) | (apply Picks.rd; focus (repeat (first | exact Split.here _ _ | apply Split.there))))))) ?_; rintro e w' ⟨j, b, cap, ys, hj, hb, rfl, H'⟩; replace H := H.merge (by first | exact Strikes.nil _ | (repeat (first | exact Strikes.nil _ | (apply Strikes.cons; focus (repeat (first | exact Split.here _ _ | apply Split.there)))))) H' rfl; clear H')
        | (refine loud_ rfl ?_; refine wpList_plain rfl (fun K hK => ?_); (first | (refine op_box _ _ rfl H (fun b w' H1 => hK _ _ ?_)) | (refine op_alloc _ rfl (zero_of _ _ rfl) H (fun b w' H1 => hK _ _ ?_)) | (refine op_store _ _ _ rfl rfl rfl H (by repeat (first | exact Split.here _ _ | apply Split.there)) (by kernel_rfl) (by kernel_rfl) (by kernel_rfl) (fun w' H1 => hK _ _ ?_)) | (refine op_buildSlice_all _ _ _ rfl (by first | exact elem23 | exact elem34 | exact elem51 | exact elem148) (by kernel_rfl) (by kernel_rfl) (by kernel_rfl) H (fun b w' H1 => hK _ _ ?_))); clear hK K; replace H := H1; clear H1)); (try clear hc); (try simp only [nrm, splice, Value.cells, Nat.reduceAdd, Act.eval, Act.put] at H); have hc := H.cells; simp only [CellsOf, KnCells, knc, Nat.reduceAdd] at hc))) | go_values | go_skip | go_guarded | go_step | go_upon | go_back | dsimp only)
  go_ret2
  exact ⟨j, b, cap, ys, hj, hb, rfl, H.top1⟩
set_option maxRecDepth 8000 in
theorem unmarshalFile (S : List Nat) (bf : Nat) (src : Option Addr) (n c : Nat) (r : Nat) (p : List UInt8) (hr : r < 4294967296) (hl : Hid ((fileB r p).length = n)) (hn : n ≤ 1000000000) (hc' : n ≤ c) (w : World) (H : St S w w [(true, .is bf (.cells #[.pointer none, .slice none 0 0] 61 (0, 0))), (false, soft src (by8 (fileB r p)))]) :
    Calls Try.prog 20 #[.slice src n c, .iface 63 (.pointer (some ⟨bf, 0, none⟩))] w fun e w' => ∃ br key m cap, Hid (m = p.length) ∧ e = .returned .nilIface ∧
      St S w w' [(true, .is bf (fileObj (some ⟨br, 0, none⟩) (key.map fun b => ⟨b, 0, none⟩) m cap)), (true, .is br (u32Obj r)), (true, .row key 5 1 m cap (by8 p))] := by
  have hme : ∀ (w : World), (method 250 63 (.pointer (some ⟨bf, 0, none⟩)) "TakeFields").run Try.prog w = .ok (85, .pointer (some ⟨bf, 0, none⟩)) w := fun w => by kernel_rfl
  have hna : ∀ (w : World), (nilAhead 250 63 (.pointer (some ⟨bf, 0, none⟩)) "TakeFields").run Try.prog w = .ok (some false) w := fun w => by kernel_rfl
  go_enter Try.func20, Try.ntmps20
  repeat' (first | (go_big_may; (first
    | go_skip
    | ((first
        | (go_at_call 85; refine Calls.mono (fileTake_calls _ bf src n c r p hr hl hn hc' _ (H.pick (by repeat (first | exact Picks.nil _ | (apply Picks.wr; focus (repeat (first | exact Split.here _ _ | apply Split.there))) | (apply Picks.rd; focus (repeat (first | exact Split.here _ _ | apply Split.there))))))) ?_; rintro e w' ⟨br, key, m, cap, hm, rfl, H'⟩; replace H := H.merge (by first | exact Strikes.nil _ | (repeat (first | exact Strikes.nil _ | (apply Strikes.cons; focus (repeat (first | exact Split.here _ _ | apply Split.there)))))) H' rfl; clear H')
        | (refine loud_ rfl ?_; refine wpList_plain rfl (fun K hK => ?_); (first | (refine op_box _ _ rfl H (fun b w' H1 => hK _ _ ?_)) | (refine op_alloc _ rfl (zero_of _ _ rfl) H (fun b w' H1 => hK _ _ ?_)) | (refine op_store _ _ _ rfl rfl rfl H (by repeat (first | exact Split.here _ _ | apply Split.there)) (by kernel_rfl) (by kernel_rfl) (by kernel_rfl) (fun w' H1 => hK _ _ ?_)) | (refine op_buildSlice_all _ _ _ rfl (by first | exact elem23 | exact elem34 | exact elem51 | exact elem148) (by kernel_rfl) (by kernel_rfl) (by kernel_rfl) H (fun b w' H1 => hK _ _ ?_))); clear hK K; replace H := H1; clear H1)); (try clear hc); (try simp only [nrm, splice, Value.cells, Nat.reduceAdd, Act.eval, Act.put] at H); have hc := H.cells; simp only [CellsOf, KnCells, knc, Nat.reduceAdd] at hc))) | go_values | go_skip | go_guarded | go_step | go_upon | go_back | dsimp only)
  go_ret
  exact ⟨br, key, m, cap, hm, rfl, H.sel (by repeat (first | exact Sel.nil _ | (apply Sel.cons; focus (repeat (first | exact Split.here _ _ | apply Split.there)))))⟩
set_option maxRecDepth 8000 in
theorem unmarshalSnap (S : List Nat) (bs : Nat) (src : Option Addr) (n c : Nat) (d : List UInt8) (vs : List Nat) (i t : Nat) (hit : Hid (i < 18446744073709551616 ∧ t < 18446744073709551616)) (hv : Hid (∀ v ∈ vs, v < 18446744073709551616)) (hvn : vs.length ≤ 1000000) (hl : Hid ((snapB d vs i t).length = n)) (hn : n ≤ 1000000000) (hc' : n ≤ c) (w : World) (H : St S w w [(true, .is bs (.cells #[.slice none 0 0, .pointer none] 69 (0, 0))), (false, soft src (by8 (snapB d vs i t)))]) :
    Calls Try.prog 20 #[.slice src n c, .iface 41 (.pointer (some ⟨bs, 0, none⟩))] w fun e w' => e = .returned .nilIface ∧ SnapOut S bs d vs i t w w' := by
  have hme : ∀ (w : World), (method 250 41 (.pointer (some ⟨bs, 0, none⟩)) "TakeFields").run Try.prog w = .ok (71, .pointer (some ⟨bs, 0, none⟩)) w := fun w => by kernel_rfl
  have hna : ∀ (w : World), (nilAhead 250 41 (.pointer (some ⟨bs, 0, none⟩)) "TakeFields").run Try.prog w = .ok (some false) w := fun w => by kernel_rfl
  go_enter Try.func20, Try.ntmps20
  repeat' (first | (go_big_may; (first
    | ((first
        | (refine loud_ rfl ?_; refine wpList_plain rfl (fun K hK => ?_); (first | (refine op_box _ _ rfl H (fun b w' H1 => hK _ _ ?_)) | (refine op_alloc _ rfl (zero_of _ _ rfl) H (fun b w' H1 => hK _ _ ?_)) | (refine op_store _ _ _ rfl rfl rfl H (by repeat (first | exact Split.here _ _ | apply Split.there)) (by kernel_rfl) (by kernel_rfl) (by kernel_rfl) (fun w' H1 => hK _ _ ?_)) | (refine op_buildSlice_all _ _ _ rfl (by first | exact elem23 | exact elem34 | exact elem51 | exact elem148) (by kernel_rfl) (by kernel_rfl) (by kernel_rfl) H (fun b w' H1 => hK _ _ ?_))); clear hK K; replace H := H1; clear H1)); (try clear hc); (try simp only [nrm, splice, Value.cells, Nat.reduceAdd, Act.eval, Act.put] at H); have hc := H.cells; simp only [CellsOf, KnCells, knc, Nat.reduceAdd] at hc))) | go_values | go_skip | go_guarded | go_step | go_upon | go_back | dsimp only)
  go_at_call 71
  refine Calls.mono (snapTake_calls _ bs src n c d vs i t hit hv hvn hl hn hc' _ (H.pick (by repeat (first | exact Picks.nil _ | (apply Picks.wr; focus (repeat (first | exact Split.here _ _ | apply Split.there))) | (apply Picks.rd; focus (repeat (first | exact Split.here _ _ | apply Split.there))))))) ?_
  rintro e w' ⟨rfl, keyd, md, capd, bm, bc, key, m, cap, hm, H'⟩
  replace H := H.merge (by first | exact Strikes.nil _ | (repeat (first | exact Strikes.nil _ | (apply Strikes.cons; focus (repeat (first | exact Split.here _ _ | apply Split.there)))))) H' rfl
  clear H'
  (try simp only [nrm, splice, Value.cells, Nat.reduceAdd, Act.eval, Act.put] at H); have hc := H.cells; simp only [CellsOf, KnCells, knc, Nat.reduceAdd] at hc
  repeat' (first | (go_big_may; (first
    | ((first
        | (refine loud_ rfl ?_; refine wpList_plain rfl (fun K hK => ?_); (first | (refine op_box _ _ rfl H (fun b w' H1 => hK _ _ ?_)) | (refine op_alloc _ rfl (zero_of _ _ rfl) H (fun b w' H1 => hK _ _ ?_)) | (refine op_store _ _ _ rfl rfl rfl H (by repeat (first | exact Split.here _ _ | apply Split.there)) (by kernel_rfl) (by kernel_rfl) (by kernel_rfl) (fun w' H1 => hK _ _ ?_)) | (refine op_buildSlice_all _ _ _ rfl (by first | exact elem23 | exact elem34 | exact elem51 | exact elem148) (by kernel_rfl) (by kernel_rfl) (by kernel_rfl) H (fun b w' H1 => hK _ _ ?_))); clear hK K; replace H := H1; clear H1)); (try clear hc); (try simp only [nrm, splice, Value.cells, Nat.reduceAdd, Act.eval, Act.put] at H); have hc := H.cells; simp only [CellsOf, KnCells, knc, Nat.reduceAdd] at hc))) | go_values | go_skip | go_guarded | go_step | go_upon | go_back | dsimp only)
  go_ret
  exact ⟨rfl, keyd, md, capd, bm, bc, key, m, cap, hm, H.sel (by repeat (first | exact Sel.nil _ | (apply Sel.cons; focus (repeat (first | exact Split.here _ _ | apply Split.there)))))⟩
abbrev snapperObj (fo : Nat) : Obj := .cells #[.pointer none, .pointer (some ⟨fo, 0, none⟩)] 77 (0, 0)
theorem snapNew_calls (fo : Nat) (w : World) : Calls Try.prog 15 #[.pointer none, .pointer (some ⟨fo, 0, none⟩)] w fun e w' => ∃ x, e = .returned (.pointer (some ⟨x, 0, none⟩)) ∧ St [] w w' [(true, .is x (snapperObj fo))] := by
  have H := St.init [] w
  go_enter Try.func15, Try.ntmps15
  go_wp2_with (first
    | go_skip
    | go_in
    | ((first
        | (refine loud_ rfl ?_; refine wpList_plain rfl (fun K hK => ?_); (first | (refine op_box _ _ rfl H (fun b w' H1 => hK _ _ ?_)) | (refine op_alloc _ rfl (zero_of _ _ rfl) H (fun b w' H1 => hK _ _ ?_)) | (refine op_store _ _ _ rfl rfl rfl H (by repeat (first | exact Split.here _ _ | apply Split.there)) (by kernel_rfl) (by kernel_rfl) (by kernel_rfl) (fun w' H1 => hK _ _ ?_)) | (refine op_buildSlice_all _ _ _ rfl (by first | exact elem23 | exact elem34 | exact elem51 | exact elem148) (by kernel_rfl) (by kernel_rfl) (by kernel_rfl) H (fun b w' H1 => hK _ _ ?_))); clear hK K; replace H := H1; clear H1)); (try clear hc); (try simp only [nrm, splice, Value.cells, Nat.reduceAdd, Act.eval, Act.put] at H); have hc := H.cells; simp only [CellsOf, KnCells, knc, Nat.reduceAdd] at hc))
  go_ret
  exact ⟨_, rfl, H.top1⟩
end Go.Proofs.Ytfnapcgbjdkpaaa
