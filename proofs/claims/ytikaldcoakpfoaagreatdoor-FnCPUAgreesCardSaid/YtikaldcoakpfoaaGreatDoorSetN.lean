import Derived.Test.YtikaldcoakpfoaaGreatDoorSetM
import Derived.Deep.DeepCutAuto
-- MORE
-- SUB2
namespace Go.Proofs.YtikaldcoakpfoaaGreatDoor
set_option linter.unusedVariables false
set_option linter.unusedSimpArgs false
set_option linter.unnecessarySimpa false
open Go Go.RowKit Go.V Go.Lib

def UoIs (l l2 : List Int) (i : Value) (lr : List Int) : Prop := (i = .int .i64 0 ∧ (∀ x, x ∈ lr ↔ x ∈ l) ∧ lr.length ≤ l.length) ∨ (i = .int .i64 1 ∧ (∀ x, x ∈ lr ↔ x ∈ l ∨ x ∈ l2) ∧ lr.length ≤ l.length + l2.length)
def AtUo (w : World) (m m2 b1 rx ry mr clock clock2 : Nat) (es es2 : Array MapEntry) (l l2 : List Int) (i : Value) (wr : World) : Prop := ∃ (er : Array MapEntry) (cr : Nat) (lr : List Int), Hid (UoIs l l2 i lr) ∧ Hid (SetI er cr lr) ∧
  St [] w wr [(true, .is mr (.map er cr)), (true, .is rx (setObj mr)), (true, .is ry set0), (false, .is m (.map es clock)), (false, .is b1 (setObj m2)), (false, .is m2 (.map es2 clock2))]
set_option maxHeartbeats 800000 in
set_option maxRecDepth 8000 in
theorem cunion_calls (m clock m2 clock2 b1 : Nat) (es es2 : Array MapEntry) (l l2 : List Int) (hl : Hid (SetI es clock l)) (hl2 : Hid (SetI es2 clock2 l2)) (w : World) (H : St [] w w [(false, .is m (.map es clock)), (false, .is b1 (setObj m2)), (false, .is m2 (.map es2 clock2))]) :
    Calls Tryz.prog 28 #[setV m, .slice (some ⟨b1, 0, none⟩) 1 1] w fun e w' => ∃ mr er cr lr, Hid (SetI er cr lr ∧ lr.length ≤ l.length + l2.length ∧ ∀ x, x ∈ lr ↔ x ∈ l ∨ x ∈ l2) ∧ e = .returned (setV mr) ∧ St [] w w' [(true, .is mr (.map er cr))] := by
  go_enter Tryz.func28, Tryz.ntmps28
  repeat' (first | (go_big_may; (first
    | go_skip
    | (refine wpList_plain rfl (fun K hK => ?_); (refine op_range _ _ _ _ rfl cpuU (es := es) (clock := clock) rfl H (H.obj (b := m) (by repeat (first | exact Split.here _ _ | apply Split.there))) (fun r w' H1 => hK _ _ ?_); clear hK K; replace H := H1; clear H1; (try clear hc); (try simp only [nrm, splice, Value.cells, Nat.reduceAdd, Act.eval, Act.put] at H); have hc := H.cells; simp only [CellsOf, KnCells, knc, Nat.reduceAdd] at hc))
    | ((first
        | (go_at_call 27; refine Calls.mono (new0_calls _) ?_; rintro e w' ⟨mr, er0, cr0, hs0, rfl, H'⟩; replace H := H.merge (by first | exact Strikes.nil _ | (repeat (first | exact Strikes.nil _ | (apply Strikes.cons; focus (repeat (first | exact Split.here _ _ | apply Split.there)))))) H' rfl; clear H')
        | (refine loud_ rfl ?_; refine wpList_plain rfl (fun K hK => ?_); (first | (refine op_box _ _ rfl H (fun b w' H1 => hK _ _ ?_)) | (refine op_alloc _ rfl (zero_of _ _ rfl) H (fun b w' H1 => hK _ _ ?_)) | (refine op_store _ _ _ rfl rfl rfl H (by repeat (first | exact Split.here _ _ | apply Split.there)) (by kernel_rfl) (by kernel_rfl) (by kernel_rfl) (fun w' H1 => hK _ _ ?_)) | (refine op_buildSlice_all _ _ _ rfl (by first | exact elem22 | exact elem60 | exact elem66 | exact elem72 | exact elem74) (by kernel_rfl) (by kernel_rfl) (by kernel_rfl) H (fun b w' H1 => hK _ _ ?_))); clear hK K; replace H := H1; clear H1)); (try clear hc); (try simp only [nrm, splice, Value.cells, Nat.reduceAdd, Act.eval, Act.put] at H); have hc := H.cells; simp only [CellsOf, KnCells, knc, Nat.reduceAdd] at hc))) | go_values | go_skip | go_guarded | go_step | go_upon | go_back | dsimp only)
  (try simp only [Act.put, slt])
  obtain ⟨rx, rfl⟩ : ∃ q, q = b := ⟨_, rfl⟩
  obtain ⟨ry, rfl⟩ : ∃ q, q = b := ⟨_, rfl⟩
  obtain ⟨bx, rfl⟩ : ∃ q, q = b := ⟨_, rfl⟩
  have hA0 : AtUn w m r rx ry mr clock es [] 0 [(true, .is bx (setObj m)), (false, .is b1 (setObj m2)), (false, .is m2 (.map es2 clock2))] w' := ⟨#[], [], er0, cr0, [], seen_nil _, ⟨fun x => by simp [KeyIn], Nat.le_refl _⟩, hs0, H.sel (by repeat (first | exact Sel.nil _ | (apply Sel.cons; focus (repeat (first | exact Split.here _ _ | apply Split.there)))))⟩
  clear H hs0
  (try clear hc)
  go_loopw [] (AtUn w m r rx ry mr clock es [] 0 [(true, .is bx (setObj m)), (false, .is b1 (setObj m2)), (false, .is m2 (.map es2 clock2))]) (fun wr => wr.rangeLeft m r)
  case atStart => exact hA0
  case round =>
    clear hA0
    obtain ⟨seen, gs, er, cr, lr, hs, hun, hset, H⟩ := hrel
    have hleft := Lib.hid (range_left (H.obj (b := m) (by repeat (first | exact Split.here _ _ | apply Split.there))) (H.obj (b := r) (by repeat (first | exact Split.here _ _ | apply Split.there))))
    have hborn := hl.out.2.1
    have hnd := hl.out.2.2.1
    have hkeys := Lib.hid (setM_keys hl.out)
    by_cases hlf : (leftOf es seen).size = 0
    · have hall := Lib.hid (keyIn_all hkeys.out (seen_all hs.out hlf hnd))
      have hgl := Lib.hid (seen_all hs.out hlf hnd).length_eq
      have hc := H.cells; simp only [CellsOf, KnCells, knc, Nat.reduceAdd] at hc
      repeat' (first | (go_big_may; (first
    | go_skip
    | (refine wpList_plain rfl (fun K hK => ?_); refine op_next_done _ rfl rfl H (by repeat (first | exact Split.here _ _ | apply Split.there)) (H.obj (by repeat (first | exact Split.here _ _ | apply Split.there))) hborn (Nat.le_refl _) hlf (hK _ _ ?_); clear hK K)
    | ((first
        | (refine loud_ rfl ?_; refine wpList_plain rfl (fun K hK => ?_); (first | (refine op_box _ _ rfl H (fun b w' H1 => hK _ _ ?_)) | (refine op_alloc _ rfl (zero_of _ _ rfl) H (fun b w' H1 => hK _ _ ?_)) | (refine op_store _ _ _ rfl rfl rfl H (by repeat (first | exact Split.here _ _ | apply Split.there)) (by kernel_rfl) (by kernel_rfl) (by kernel_rfl) (fun w' H1 => hK _ _ ?_)) | (refine op_buildSlice_all _ _ _ rfl (by first | exact elem22 | exact elem60 | exact elem66 | exact elem72 | exact elem74) (by kernel_rfl) (by kernel_rfl) (by kernel_rfl) H (fun b w' H1 => hK _ _ ?_))); clear hK K; replace H := H1; clear H1)); (try clear hc); (try simp only [nrm, splice, Value.cells, Nat.reduceAdd, Act.eval, Act.put] at H); have hc := H.cells; simp only [CellsOf, KnCells, knc, Nat.reduceAdd] at hc))) | go_values | go_skip | go_guarded | go_step | go_upon | go_back | dsimp only)
      have hfin : Hid (UoIs l l2 (.int .i64 0) lr) := by
        refine .inl ⟨rfl, fun x => ?_, ?_⟩
        · rw [hun.out.1, hall.out]; simp
        · have := hun.out.2; have := hgl.out; have := setM_size hl.out; simp at *; omega
      have H0 : St [] w wr [(true, .is mr (.map er cr)), (true, .is rx (setObj mr)), (true, .is ry set0), (false, .is m (.map es clock)), (false, .is b1 (setObj m2)), (false, .is m2 (.map es2 clock2))] := H.sel (by repeat (first | exact Sel.nil _ | (apply Sel.cons; focus (repeat (first | exact Split.here _ _ | apply Split.there)))))
      clear H
      (try clear hc)
      go_loopw [24] (AtUo w m m2 b1 rx ry mr clock clock2 es es2 l l2) (fun i _ => 2 - (intOf i).toNat)
      case atStart => exact ⟨er, cr, lr, hfin, hset, H0⟩
      case round =>
        clear H0 hfin hset hun hs
        obtain ⟨er, cr, lr, huo, hset, H⟩ := hrel
        rcases huo.out with ⟨rfl, huo2⟩ | ⟨rfl, huo1, huo2⟩
        · replace huo2 := Lib.hid huo2
          clear huo
          have hc := H.cells; simp only [CellsOf, KnCells, knc, Nat.reduceAdd] at hc
          repeat' (first | (go_big_may; (first
    | go_skip
    | (refine wpList_plain rfl (fun K hK => ?_); (refine op_range _ _ _ _ rfl cpuU (es := es2) (clock := clock2) rfl H (H.obj (b := m2) (by repeat (first | exact Split.here _ _ | apply Split.there))) (fun r w' H1 => hK _ _ ?_); clear hK K; replace H := H1; clear H1; (try clear hc); (try simp only [nrm, splice, Value.cells, Nat.reduceAdd, Act.eval, Act.put] at H); have hc := H.cells; simp only [CellsOf, KnCells, knc, Nat.reduceAdd] at hc))
    | ((first
        | (refine loud_ rfl ?_; refine wpList_plain rfl (fun K hK => ?_); (first | (refine op_box _ _ rfl H (fun b w' H1 => hK _ _ ?_)) | (refine op_alloc _ rfl (zero_of _ _ rfl) H (fun b w' H1 => hK _ _ ?_)) | (refine op_store _ _ _ rfl rfl rfl H (by repeat (first | exact Split.here _ _ | apply Split.there)) (by kernel_rfl) (by kernel_rfl) (by kernel_rfl) (fun w' H1 => hK _ _ ?_)) | (refine op_buildSlice_all _ _ _ rfl (by first | exact elem22 | exact elem60 | exact elem66 | exact elem72 | exact elem74) (by kernel_rfl) (by kernel_rfl) (by kernel_rfl) H (fun b w' H1 => hK _ _ ?_))); clear hK K; replace H := H1; clear H1)); (try clear hc); (try simp only [nrm, splice, Value.cells, Nat.reduceAdd, Act.eval, Act.put] at H); have hc := H.cells; simp only [CellsOf, KnCells, knc, Nat.reduceAdd] at hc))) | go_values | go_skip | go_guarded | go_step | go_upon | go_back | dsimp only)
          (try simp only [Act.put, slt])
          obtain ⟨b8, rfl⟩ : ∃ q, q = b := ⟨_, rfl⟩
          have hA0 : AtUn w m2 r rx ry mr clock2 es2 lr lr.length [(true, .is b8 (setObj m2)), (false, .is m (.map es clock)), (false, .is b1 (setObj m2))] w' := ⟨#[], [], er, cr, lr, seen_nil _, ⟨fun x => by simp [KeyIn], Nat.le_refl _⟩, hset, H.sel (by repeat (first | exact Sel.nil _ | (apply Sel.cons; focus (repeat (first | exact Split.here _ _ | apply Split.there)))))⟩
          generalize hl0 : lr = l0 at *
          clear H
          (try clear hc)
          go_loopw [] (AtUn w m2 r rx ry mr clock2 es2 l0 l0.length [(true, .is b8 (setObj m2)), (false, .is m (.map es clock)), (false, .is b1 (setObj m2))]) (fun wr => wr.rangeLeft m2 r)
          case atStart => exact hA0
          case round =>
            clear hA0 hset
            obtain ⟨seen, gs, er, cr, lr, hs, hun, hset, H⟩ := hrel
            have hleft := Lib.hid (range_left (H.obj (b := m2) (by repeat (first | exact Split.here _ _ | apply Split.there))) (H.obj (b := r) (by repeat (first | exact Split.here _ _ | apply Split.there))))
            have hborn := hl2.out.2.1
            have hnd := hl2.out.2.2.1
            have hkeys := Lib.hid (setM_keys hl2.out)
            by_cases hlf : (leftOf es2 seen).size = 0
            · have hall := Lib.hid (keyIn_all hkeys.out (seen_all hs.out hlf hnd))
              have hgl := Lib.hid (seen_all hs.out hlf hnd).length_eq
              have hc := H.cells; simp only [CellsOf, KnCells, knc, Nat.reduceAdd] at hc
              repeat' (first | (go_big_may; (first
    | go_skip
    | (refine wpList_plain rfl (fun K hK => ?_); refine op_next_done _ rfl rfl H (by repeat (first | exact Split.here _ _ | apply Split.there)) (H.obj (by repeat (first | exact Split.here _ _ | apply Split.there))) hborn (Nat.le_refl _) hlf (hK _ _ ?_); clear hK K)
    | ((first
        | (refine loud_ rfl ?_; refine wpList_plain rfl (fun K hK => ?_); (first | (refine op_box _ _ rfl H (fun b w' H1 => hK _ _ ?_)) | (refine op_alloc _ rfl (zero_of _ _ rfl) H (fun b w' H1 => hK _ _ ?_)) | (refine op_store _ _ _ rfl rfl rfl H (by repeat (first | exact Split.here _ _ | apply Split.there)) (by kernel_rfl) (by kernel_rfl) (by kernel_rfl) (fun w' H1 => hK _ _ ?_)) | (refine op_buildSlice_all _ _ _ rfl (by first | exact elem22 | exact elem60 | exact elem66 | exact elem72 | exact elem74) (by kernel_rfl) (by kernel_rfl) (by kernel_rfl) H (fun b w' H1 => hK _ _ ?_))); clear hK K; replace H := H1; clear H1)); (try clear hc); (try simp only [nrm, splice, Value.cells, Nat.reduceAdd, Act.eval, Act.put] at H); have hc := H.cells; simp only [CellsOf, KnCells, knc, Nat.reduceAdd] at hc))) | go_values | go_skip | go_guarded | go_step | go_upon | go_back | dsimp only)
              have hfin : Hid (UoIs l l2 (.int .i64 1) lr) := by
                refine .inr ⟨rfl, fun x => ?_, ?_⟩
                · rw [hun.out.1, hall.out, huo2.out.1]
                · have := hun.out.2; have := hgl.out; have := setM_size hl2.out; have := huo2.out.2; simp at *; omega
              exact ⟨⟨er, cr, lr, hfin, hset, H.sel (by repeat (first | exact Sel.nil _ | (apply Sel.cons; focus (repeat (first | exact Split.here _ _ | apply Split.there)))))⟩, by decide⟩
            · have hc := H.cells; simp only [CellsOf, KnCells, knc, Nat.reduceAdd] at hc
              go_upto_region 11 with (first
    | go_skip
    | (refine wpList_plain rfl (fun K hK => ?_); (refine op_next_more _ rfl rfl H (by repeat (first | exact Split.here _ _ | apply Split.there)) (H.obj (by repeat (first | exact Split.here _ _ | apply Split.there))) hborn (Nat.le_refl _) hlf (fun en w' he H1 => hK _ _ ?_); clear hK K; replace H := H1; clear H1; (try clear hc); (try simp only [nrm, splice, Value.cells, Nat.reduceAdd, Act.eval, Act.put] at H); have hc := H.cells; simp only [CellsOf, KnCells, knc, Nat.reduceAdd] at hc))
    | ((first
        | (refine loud_ rfl ?_; refine wpList_plain rfl (fun K hK => ?_); (first | (refine op_box _ _ rfl H (fun b w' H1 => hK _ _ ?_)) | (refine op_alloc _ rfl (zero_of _ _ rfl) H (fun b w' H1 => hK _ _ ?_)) | (refine op_store _ _ _ rfl rfl rfl H (by repeat (first | exact Split.here _ _ | apply Split.there)) (by kernel_rfl) (by kernel_rfl) (by kernel_rfl) (fun w' H1 => hK _ _ ?_)) | (refine op_buildSlice_all _ _ _ rfl (by first | exact elem22 | exact elem60 | exact elem66 | exact elem72 | exact elem74) (by kernel_rfl) (by kernel_rfl) (by kernel_rfl) H (fun b w' H1 => hK _ _ ?_))); clear hK K; replace H := H1; clear H1)); (try clear hc); (try simp only [nrm, splice, Value.cells, Nat.reduceAdd, Act.eval, Act.put] at H); have hc := H.cells; simp only [CellsOf, KnCells, knc, Nat.reduceAdd] at hc))
              have hlt := Lib.hid (left_shrinks es2 seen en he)
              have hsp := Lib.hid (seen_push hs.out he)
              have hmem := Lib.hid (mem_left he).1
              obtain ⟨sk, hsk⟩ : ∃ k, en.key = ki k := by
                have : en.key ∈ es2.toList.map (·.key) := List.mem_map.2 ⟨en, hmem.out, rfl⟩
                rw [hkeys.out] at this
                obtain ⟨k, _, hk⟩ := List.mem_map.1 this
                exact ⟨k, hk.symm⟩
              clear he
              obtain ⟨ky, vl, bo⟩ := en
              simp only at hsk
              subst hsk
              have hun2 := Lib.hid (un_step (k := sk) (v := vl) (b := bo) hun.out)
              have hc := H.cells; simp only [CellsOf, KnCells, knc, Nat.reduceAdd] at hc
              repeat' (first | (go_big_may; (first
    | go_skip
    | (refine wpList_plain rfl (fun K hK => ?_); refine op_entry _ rfl rfl H (by repeat (first | exact Split.here _ _ | apply Split.there)) (H.obj (by repeat (first | exact Split.here _ _ | apply Split.there))) hmem.out hnd (hK _ _ ?_); clear hK K)
    | ((first
        | (go_at_call 46; refine Calls.mono (add1_calls _ mr _ sk er cr lr hset _ (H.pick (by repeat (first | exact Picks.nil _ | (apply Picks.wr; focus (repeat (first | exact Split.here _ _ | apply Split.there))) | (apply Picks.rd; focus (repeat (first | exact Split.here _ _ | apply Split.there))))))) ?_; rintro e w' ⟨es', clock', hset', rfl, H'⟩; replace H := H.merge (by first | exact Strikes.nil _ | (repeat (first | exact Strikes.nil _ | (apply Strikes.cons; focus (repeat (first | exact Split.here _ _ | apply Split.there)))))) H' rfl; clear H')
        | (refine loud_ rfl ?_; refine wpList_plain rfl (fun K hK => ?_); (first | (refine op_box _ _ rfl H (fun b w' H1 => hK _ _ ?_)) | (refine op_alloc _ rfl (zero_of _ _ rfl) H (fun b w' H1 => hK _ _ ?_)) | (refine op_store _ _ _ rfl rfl rfl H (by repeat (first | exact Split.here _ _ | apply Split.there)) (by kernel_rfl) (by kernel_rfl) (by kernel_rfl) (fun w' H1 => hK _ _ ?_)) | (refine op_buildSlice_all _ _ _ rfl (by first | exact elem22 | exact elem60 | exact elem66 | exact elem72 | exact elem74) (by kernel_rfl) (by kernel_rfl) (by kernel_rfl) H (fun b w' H1 => hK _ _ ?_))); clear hK K; replace H := H1; clear H1)); (try clear hc); (try simp only [nrm, splice, Value.cells, Nat.reduceAdd, Act.eval, Act.put] at H); have hc := H.cells; simp only [CellsOf, KnCells, knc, Nat.reduceAdd] at hc))) | go_values | go_skip | go_guarded | go_step | go_upon | go_back | dsimp only)
              exact ⟨⟨_, _, es', clock', _, hsp.out, hun2, hset', H.sel (by repeat (first | exact Sel.nil _ | (apply Sel.cons; focus (repeat (first | exact Split.here _ _ | apply Split.there)))))⟩, by have hleft2 := range_left (H.obj (b := m2) (by repeat (first | exact Split.here _ _ | apply Split.there))) (H.obj (b := r) (by repeat (first | exact Split.here _ _ | apply Split.there))); rw [hleft2, hleft.out]; exact hlt.out⟩
        · replace huo1 := Lib.hid huo1
          replace huo2 := Lib.hid huo2
          clear huo
          have hc := H.cells; simp only [CellsOf, KnCells, knc, Nat.reduceAdd] at hc
          repeat' (first | (go_big_may; (first
    | ((first
        | (refine loud_ rfl ?_; refine wpList_plain rfl (fun K hK => ?_); (first | (refine op_box _ _ rfl H (fun b w' H1 => hK _ _ ?_)) | (refine op_alloc _ rfl (zero_of _ _ rfl) H (fun b w' H1 => hK _ _ ?_)) | (refine op_store _ _ _ rfl rfl rfl H (by repeat (first | exact Split.here _ _ | apply Split.there)) (by kernel_rfl) (by kernel_rfl) (by kernel_rfl) (fun w' H1 => hK _ _ ?_)) | (refine op_buildSlice_all _ _ _ rfl (by first | exact elem22 | exact elem60 | exact elem66 | exact elem72 | exact elem74) (by kernel_rfl) (by kernel_rfl) (by kernel_rfl) H (fun b w' H1 => hK _ _ ?_))); clear hK K; replace H := H1; clear H1)); (try clear hc); (try simp only [nrm, splice, Value.cells, Nat.reduceAdd, Act.eval, Act.put] at H); have hc := H.cells; simp only [CellsOf, KnCells, knc, Nat.reduceAdd] at hc))) | go_values | go_skip | go_guarded | go_step | go_upon | go_back | dsimp only)
          have hc := H.cells; simp only [CellsOf, KnCells, knc, Nat.reduceAdd] at hc
          exact bodyPost_ret (v := setV mr) (by simp [results, Tryz.results28, go_sem, hc, Act.put]; try rfl) rfl ⟨mr, er, cr, lr, ⟨hset.out, huo2.out, huo1.out⟩, rfl, H.sel (by repeat (first | exact Sel.nil _ | (apply Sel.cons; focus (repeat (first | exact Split.here _ _ | apply Split.there)))))⟩
    · have hc := H.cells; simp only [CellsOf, KnCells, knc, Nat.reduceAdd] at hc
      go_upto_region 4 with (first
    | go_skip
    | (refine wpList_plain rfl (fun K hK => ?_); (refine op_next_more _ rfl rfl H (by repeat (first | exact Split.here _ _ | apply Split.there)) (H.obj (by repeat (first | exact Split.here _ _ | apply Split.there))) hborn (Nat.le_refl _) hlf (fun en w' he H1 => hK _ _ ?_); clear hK K; replace H := H1; clear H1; (try clear hc); (try simp only [nrm, splice, Value.cells, Nat.reduceAdd, Act.eval, Act.put] at H); have hc := H.cells; simp only [CellsOf, KnCells, knc, Nat.reduceAdd] at hc))
    | ((first
        | (refine loud_ rfl ?_; refine wpList_plain rfl (fun K hK => ?_); (first | (refine op_box _ _ rfl H (fun b w' H1 => hK _ _ ?_)) | (refine op_alloc _ rfl (zero_of _ _ rfl) H (fun b w' H1 => hK _ _ ?_)) | (refine op_store _ _ _ rfl rfl rfl H (by repeat (first | exact Split.here _ _ | apply Split.there)) (by kernel_rfl) (by kernel_rfl) (by kernel_rfl) (fun w' H1 => hK _ _ ?_)) | (refine op_buildSlice_all _ _ _ rfl (by first | exact elem22 | exact elem60 | exact elem66 | exact elem72 | exact elem74) (by kernel_rfl) (by kernel_rfl) (by kernel_rfl) H (fun b w' H1 => hK _ _ ?_))); clear hK K; replace H := H1; clear H1)); (try clear hc); (try simp only [nrm, splice, Value.cells, Nat.reduceAdd, Act.eval, Act.put] at H); have hc := H.cells; simp only [CellsOf, KnCells, knc, Nat.reduceAdd] at hc))
      have hlt := Lib.hid (left_shrinks es seen en he)
      have hsp := Lib.hid (seen_push hs.out he)
      have hmem := Lib.hid (mem_left he).1
      obtain ⟨sk, hsk⟩ : ∃ k, en.key = ki k := by
        have : en.key ∈ es.toList.map (·.key) := List.mem_map.2 ⟨en, hmem.out, rfl⟩
        rw [hkeys.out] at this
        obtain ⟨k, _, hk⟩ := List.mem_map.1 this
        exact ⟨k, hk.symm⟩
      clear he
      obtain ⟨ky, vl, bo⟩ := en
      simp only at hsk
      subst hsk
      have hun2 := Lib.hid (un_step (k := sk) (v := vl) (b := bo) hun.out)
      have hc := H.cells; simp only [CellsOf, KnCells, knc, Nat.reduceAdd] at hc
      repeat' (first | (go_big_may; (first
    | go_skip
    | (refine wpList_plain rfl (fun K hK => ?_); refine op_entry _ rfl rfl H (by repeat (first | exact Split.here _ _ | apply Split.there)) (H.obj (by repeat (first | exact Split.here _ _ | apply Split.there))) hmem.out hnd (hK _ _ ?_); clear hK K)
    | ((first
        | (go_at_call 46; refine Calls.mono (add1_calls _ mr _ sk er cr lr hset _ (H.pick (by repeat (first | exact Picks.nil _ | (apply Picks.wr; focus (repeat (first | exact Split.here _ _ | apply Split.there))) | (apply Picks.rd; focus (repeat (first | exact Split.here _ _ | apply Split.there))))))) ?_; rintro e w' ⟨es', clock', hset', rfl, H'⟩; replace H := H.merge (by first | exact Strikes.nil _ | (repeat (first | exact Strikes.nil _ | (apply Strikes.cons; focus (repeat (first | exact Split.here _ _ | apply Split.there)))))) H' rfl; clear H')
        | (refine loud_ rfl ?_; refine wpList_plain rfl (fun K hK => ?_); (first | (refine op_box _ _ rfl H (fun b w' H1 => hK _ _ ?_)) | (refine op_alloc _ rfl (zero_of _ _ rfl) H (fun b w' H1 => hK _ _ ?_)) | (refine op_store _ _ _ rfl rfl rfl H (by repeat (first | exact Split.here _ _ | apply Split.there)) (by kernel_rfl) (by kernel_rfl) (by kernel_rfl) (fun w' H1 => hK _ _ ?_)) | (refine op_buildSlice_all _ _ _ rfl (by first | exact elem22 | exact elem60 | exact elem66 | exact elem72 | exact elem74) (by kernel_rfl) (by kernel_rfl) (by kernel_rfl) H (fun b w' H1 => hK _ _ ?_))); clear hK K; replace H := H1; clear H1)); (try clear hc); (try simp only [nrm, splice, Value.cells, Nat.reduceAdd, Act.eval, Act.put] at H); have hc := H.cells; simp only [CellsOf, KnCells, knc, Nat.reduceAdd] at hc))) | go_values | go_skip | go_guarded | go_step | go_upon | go_back | dsimp only)
      exact ⟨⟨_, _, es', clock', _, hsp.out, hun2, hset', H.sel (by repeat (first | exact Sel.nil _ | (apply Sel.cons; focus (repeat (first | exact Split.here _ _ | apply Split.there)))))⟩, by have hleft2 := range_left (H.obj (b := m) (by repeat (first | exact Split.here _ _ | apply Split.there))) (H.obj (b := r) (by repeat (first | exact Split.here _ _ | apply Split.there))); rw [hleft2, hleft.out]; exact hlt.out⟩
end Go.Proofs.YtikaldcoakpfoaaGreatDoor
