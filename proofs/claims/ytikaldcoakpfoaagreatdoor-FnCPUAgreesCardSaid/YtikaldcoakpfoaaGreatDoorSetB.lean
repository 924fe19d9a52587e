import Derived.Test.YtikaldcoakpfoaaGreatDoorSetA
import Derived.Test.YtikaldcoakpfoaaGreatDoorCpuC
import Derived.Deep.DeepCutAuto
-- MORE
-- SUB2
namespace Go.Proofs.YtikaldcoakpfoaaGreatDoor
set_option linter.unusedVariables false
set_option linter.unusedSimpArgs false
set_option linter.unnecessarySimpa false
open Go Go.RowKit Go.V Go.Lib

def KeyIn (gs : List MapEntry) (x : Int) : Prop := ∃ e ∈ gs, e.key = ki x
theorem ki_inj {a b : Int} (h : ki a = ki b) : a = b := by cases h; rfl
theorem keyIn_nil (x : Int) : ¬ KeyIn [] x := by rintro ⟨e, he, _⟩; cases he
theorem keyIn_snoc (gs : List MapEntry) (k : Int) (v : Value) (b : Nat) (x : Int) : KeyIn (gs ++ [⟨ki k, v, b⟩]) x ↔ KeyIn gs x ∨ x = k := by
  constructor
  · rintro ⟨e, he, hk⟩
    rcases List.mem_append.1 he with he | he
    · exact .inl ⟨e, he, hk⟩
    · simp only [List.mem_singleton] at he
      subst he
      exact .inr (ki_inj hk).symm
  · rintro (⟨e, he, hk⟩ | rfl)
    · exact ⟨e, List.mem_append_left _ he, hk⟩
    · exact ⟨_, List.mem_append_right _ (List.mem_singleton.2 rfl), rfl⟩
theorem keyIn_all {es : Array MapEntry} {l : List Int} {gs : List MapEntry} (hk : es.toList.map (·.key) = l.map ki) (hp : gs.Perm es.toList) (x : Int) : KeyIn gs x ↔ x ∈ l := by
  constructor
  · rintro ⟨e, he, hx⟩
    have : e.key ∈ es.toList.map (·.key) := List.mem_map.2 ⟨e, hp.mem_iff.1 he, rfl⟩
    rw [hk, hx] at this
    obtain ⟨y, hy, e2⟩ := List.mem_map.1 this
    rw [← ki_inj e2]
    exact hy
  · intro hx
    have : ki x ∈ es.toList.map (·.key) := by rw [hk]; exact List.mem_map_of_mem hx
    obtain ⟨e, he, e2⟩ := List.mem_map.1 this
    exact ⟨e, hp.mem_iff.2 he, e2⟩
def FiltIs (p : Int → Prop) (gs : List MapEntry) (lr : List Int) : Prop := (∀ x, x ∈ lr ↔ KeyIn gs x ∧ p x) ∧ lr.length ≤ gs.length
theorem filt_nil (p : Int → Prop) : FiltIs p [] [] := ⟨fun x => ⟨fun h => (by cases h), fun h => absurd h.1 (keyIn_nil x)⟩, Nat.le_refl _⟩
theorem filt_in {p : Int → Prop} {gs : List MapEntry} {lr : List Int} {k : Int} {v : Value} {b : Nat} (h : FiltIs p gs lr) (hk : p k) : FiltIs p (gs ++ [⟨ki k, v, b⟩]) (ins lr k) := by
  refine ⟨fun x => ?_, ?_⟩
  · rw [ins_mem, h.1, keyIn_snoc]
    constructor
    · rintro (⟨a, b⟩ | rfl)
      · exact ⟨.inl a, b⟩
      · exact ⟨.inr rfl, hk⟩
    · rintro ⟨a | rfl, b⟩
      · exact .inl ⟨a, b⟩
      · exact .inr rfl
  · have := ins_len lr k
    have := h.2
    rw [List.length_append, List.length_singleton]
    omega
theorem filt_out {p : Int → Prop} {gs : List MapEntry} {lr : List Int} {k : Int} {v : Value} {b : Nat} (h : FiltIs p gs lr) (hk : ¬ p k) : FiltIs p (gs ++ [⟨ki k, v, b⟩]) lr := by
  refine ⟨fun x => ?_, ?_⟩
  · rw [h.1, keyIn_snoc]
    constructor
    · rintro ⟨a, b⟩
      exact ⟨.inl a, b⟩
    · rintro ⟨a | rfl, b⟩
      · exact ⟨a, b⟩
      · exact absurd b hk
  · have := h.2
    rw [List.length_append, List.length_singleton]
    omega
theorem insert1_calls (S : List Nat) (m b1 : Nat) (k : Int) (es : Array MapEntry) (clock : Nat) (l : List Int) (hl : Hid (SetI es clock l)) (w : World) (H : St S w w [(true, .is m (.map es clock)), (false, .is b1 (.cells #[ki k] 3 (0, 0)))]) :
    Calls Tryz.prog 38 #[.map (some m), .slice (some ⟨b1, 0, none⟩) 1 1] w fun e w' => ∃ es' clock', Hid (SetI es' clock' (ins l k)) ∧ e = .returned (.map (some m)) ∧ St S w w' [(true, .is m (.map es' clock'))] :=
  insert_calls S m es clock l (some ⟨b1, 0, none⟩) [k] 1 1 hl rfl (by omega) w ((H.litSoft' (b := b1) (xs := [ki k]) (Split.there _ (Split.here _ _)) rfl).sel (L' := [(true, .is m (.map es clock)), (false, soft (some ⟨b1, 0, none⟩) (intsN [k]))]) (by repeat (first | exact Sel.nil _ | (apply Sel.cons; focus (repeat (first | exact Split.here _ _ | apply Split.there))))))
def AtSu (w : World) (m r clock : Nat) (es : Array MapEntry) (b : Value) (wr : World) : Prop := ∃ (key : Option Nat) (n cap : Nat) (seen : Array Nat) (gs : List MapEntry) (vs : List Value), b = sl key n cap ∧ Hid (SeenIs es seen gs) ∧ Hid (vs = gs.map (·.key) ∧ n = gs.length) ∧ n ≤ es.size ∧
  St [] w wr [(true, .row key 3 1 n cap vs), (true, .is r (.mapIter (some m) clock seen clock)), (false, .is m (.map es clock))]
set_option maxHeartbeats 800000 in
set_option maxRecDepth 8000 in
theorem sunsorted_calls (m clock : Nat) (es : Array MapEntry) (l : List Int) (hl : Hid (SetI es clock l)) (hln : l.length ≤ 100000000) (w : World) (H : St [] w w [(false, .is m (.map es clock))]) :
    Calls Tryz.prog 39 #[.map (some m)] w fun e w' => ∃ key n cap zs, Hid (zs.Perm l ∧ n = zs.length) ∧ e = .returned (sl key n cap) ∧ St [] w w' [(true, .row key 3 1 n cap (intsN zs))] := by
  have hes : es.size ≤ 100000000 := by rw [setM_size hl.out]; exact hln
  go_enter Tryz.func39, Tryz.ntmps39
  repeat' (first | (go_big_may; (first
    | go_skip
    | (refine wpList_plain rfl (fun K hK => ?_); refine op_lenMap _ _ _ _ rfl setU rfl (H.obj (b := m) (by repeat (first | exact Split.here _ _ | apply Split.there))) (hK _ _ ?_); clear hK K)
    | (refine wpList_plain rfl (fun K hK => ?_); (refine op_range _ _ _ _ rfl setU (es := es) (clock := clock) rfl H (H.obj (b := m) (by repeat (first | exact Split.here _ _ | apply Split.there))) (fun r w' H1 => hK _ _ ?_); clear hK K; replace H := H1; clear H1; (try clear hc); (try simp only [nrm, splice, Value.cells, Nat.reduceAdd, Act.eval, Act.put] at H); have hc := H.cells; simp only [CellsOf, KnCells, knc, Nat.reduceAdd] at hc))
    | ((first
        | (refine loud_ rfl ?_; refine wpList_plain rfl (fun K hK => ?_); (first | (refine op_make0 _ _ _ rfl elem22 rfl rfl H (by omega) (by unfold maxLen; omega) (fun kb w' H1 => hK _ _ ?_)) | (refine op_box _ _ rfl H (fun b w' H1 => hK _ _ ?_)) | (refine op_alloc _ rfl (zero_of _ _ rfl) H (fun b w' H1 => hK _ _ ?_)) | (refine op_store _ _ _ rfl rfl rfl H (by repeat (first | exact Split.here _ _ | apply Split.there)) (by kernel_rfl) (by kernel_rfl) (by kernel_rfl) (fun w' H1 => hK _ _ ?_)) | (refine op_buildSlice_all _ _ _ rfl (by first | exact elem22 | exact elem60 | exact elem66 | exact elem72 | exact elem74) (by kernel_rfl) (by kernel_rfl) (by kernel_rfl) H (fun b w' H1 => hK _ _ ?_))); clear hK K; replace H := H1; clear H1)); (try clear hc); (try simp only [nrm, splice, Value.cells, Nat.reduceAdd, Act.eval, Act.put] at H); have hc := H.cells; simp only [CellsOf, KnCells, knc, Nat.reduceAdd] at hc))) | go_values | go_skip | go_guarded | go_step | go_upon | go_back | dsimp only)
  (try simp only [Act.put, slt])
  have hA0 : AtSu w m r clock es (sl (some kb) 0 es.size) w' := ⟨some kb, 0, es.size, #[], [], [], rfl, seen_nil _, ⟨rfl, rfl⟩, Nat.zero_le _, H.sel (by repeat (first | exact Sel.nil _ | (apply Sel.cons; focus (repeat (first | exact Split.here _ _ | apply Split.there)))))⟩
  clear H hc
  go_loopw [3] (AtSu w m r clock es) (fun _ wr => wr.rangeLeft m r)
  case atStart => exact hA0
  case round =>
    clear hA0
    obtain ⟨key, n, cap, seen, gs, vs, rfl, hs, hv, hn, H⟩ := hrel
    have hleft := Lib.hid (range_left (H.obj (b := m) (by repeat (first | exact Split.here _ _ | apply Split.there))) (H.obj (b := r) (by repeat (first | exact Split.here _ _ | apply Split.there))))
    have hborn := hl.out.2.1
    have hnd := hl.out.2.2.1
    have hkeys := Lib.hid (setM_keys hl.out)
    by_cases hlf : (leftOf es seen).size = 0
    · have hall := Lib.hid (keyIn_all hkeys.out (seen_all hs.out hlf hnd))
      have hgl := Lib.hid (seen_all hs.out hlf hnd).length_eq
      have hc := H.cells; simp only [CellsOf, KnCells, knc, Nat.reduceAdd] at hc
      repeat' (first | (go_big_may; (first
    | go_skip
    | (refine wpList_plain rfl (fun K hK => ?_); refine op_next_done _ rfl rfl H (by repeat (first | exact Split.here _ _ | apply Split.there)) (H.obj (by repeat (first | exact Split.here _ _ | apply Split.there))) hborn (Nat.le_refl _) hlf (hK _ _ ?_); clear hK K)
    | ((first
        | (refine loud_ rfl ?_; refine wpList_plain rfl (fun K hK => ?_); (first | (refine op_box _ _ rfl H (fun b w' H1 => hK _ _ ?_)) | (refine op_alloc _ rfl (zero_of _ _ rfl) H (fun b w' H1 => hK _ _ ?_)) | (refine op_store _ _ _ rfl rfl rfl H (by repeat (first | exact Split.here _ _ | apply Split.there)) (by kernel_rfl) (by kernel_rfl) (by kernel_rfl) (fun w' H1 => hK _ _ ?_)) | (refine op_buildSlice_all _ _ _ rfl (by first | exact elem22 | exact elem60 | exact elem66 | exact elem72 | exact elem74) (by kernel_rfl) (by kernel_rfl) (by kernel_rfl) H (fun b w' H1 => hK _ _ ?_))); clear hK K; replace H := H1; clear H1)); (try clear hc); (try simp only [nrm, splice, Value.cells, Nat.reduceAdd, Act.eval, Act.put] at H); have hc := H.cells; simp only [CellsOf, KnCells, knc, Nat.reduceAdd] at hc))) | go_values | go_skip | go_guarded | go_step | go_upon | go_back | dsimp only)
      obtain ⟨zs, hz1, hz2⟩ := ints_perm hkeys.out (seen_all hs.out hlf hnd)
      have hvv := hv.out.1
      rw [hz1] at hvv
      subst hvv
      have hfin : Hid (zs.Perm l ∧ n = zs.length) := by
        refine ⟨hz2, ?_⟩
        have h1 := congrArg List.length hz1
        rw [List.length_map, intsN_len] at h1
        rw [hv.out.2, h1]
      go_ret
      exact ⟨key, n, cap, zs, hfin, rfl, H.top1⟩
    · have hc := H.cells; simp only [CellsOf, KnCells, knc, Nat.reduceAdd] at hc
      go_upto_region 4 with (first
    | go_skip
    | (refine wpList_plain rfl (fun K hK => ?_); (refine op_next_more _ rfl rfl H (by repeat (first | exact Split.here _ _ | apply Split.there)) (H.obj (by repeat (first | exact Split.here _ _ | apply Split.there))) hborn (Nat.le_refl _) hlf (fun en w' he H1 => hK _ _ ?_); clear hK K; replace H := H1; clear H1; (try clear hc); (try simp only [nrm, splice, Value.cells, Nat.reduceAdd, Act.eval, Act.put] at H); have hc := H.cells; simp only [CellsOf, KnCells, knc, Nat.reduceAdd] at hc))
    | ((first
        | (refine loud_ rfl ?_; refine wpList_plain rfl (fun K hK => ?_); (first | (refine op_box _ _ rfl H (fun b w' H1 => hK _ _ ?_)) | (refine op_alloc _ rfl (zero_of _ _ rfl) H (fun b w' H1 => hK _ _ ?_)) | (refine op_store _ _ _ rfl rfl rfl H (by repeat (first | exact Split.here _ _ | apply Split.there)) (by kernel_rfl) (by kernel_rfl) (by kernel_rfl) (fun w' H1 => hK _ _ ?_)) | (refine op_buildSlice_all _ _ _ rfl (by first | exact elem22 | exact elem60 | exact elem66 | exact elem72 | exact elem74) (by kernel_rfl) (by kernel_rfl) (by kernel_rfl) H (fun b w' H1 => hK _ _ ?_))); clear hK K; replace H := H1; clear H1)); (try clear hc); (try simp only [nrm, splice, Value.cells, Nat.reduceAdd, Act.eval, Act.put] at H); have hc := H.cells; simp only [CellsOf, KnCells, knc, Nat.reduceAdd] at hc))
      have hlt := Lib.hid (left_shrinks es seen en he)
      have hsp := Lib.hid (seen_push hs.out he)
      have hmem := Lib.hid (mem_left he).1
      obtain ⟨sk, hsk⟩ : ∃ k, en.key = ki k := by
        have : en.key ∈ es.toList.map (·.key) := List.mem_map.2 ⟨en, hmem.out, rfl⟩
        rw [hkeys.out] at this
        obtain ⟨k, _, hk⟩ := List.mem_map.1 this
        exact ⟨k, hk.symm⟩
      clear he
      obtain ⟨ky, vl, bo⟩ := en
      simp only at hsk
      subst hsk
      have hle := seen_len hsp.out
      have hl9 : Hid (n + 1 ≤ es.size ∧ vs ++ [ki sk] = (gs ++ [(⟨ki sk, vl, bo⟩ : MapEntry)]).map (·.key) ∧ n + 1 = (gs ++ [(⟨ki sk, vl, bo⟩ : MapEntry)]).length) := by
        rw [List.length_append] at hle
        have := hv.out.2
        refine ⟨by simp at hle; omega, by rw [hv.out.1]; simp, by simp; omega⟩
      clear hle
      have hnum : n + 1 ≤ 100000001 := by omega
      have hc := H.cells; simp only [CellsOf, KnCells, knc, Nat.reduceAdd] at hc
      repeat' (first | (go_big_may; (first
    | go_skip
    | (refine wpList_plain rfl (fun K hK => ?_); refine op_entry _ rfl rfl H (by repeat (first | exact Split.here _ _ | apply Split.there)) (H.obj (by repeat (first | exact Split.here _ _ | apply Split.there))) hmem.out hnd (hK _ _ ?_); clear hK K)
    | ((first
        | (refine loud_ rfl ?_; refine wpList_plain rfl (fun K hK => ?_); (first | (refine op_append_lit _ _ _ rfl elem22 rfl rfl H (by repeat (first | exact Split.here _ _ | apply Split.there)) (by repeat (first | exact Split.here _ _ | apply Split.there)) (by kernel_rfl) (by kernel_rfl) (by omega) (by unfold maxLen; omega) (fun key cap' w' H1 => hK _ _ ?_)) | (refine op_box _ _ rfl H (fun b w' H1 => hK _ _ ?_)) | (refine op_alloc _ rfl (zero_of _ _ rfl) H (fun b w' H1 => hK _ _ ?_)) | (refine op_store _ _ _ rfl rfl rfl H (by repeat (first | exact Split.here _ _ | apply Split.there)) (by kernel_rfl) (by kernel_rfl) (by kernel_rfl) (fun w' H1 => hK _ _ ?_)) | (refine op_buildSlice_all _ _ _ rfl (by first | exact elem22 | exact elem60 | exact elem66 | exact elem72 | exact elem74) (by kernel_rfl) (by kernel_rfl) (by kernel_rfl) H (fun b w' H1 => hK _ _ ?_))); clear hK K; replace H := H1; clear H1)); (try clear hc); (try simp only [nrm, splice, Value.cells, Nat.reduceAdd, Act.eval, Act.put] at H); have hc := H.cells; simp only [CellsOf, KnCells, knc, Nat.reduceAdd] at hc))) | go_values | go_skip | go_guarded | go_step | go_upon | go_back | dsimp only)
      exact ⟨⟨key, n + 1, cap', _, _, _, rfl, hsp.out, ⟨hl9.out.2.1, hl9.out.2.2⟩, hl9.out.1, H.sel (by repeat (first | exact Sel.nil _ | (apply Sel.cons; focus (repeat (first | exact Split.here _ _ | apply Split.there)))))⟩, by have hleft2 := range_left (H.obj (b := m) (by repeat (first | exact Split.here _ _ | apply Split.there))) (H.obj (b := r) (by repeat (first | exact Split.here _ _ | apply Split.there))); rw [hleft2, hleft.out]; exact hlt.out⟩
set_option maxHeartbeats 800000 in
set_option maxRecDepth 8000 in
theorem slen_calls (m clock : Nat) (es : Array MapEntry) (l : List Int) (hl : Hid (SetI es clock l)) (w : World) (hm : w.heap[m]? = some (.map es clock)) :
    Calls Tryz.prog 40 #[.map (some m)] w fun e w' => e = .returned (.int .i64 l.length) ∧ Ext [] w w' := by
  have H : St [] w w [(false, .is m (.map es clock))] := (St.init [] w).read _ hm (by simp)
  rw [← setM_size hl.out]
  go_enter Tryz.func40, Tryz.ntmps40
  repeat' (first | (go_big_may; (first
    | go_skip
    | (refine wpList_plain rfl (fun K hK => ?_); refine op_lenMap _ _ _ _ rfl setU rfl (H.obj (b := m) (by repeat (first | exact Split.here _ _ | apply Split.there))) (hK _ _ ?_); clear hK K)
    | ((first
        | (refine loud_ rfl ?_; refine wpList_plain rfl (fun K hK => ?_); (first | (refine op_box _ _ rfl H (fun b w' H1 => hK _ _ ?_)) | (refine op_alloc _ rfl (zero_of _ _ rfl) H (fun b w' H1 => hK _ _ ?_)) | (refine op_store _ _ _ rfl rfl rfl H (by repeat (first | exact Split.here _ _ | apply Split.there)) (by kernel_rfl) (by kernel_rfl) (by kernel_rfl) (fun w' H1 => hK _ _ ?_)) | (refine op_buildSlice_all _ _ _ rfl (by first | exact elem22 | exact elem60 | exact elem66 | exact elem72 | exact elem74) (by kernel_rfl) (by kernel_rfl) (by kernel_rfl) H (fun b w' H1 => hK _ _ ?_))); clear hK K; replace H := H1; clear H1)); (try clear hc); (try simp only [nrm, splice, Value.cells, Nat.reduceAdd, Act.eval, Act.put] at H); have hc := H.cells; simp only [CellsOf, KnCells, knc, Nat.reduceAdd] at hc))) | go_values | go_skip | go_guarded | go_step | go_upon | go_back | dsimp only)
  go_ret
  exact ⟨rfl, H.ext⟩
def AtFi (w : World) (m r m2 mr clock clock2 : Nat) (es es2 : Array MapEntry) (p : Int → Prop) (wr : World) : Prop := ∃ (seen : Array Nat) (gs : List MapEntry) (er : Array MapEntry) (cr : Nat) (lr : List Int), Hid (SeenIs es seen gs) ∧ Hid (FiltIs p gs lr) ∧ Hid (SetI er cr lr) ∧
  St [] w wr [(true, .is mr (.map er cr)), (true, .is r (.mapIter (some m) clock seen clock)), (false, .is m (.map es clock)), (false, .is m2 (.map es2 clock2))]
set_option maxHeartbeats 800000 in
set_option maxRecDepth 8000 in
theorem sdiff_calls (m clock m2 clock2 : Nat) (es es2 : Array MapEntry) (l l2 : List Int) (hl : Hid (SetI es clock l)) (hl2 : Hid (SetI es2 clock2 l2)) (w : World) (H : St [] w w [(false, .is m (.map es clock)), (false, .is m2 (.map es2 clock2))]) :
    Calls Tryz.prog 17 #[.map (some m), .map (some m2)] w fun e w' => ∃ mr er cr lr, Hid (SetI er cr lr ∧ lr.length ≤ l.length ∧ ∀ x, x ∈ lr ↔ x ∈ l ∧ x ∉ l2) ∧ e = .returned (.map (some mr)) ∧ St [] w w' [(true, .is mr (.map er cr))] := by
  go_enter Tryz.func17, Tryz.ntmps17
  repeat' (first | (go_big_may; (first
    | go_skip
    | (refine wpList_plain rfl (fun K hK => ?_); (refine op_range _ _ _ _ rfl setU (es := es) (clock := clock) rfl H (H.obj (b := m) (by repeat (first | exact Split.here _ _ | apply Split.there))) (fun r w' H1 => hK _ _ ?_); clear hK K; replace H := H1; clear H1; (try clear hc); (try simp only [nrm, splice, Value.cells, Nat.reduceAdd, Act.eval, Act.put] at H); have hc := H.cells; simp only [CellsOf, KnCells, knc, Nat.reduceAdd] at hc))
    | ((first
        | (refine loud_ rfl ?_; refine wpList_plain rfl (fun K hK => ?_); (first | (refine op_makeMap _ rfl H (fun mr w' H1 => hK _ _ ?_)) | (refine op_box _ _ rfl H (fun b w' H1 => hK _ _ ?_)) | (refine op_alloc _ rfl (zero_of _ _ rfl) H (fun b w' H1 => hK _ _ ?_)) | (refine op_store _ _ _ rfl rfl rfl H (by repeat (first | exact Split.here _ _ | apply Split.there)) (by kernel_rfl) (by kernel_rfl) (by kernel_rfl) (fun w' H1 => hK _ _ ?_)) | (refine op_buildSlice_all _ _ _ rfl (by first | exact elem22 | exact elem60 | exact elem66 | exact elem72 | exact elem74) (by kernel_rfl) (by kernel_rfl) (by kernel_rfl) H (fun b w' H1 => hK _ _ ?_))); clear hK K; replace H := H1; clear H1)); (try clear hc); (try simp only [nrm, splice, Value.cells, Nat.reduceAdd, Act.eval, Act.put] at H); have hc := H.cells; simp only [CellsOf, KnCells, knc, Nat.reduceAdd] at hc))) | go_values | go_skip | go_guarded | go_step | go_upon | go_back | dsimp only)
  (try simp only [Act.put, slt])
  have hA0 : AtFi w m r m2 mr clock clock2 es es2 (fun x => x ∉ l2) w' := ⟨#[], [], #[], 0, [], seen_nil _, filt_nil _, setM_nil _ _, H.sel (by repeat (first | exact Sel.nil _ | (apply Sel.cons; focus (repeat (first | exact Split.here _ _ | apply Split.there)))))⟩
  clear H
  (try clear hc)
  go_loopw [] (AtFi w m r m2 mr clock clock2 es es2 (fun x => x ∉ l2)) (fun wr => wr.rangeLeft m r)
  case atStart => exact hA0
  case round =>
    clear hA0
    obtain ⟨seen, gs, er, cr, lr, hs, hfi, hset, H⟩ := hrel
    have hleft := Lib.hid (range_left (H.obj (b := m) (by repeat (first | exact Split.here _ _ | apply Split.there))) (H.obj (b := r) (by repeat (first | exact Split.here _ _ | apply Split.there))))
    have hborn := hl.out.2.1
    have hnd := hl.out.2.2.1
    have hkeys := Lib.hid (setM_keys hl.out)
    by_cases hlf : (leftOf es seen).size = 0
    · have hall := Lib.hid (keyIn_all hkeys.out (seen_all hs.out hlf hnd))
      have hgl := Lib.hid (seen_all hs.out hlf hnd).length_eq
      have hc := H.cells; simp only [CellsOf, KnCells, knc, Nat.reduceAdd] at hc
      repeat' (first | (go_big_may; (first
    | go_skip
    | (refine wpList_plain rfl (fun K hK => ?_); refine op_next_done _ rfl rfl H (by repeat (first | exact Split.here _ _ | apply Split.there)) (H.obj (by repeat (first | exact Split.here _ _ | apply Split.there))) hborn (Nat.le_refl _) hlf (hK _ _ ?_); clear hK K)
    | ((first
        | (refine loud_ rfl ?_; refine wpList_plain rfl (fun K hK => ?_); (first | (refine op_box _ _ rfl H (fun b w' H1 => hK _ _ ?_)) | (refine op_alloc _ rfl (zero_of _ _ rfl) H (fun b w' H1 => hK _ _ ?_)) | (refine op_store _ _ _ rfl rfl rfl H (by repeat (first | exact Split.here _ _ | apply Split.there)) (by kernel_rfl) (by kernel_rfl) (by kernel_rfl) (fun w' H1 => hK _ _ ?_)) | (refine op_buildSlice_all _ _ _ rfl (by first | exact elem22 | exact elem60 | exact elem66 | exact elem72 | exact elem74) (by kernel_rfl) (by kernel_rfl) (by kernel_rfl) H (fun b w' H1 => hK _ _ ?_))); clear hK K; replace H := H1; clear H1)); (try clear hc); (try simp only [nrm, splice, Value.cells, Nat.reduceAdd, Act.eval, Act.put] at H); have hc := H.cells; simp only [CellsOf, KnCells, knc, Nat.reduceAdd] at hc))) | go_values | go_skip | go_guarded | go_step | go_upon | go_back | dsimp only)
      have hfin : Hid (∀ x, x ∈ lr ↔ x ∈ l ∧ (fun x => x ∉ l2) x) := by
        intro x
        rw [hfi.out.1, hall.out]
      have hfl : lr.length ≤ l.length := by have := hfi.out.2; have := hgl.out; have := setM_size hl.out; simp at *; omega
      go_ret
      exact ⟨mr, er, cr, lr, ⟨hset.out, hfl, hfin.out⟩, rfl, H.top1⟩
    · have hc := H.cells; simp only [CellsOf, KnCells, knc, Nat.reduceAdd] at hc
      go_upto_region 4 with (first
    | go_skip
    | (refine wpList_plain rfl (fun K hK => ?_); (refine op_next_more _ rfl rfl H (by repeat (first | exact Split.here _ _ | apply Split.there)) (H.obj (by repeat (first | exact Split.here _ _ | apply Split.there))) hborn (Nat.le_refl _) hlf (fun en w' he H1 => hK _ _ ?_); clear hK K; replace H := H1; clear H1; (try clear hc); (try simp only [nrm, splice, Value.cells, Nat.reduceAdd, Act.eval, Act.put] at H); have hc := H.cells; simp only [CellsOf, KnCells, knc, Nat.reduceAdd] at hc))
    | ((first
        | (refine loud_ rfl ?_; refine wpList_plain rfl (fun K hK => ?_); (first | (refine op_box _ _ rfl H (fun b w' H1 => hK _ _ ?_)) | (refine op_alloc _ rfl (zero_of _ _ rfl) H (fun b w' H1 => hK _ _ ?_)) | (refine op_store _ _ _ rfl rfl rfl H (by repeat (first | exact Split.here _ _ | apply Split.there)) (by kernel_rfl) (by kernel_rfl) (by kernel_rfl) (fun w' H1 => hK _ _ ?_)) | (refine op_buildSlice_all _ _ _ rfl (by first | exact elem22 | exact elem60 | exact elem66 | exact elem72 | exact elem74) (by kernel_rfl) (by kernel_rfl) (by kernel_rfl) H (fun b w' H1 => hK _ _ ?_))); clear hK K; replace H := H1; clear H1)); (try clear hc); (try simp only [nrm, splice, Value.cells, Nat.reduceAdd, Act.eval, Act.put] at H); have hc := H.cells; simp only [CellsOf, KnCells, knc, Nat.reduceAdd] at hc))
      have hlt := Lib.hid (left_shrinks es seen en he)
      have hsp := Lib.hid (seen_push hs.out he)
      have hmem := Lib.hid (mem_left he).1
      obtain ⟨sk, hsk⟩ : ∃ k, en.key = ki k := by
        have : en.key ∈ es.toList.map (·.key) := List.mem_map.2 ⟨en, hmem.out, rfl⟩
        rw [hkeys.out] at this
        obtain ⟨k, _, hk⟩ := List.mem_map.1 this
        exact ⟨k, hk.symm⟩
      clear he
      obtain ⟨ky, vl, bo⟩ := en
      simp only at hsk
      subst hsk
      by_cases hq : sk ∉ l2
      · have hd : decide (sk ∈ l2) = false := by simp; exact hq
        have hfi2 := Lib.hid (filt_in (v := vl) (b := bo) hfi.out (k := sk) (by exact hq))
        have hq2 := Lib.hid hq
        clear hq
        have hc := H.cells; simp only [CellsOf, KnCells, knc, Nat.reduceAdd] at hc
        repeat' (first | (go_big_may; (first
    | go_skip
    | (refine wpList_plain rfl (fun K hK => ?_); refine op_entry _ rfl rfl H (by repeat (first | exact Split.here _ _ | apply Split.there)) (H.obj (by repeat (first | exact Split.here _ _ | apply Split.there))) hmem.out hnd (hK _ _ ?_); clear hK K)
    | ((first
        | (go_at_call 42; refine Calls.mono (has_calls m2 clock2 es2 l2 sk hl2 _ (H.obj (b := m2) (by repeat (first | exact Split.here _ _ | apply Split.there)))) ?_; rintro e w' ⟨rfl, H'⟩; replace H := H.of_ext H'; clear H')
        | (go_at_call 38; refine Calls.mono (insert1_calls _ mr _ sk er cr lr hset _ (H.pick (by repeat (first | exact Picks.nil _ | (apply Picks.wr; focus (repeat (first | exact Split.here _ _ | apply Split.there))) | (apply Picks.rd; focus (repeat (first | exact Split.here _ _ | apply Split.there))))))) ?_; rintro e w' ⟨es', clock', hset', rfl, H'⟩; replace H := H.merge (by first | exact Strikes.nil _ | (repeat (first | exact Strikes.nil _ | (apply Strikes.cons; focus (repeat (first | exact Split.here _ _ | apply Split.there)))))) H' rfl; clear H')
        | (refine loud_ rfl ?_; refine wpList_plain rfl (fun K hK => ?_); (first | (refine op_box _ _ rfl H (fun b w' H1 => hK _ _ ?_)) | (refine op_alloc _ rfl (zero_of _ _ rfl) H (fun b w' H1 => hK _ _ ?_)) | (refine op_store _ _ _ rfl rfl rfl H (by repeat (first | exact Split.here _ _ | apply Split.there)) (by kernel_rfl) (by kernel_rfl) (by kernel_rfl) (fun w' H1 => hK _ _ ?_)) | (refine op_buildSlice_all _ _ _ rfl (by first | exact elem22 | exact elem60 | exact elem66 | exact elem72 | exact elem74) (by kernel_rfl) (by kernel_rfl) (by kernel_rfl) H (fun b w' H1 => hK _ _ ?_))); clear hK K; replace H := H1; clear H1)); (try clear hc); (try simp only [nrm, splice, Value.cells, Nat.reduceAdd, Act.eval, Act.put] at H); have hc := H.cells; simp only [CellsOf, KnCells, knc, Nat.reduceAdd] at hc))) | go_values | go_skip | go_guarded | go_step | go_upon | go_back | dsimp only)
        exact ⟨⟨_, _, es', clock', _, hsp.out, hfi2, hset', H.sel (by repeat (first | exact Sel.nil _ | (apply Sel.cons; focus (repeat (first | exact Split.here _ _ | apply Split.there)))))⟩, by have hleft2 := range_left (H.obj (b := m) (by repeat (first | exact Split.here _ _ | apply Split.there))) (H.obj (b := r) (by repeat (first | exact Split.here _ _ | apply Split.there))); rw [hleft2, hleft.out]; exact hlt.out⟩
      · have hd : decide (sk ∈ l2) = true := by simpa using hq
        have hfi2 := Lib.hid (filt_out (v := vl) (b := bo) hfi.out (k := sk) (by exact hq))
        have hq2 := Lib.hid hq
        clear hq
        have hc := H.cells; simp only [CellsOf, KnCells, knc, Nat.reduceAdd] at hc
        repeat' (first | (go_big_may; (first
    | go_skip
    | (refine wpList_plain rfl (fun K hK => ?_); refine op_entry _ rfl rfl H (by repeat (first | exact Split.here _ _ | apply Split.there)) (H.obj (by repeat (first | exact Split.here _ _ | apply Split.there))) hmem.out hnd (hK _ _ ?_); clear hK K)
    | ((first
        | (go_at_call 42; refine Calls.mono (has_calls m2 clock2 es2 l2 sk hl2 _ (H.obj (b := m2) (by repeat (first | exact Split.here _ _ | apply Split.there)))) ?_; rintro e w' ⟨rfl, H'⟩; replace H := H.of_ext H'; clear H')
        | (refine loud_ rfl ?_; refine wpList_plain rfl (fun K hK => ?_); (first | (refine op_box _ _ rfl H (fun b w' H1 => hK _ _ ?_)) | (refine op_alloc _ rfl (zero_of _ _ rfl) H (fun b w' H1 => hK _ _ ?_)) | (refine op_store _ _ _ rfl rfl rfl H (by repeat (first | exact Split.here _ _ | apply Split.there)) (by kernel_rfl) (by kernel_rfl) (by kernel_rfl) (fun w' H1 => hK _ _ ?_)) | (refine op_buildSlice_all _ _ _ rfl (by first | exact elem22 | exact elem60 | exact elem66 | exact elem72 | exact elem74) (by kernel_rfl) (by kernel_rfl) (by kernel_rfl) H (fun b w' H1 => hK _ _ ?_))); clear hK K; replace H := H1; clear H1)); (try clear hc); (try simp only [nrm, splice, Value.cells, Nat.reduceAdd, Act.eval, Act.put] at H); have hc := H.cells; simp only [CellsOf, KnCells, knc, Nat.reduceAdd] at hc))) | go_values | go_skip | go_guarded | go_step | go_upon | go_back | dsimp only)
        exact ⟨⟨_, _, er, cr, _, hsp.out, hfi2, hset, H.sel (by repeat (first | exact Sel.nil _ | (apply Sel.cons; focus (repeat (first | exact Split.here _ _ | apply Split.there)))))⟩, by have hleft2 := range_left (H.obj (b := m) (by repeat (first | exact Split.here _ _ | apply Split.there))) (H.obj (b := r) (by repeat (first | exact Split.here _ _ | apply Split.there))); rw [hleft2, hleft.out]; exact hlt.out⟩
set_option maxHeartbeats 800000 in
set_option maxRecDepth 8000 in
theorem sinter_calls (m clock m2 clock2 : Nat) (es es2 : Array MapEntry) (l l2 : List Int) (hl : Hid (SetI es clock l)) (hl2 : Hid (SetI es2 clock2 l2)) (w : World) (H : St [] w w [(false, .is m (.map es clock)), (false, .is m2 (.map es2 clock2))]) :
    Calls Tryz.prog 16 #[.map (some m), .map (some m2)] w fun e w' => ∃ mr er cr lr, Hid (SetI er cr lr ∧ lr.length ≤ l.length + l2.length ∧ ∀ x, x ∈ lr ↔ x ∈ l ∧ x ∈ l2) ∧ e = .returned (.map (some mr)) ∧ St [] w w' [(true, .is mr (.map er cr))] := by
  go_enter Tryz.func16, Tryz.ntmps16
  by_cases hlen : (l.length : Int) < (l2.length : Int)
  · repeat' (first | (go_big_may; (first
    | go_skip
    | (refine wpList_plain rfl (fun K hK => ?_); (refine op_range _ _ _ _ rfl setU (es := es) (clock := clock) rfl H (H.obj (b := m) (by repeat (first | exact Split.here _ _ | apply Split.there))) (fun r w' H1 => hK _ _ ?_); clear hK K; replace H := H1; clear H1; (try clear hc); (try simp only [nrm, splice, Value.cells, Nat.reduceAdd, Act.eval, Act.put] at H); have hc := H.cells; simp only [CellsOf, KnCells, knc, Nat.reduceAdd] at hc))
    | ((first
        | (go_at_call 40; refine Calls.mono (slen_calls m clock es l hl _ (H.obj (b := m) (by repeat (first | exact Split.here _ _ | apply Split.there)))) ?_; rintro e w' ⟨rfl, H'⟩; replace H := H.of_ext H'; clear H')
        | (go_at_call 40; refine Calls.mono (slen_calls m2 clock2 es2 l2 hl2 _ (H.obj (b := m2) (by repeat (first | exact Split.here _ _ | apply Split.there)))) ?_; rintro e w' ⟨rfl, H'⟩; replace H := H.of_ext H'; clear H')
        | (refine loud_ rfl ?_; refine wpList_plain rfl (fun K hK => ?_); (first | (refine op_makeMap _ rfl H (fun mr w' H1 => hK _ _ ?_)) | (refine op_box _ _ rfl H (fun b w' H1 => hK _ _ ?_)) | (refine op_alloc _ rfl (zero_of _ _ rfl) H (fun b w' H1 => hK _ _ ?_)) | (refine op_store _ _ _ rfl rfl rfl H (by repeat (first | exact Split.here _ _ | apply Split.there)) (by kernel_rfl) (by kernel_rfl) (by kernel_rfl) (fun w' H1 => hK _ _ ?_)) | (refine op_buildSlice_all _ _ _ rfl (by first | exact elem22 | exact elem60 | exact elem66 | exact elem72 | exact elem74) (by kernel_rfl) (by kernel_rfl) (by kernel_rfl) H (fun b w' H1 => hK _ _ ?_))); clear hK K; replace H := H1; clear H1)); (try clear hc); (try simp only [nrm, splice, Value.cells, Nat.reduceAdd, Act.eval, Act.put] at H); have hc := H.cells; simp only [CellsOf, KnCells, knc, Nat.reduceAdd] at hc))) | go_values | go_skip | go_guarded | go_step | go_upon | go_back | dsimp only)
    (try simp only [Act.put, slt])
    have hA0 : AtFi w m r m2 mr clock clock2 es es2 (fun x => x ∈ l2) w' := ⟨#[], [], #[], 0, [], seen_nil _, filt_nil _, setM_nil _ _, H.sel (by repeat (first | exact Sel.nil _ | (apply Sel.cons; focus (repeat (first | exact Split.here _ _ | apply Split.there)))))⟩
    clear H
    (try clear hc)
    go_loopw [] (AtFi w m r m2 mr clock clock2 es es2 (fun x => x ∈ l2)) (fun wr => wr.rangeLeft m r)
    case atStart => exact hA0
    case round =>
      clear hA0
      obtain ⟨seen, gs, er, cr, lr, hs, hfi, hset, H⟩ := hrel
      have hleft := Lib.hid (range_left (H.obj (b := m) (by repeat (first | exact Split.here _ _ | apply Split.there))) (H.obj (b := r) (by repeat (first | exact Split.here _ _ | apply Split.there))))
      have hborn := hl.out.2.1
      have hnd := hl.out.2.2.1
      have hkeys := Lib.hid (setM_keys hl.out)
      by_cases hlf : (leftOf es seen).size = 0
      · have hall := Lib.hid (keyIn_all hkeys.out (seen_all hs.out hlf hnd))
        have hgl := Lib.hid (seen_all hs.out hlf hnd).length_eq
        have hc := H.cells; simp only [CellsOf, KnCells, knc, Nat.reduceAdd] at hc
        repeat' (first | (go_big_may; (first
    | go_skip
    | (refine wpList_plain rfl (fun K hK => ?_); refine op_next_done _ rfl rfl H (by repeat (first | exact Split.here _ _ | apply Split.there)) (H.obj (by repeat (first | exact Split.here _ _ | apply Split.there))) hborn (Nat.le_refl _) hlf (hK _ _ ?_); clear hK K)
    | ((first
        | (refine loud_ rfl ?_; refine wpList_plain rfl (fun K hK => ?_); (first | (refine op_box _ _ rfl H (fun b w' H1 => hK _ _ ?_)) | (refine op_alloc _ rfl (zero_of _ _ rfl) H (fun b w' H1 => hK _ _ ?_)) | (refine op_store _ _ _ rfl rfl rfl H (by repeat (first | exact Split.here _ _ | apply Split.there)) (by kernel_rfl) (by kernel_rfl) (by kernel_rfl) (fun w' H1 => hK _ _ ?_)) | (refine op_buildSlice_all _ _ _ rfl (by first | exact elem22 | exact elem60 | exact elem66 | exact elem72 | exact elem74) (by kernel_rfl) (by kernel_rfl) (by kernel_rfl) H (fun b w' H1 => hK _ _ ?_))); clear hK K; replace H := H1; clear H1)); (try clear hc); (try simp only [nrm, splice, Value.cells, Nat.reduceAdd, Act.eval, Act.put] at H); have hc := H.cells; simp only [CellsOf, KnCells, knc, Nat.reduceAdd] at hc))) | go_values | go_skip | go_guarded | go_step | go_upon | go_back | dsimp only)
        have hfin : Hid (∀ x, x ∈ lr ↔ x ∈ l ∧ (fun x => x ∈ l2) x) := by
          intro x
          rw [hfi.out.1, hall.out]
        have hfl : lr.length ≤ l.length := by have := hfi.out.2; have := hgl.out; have := setM_size hl.out; simp at *; omega
        go_ret
        exact ⟨mr, er, cr, lr, ⟨hset.out, Nat.le_trans hfl (Nat.le_add_right _ _), hfin.out⟩, rfl, H.top1⟩
      · have hc := H.cells; simp only [CellsOf, KnCells, knc, Nat.reduceAdd] at hc
        go_upto_region 10 with (first
    | go_skip
    | (refine wpList_plain rfl (fun K hK => ?_); (refine op_next_more _ rfl rfl H (by repeat (first | exact Split.here _ _ | apply Split.there)) (H.obj (by repeat (first | exact Split.here _ _ | apply Split.there))) hborn (Nat.le_refl _) hlf (fun en w' he H1 => hK _ _ ?_); clear hK K; replace H := H1; clear H1; (try clear hc); (try simp only [nrm, splice, Value.cells, Nat.reduceAdd, Act.eval, Act.put] at H); have hc := H.cells; simp only [CellsOf, KnCells, knc, Nat.reduceAdd] at hc))
    | ((first
        | (refine loud_ rfl ?_; refine wpList_plain rfl (fun K hK => ?_); (first | (refine op_box _ _ rfl H (fun b w' H1 => hK _ _ ?_)) | (refine op_alloc _ rfl (zero_of _ _ rfl) H (fun b w' H1 => hK _ _ ?_)) | (refine op_store _ _ _ rfl rfl rfl H (by repeat (first | exact Split.here _ _ | apply Split.there)) (by kernel_rfl) (by kernel_rfl) (by kernel_rfl) (fun w' H1 => hK _ _ ?_)) | (refine op_buildSlice_all _ _ _ rfl (by first | exact elem22 | exact elem60 | exact elem66 | exact elem72 | exact elem74) (by kernel_rfl) (by kernel_rfl) (by kernel_rfl) H (fun b w' H1 => hK _ _ ?_))); clear hK K; replace H := H1; clear H1)); (try clear hc); (try simp only [nrm, splice, Value.cells, Nat.reduceAdd, Act.eval, Act.put] at H); have hc := H.cells; simp only [CellsOf, KnCells, knc, Nat.reduceAdd] at hc))
        have hlt := Lib.hid (left_shrinks es seen en he)
        have hsp := Lib.hid (seen_push hs.out he)
        have hmem := Lib.hid (mem_left he).1
        obtain ⟨sk, hsk⟩ : ∃ k, en.key = ki k := by
          have : en.key ∈ es.toList.map (·.key) := List.mem_map.2 ⟨en, hmem.out, rfl⟩
          rw [hkeys.out] at this
          obtain ⟨k, _, hk⟩ := List.mem_map.1 this
          exact ⟨k, hk.symm⟩
        clear he
        obtain ⟨ky, vl, bo⟩ := en
        simp only at hsk
        subst hsk
        by_cases hq : sk ∈ l2
        · have hd : decide (sk ∈ l2) = true := by simp; exact hq
          have hfi2 := Lib.hid (filt_in (v := vl) (b := bo) hfi.out (k := sk) (by exact hq))
          have hq2 := Lib.hid hq
          clear hq
          have hc := H.cells; simp only [CellsOf, KnCells, knc, Nat.reduceAdd] at hc
          repeat' (first | (go_big_may; (first
    | go_skip
    | (refine wpList_plain rfl (fun K hK => ?_); refine op_entry _ rfl rfl H (by repeat (first | exact Split.here _ _ | apply Split.there)) (H.obj (by repeat (first | exact Split.here _ _ | apply Split.there))) hmem.out hnd (hK _ _ ?_); clear hK K)
    | ((first
        | (go_at_call 42; refine Calls.mono (has_calls m2 clock2 es2 l2 sk hl2 _ (H.obj (b := m2) (by repeat (first | exact Split.here _ _ | apply Split.there)))) ?_; rintro e w' ⟨rfl, H'⟩; replace H := H.of_ext H'; clear H')
        | (go_at_call 38; refine Calls.mono (insert1_calls _ mr _ sk er cr lr hset _ (H.pick (by repeat (first | exact Picks.nil _ | (apply Picks.wr; focus (repeat (first | exact Split.here _ _ | apply Split.there))) | (apply Picks.rd; focus (repeat (first | exact Split.here _ _ | apply Split.there))))))) ?_; rintro e w' ⟨es', clock', hset', rfl, H'⟩; replace H := H.merge (by first | exact Strikes.nil _ | (repeat (first | exact Strikes.nil _ | (apply Strikes.cons; focus (repeat (first | exact Split.here _ _ | apply Split.there)))))) H' rfl; clear H')
        | (refine loud_ rfl ?_; refine wpList_plain rfl (fun K hK => ?_); (first | (refine op_box _ _ rfl H (fun b w' H1 => hK _ _ ?_)) | (refine op_alloc _ rfl (zero_of _ _ rfl) H (fun b w' H1 => hK _ _ ?_)) | (refine op_store _ _ _ rfl rfl rfl H (by repeat (first | exact Split.here _ _ | apply Split.there)) (by kernel_rfl) (by kernel_rfl) (by kernel_rfl) (fun w' H1 => hK _ _ ?_)) | (refine op_buildSlice_all _ _ _ rfl (by first | exact elem22 | exact elem60 | exact elem66 | exact elem72 | exact elem74) (by kernel_rfl) (by kernel_rfl) (by kernel_rfl) H (fun b w' H1 => hK _ _ ?_))); clear hK K; replace H := H1; clear H1)); (try clear hc); (try simp only [nrm, splice, Value.cells, Nat.reduceAdd, Act.eval, Act.put] at H); have hc := H.cells; simp only [CellsOf, KnCells, knc, Nat.reduceAdd] at hc))) | go_values | go_skip | go_guarded | go_step | go_upon | go_back | dsimp only)
          exact ⟨⟨_, _, es', clock', _, hsp.out, hfi2, hset', H.sel (by repeat (first | exact Sel.nil _ | (apply Sel.cons; focus (repeat (first | exact Split.here _ _ | apply Split.there)))))⟩, by have hleft2 := range_left (H.obj (b := m) (by repeat (first | exact Split.here _ _ | apply Split.there))) (H.obj (b := r) (by repeat (first | exact Split.here _ _ | apply Split.there))); rw [hleft2, hleft.out]; exact hlt.out⟩
        · have hd : decide (sk ∈ l2) = false := by simpa using hq
          have hfi2 := Lib.hid (filt_out (v := vl) (b := bo) hfi.out (k := sk) (by exact hq))
          have hq2 := Lib.hid hq
          clear hq
          have hc := H.cells; simp only [CellsOf, KnCells, knc, Nat.reduceAdd] at hc
          repeat' (first | (go_big_may; (first
    | go_skip
    | (refine wpList_plain rfl (fun K hK => ?_); refine op_entry _ rfl rfl H (by repeat (first | exact Split.here _ _ | apply Split.there)) (H.obj (by repeat (first | exact Split.here _ _ | apply Split.there))) hmem.out hnd (hK _ _ ?_); clear hK K)
    | ((first
        | (go_at_call 42; refine Calls.mono (has_calls m2 clock2 es2 l2 sk hl2 _ (H.obj (b := m2) (by repeat (first | exact Split.here _ _ | apply Split.there)))) ?_; rintro e w' ⟨rfl, H'⟩; replace H := H.of_ext H'; clear H')
        | (refine loud_ rfl ?_; refine wpList_plain rfl (fun K hK => ?_); (first | (refine op_box _ _ rfl H (fun b w' H1 => hK _ _ ?_)) | (refine op_alloc _ rfl (zero_of _ _ rfl) H (fun b w' H1 => hK _ _ ?_)) | (refine op_store _ _ _ rfl rfl rfl H (by repeat (first | exact Split.here _ _ | apply Split.there)) (by kernel_rfl) (by kernel_rfl) (by kernel_rfl) (fun w' H1 => hK _ _ ?_)) | (refine op_buildSlice_all _ _ _ rfl (by first | exact elem22 | exact elem60 | exact elem66 | exact elem72 | exact elem74) (by kernel_rfl) (by kernel_rfl) (by kernel_rfl) H (fun b w' H1 => hK _ _ ?_))); clear hK K; replace H := H1; clear H1)); (try clear hc); (try simp only [nrm, splice, Value.cells, Nat.reduceAdd, Act.eval, Act.put] at H); have hc := H.cells; simp only [CellsOf, KnCells, knc, Nat.reduceAdd] at hc))) | go_values | go_skip | go_guarded | go_step | go_upon | go_back | dsimp only)
          exact ⟨⟨_, _, er, cr, _, hsp.out, hfi2, hset, H.sel (by repeat (first | exact Sel.nil _ | (apply Sel.cons; focus (repeat (first | exact Split.here _ _ | apply Split.there)))))⟩, by have hleft2 := range_left (H.obj (b := m) (by repeat (first | exact Split.here _ _ | apply Split.there))) (H.obj (b := r) (by repeat (first | exact Split.here _ _ | apply Split.there))); rw [hleft2, hleft.out]; exact hlt.out⟩
  · repeat' (first | (go_big_may; (first
    | go_skip
    | (refine wpList_plain rfl (fun K hK => ?_); (refine op_range _ _ _ _ rfl setU (es := es2) (clock := clock2) rfl H (H.obj (b := m2) (by repeat (first | exact Split.here _ _ | apply Split.there))) (fun r w' H1 => hK _ _ ?_); clear hK K; replace H := H1; clear H1; (try clear hc); (try simp only [nrm, splice, Value.cells, Nat.reduceAdd, Act.eval, Act.put] at H); have hc := H.cells; simp only [CellsOf, KnCells, knc, Nat.reduceAdd] at hc))
    | ((first
        | (go_at_call 40; refine Calls.mono (slen_calls m clock es l hl _ (H.obj (b := m) (by repeat (first | exact Split.here _ _ | apply Split.there)))) ?_; rintro e w' ⟨rfl, H'⟩; replace H := H.of_ext H'; clear H')
        | (go_at_call 40; refine Calls.mono (slen_calls m2 clock2 es2 l2 hl2 _ (H.obj (b := m2) (by repeat (first | exact Split.here _ _ | apply Split.there)))) ?_; rintro e w' ⟨rfl, H'⟩; replace H := H.of_ext H'; clear H')
        | (refine loud_ rfl ?_; refine wpList_plain rfl (fun K hK => ?_); (first | (refine op_makeMap _ rfl H (fun mr w' H1 => hK _ _ ?_)) | (refine op_box _ _ rfl H (fun b w' H1 => hK _ _ ?_)) | (refine op_alloc _ rfl (zero_of _ _ rfl) H (fun b w' H1 => hK _ _ ?_)) | (refine op_store _ _ _ rfl rfl rfl H (by repeat (first | exact Split.here _ _ | apply Split.there)) (by kernel_rfl) (by kernel_rfl) (by kernel_rfl) (fun w' H1 => hK _ _ ?_)) | (refine op_buildSlice_all _ _ _ rfl (by first | exact elem22 | exact elem60 | exact elem66 | exact elem72 | exact elem74) (by kernel_rfl) (by kernel_rfl) (by kernel_rfl) H (fun b w' H1 => hK _ _ ?_))); clear hK K; replace H := H1; clear H1)); (try clear hc); (try simp only [nrm, splice, Value.cells, Nat.reduceAdd, Act.eval, Act.put] at H); have hc := H.cells; simp only [CellsOf, KnCells, knc, Nat.reduceAdd] at hc))) | go_values | go_skip | go_guarded | go_step | go_upon | go_back | dsimp only)
    (try simp only [Act.put, slt])
    have hA0 : AtFi w m2 r m mr clock2 clock es2 es (fun x => x ∈ l) w' := ⟨#[], [], #[], 0, [], seen_nil _, filt_nil _, setM_nil _ _, H.sel (by repeat (first | exact Sel.nil _ | (apply Sel.cons; focus (repeat (first | exact Split.here _ _ | apply Split.there)))))⟩
    clear H
    (try clear hc)
    go_loopw [] (AtFi w m2 r m mr clock2 clock es2 es (fun x => x ∈ l)) (fun wr => wr.rangeLeft m2 r)
    case atStart => exact hA0
    case round =>
      clear hA0
      obtain ⟨seen, gs, er, cr, lr, hs, hfi, hset, H⟩ := hrel
      have hleft := Lib.hid (range_left (H.obj (b := m2) (by repeat (first | exact Split.here _ _ | apply Split.there))) (H.obj (b := r) (by repeat (first | exact Split.here _ _ | apply Split.there))))
      have hborn := hl2.out.2.1
      have hnd := hl2.out.2.2.1
      have hkeys := Lib.hid (setM_keys hl2.out)
      by_cases hlf : (leftOf es2 seen).size = 0
      · have hall := Lib.hid (keyIn_all hkeys.out (seen_all hs.out hlf hnd))
        have hgl := Lib.hid (seen_all hs.out hlf hnd).length_eq
        have hc := H.cells; simp only [CellsOf, KnCells, knc, Nat.reduceAdd] at hc
        repeat' (first | (go_big_may; (first
    | go_skip
    | (refine wpList_plain rfl (fun K hK => ?_); refine op_next_done _ rfl rfl H (by repeat (first | exact Split.here _ _ | apply Split.there)) (H.obj (by repeat (first | exact Split.here _ _ | apply Split.there))) hborn (Nat.le_refl _) hlf (hK _ _ ?_); clear hK K)
    | ((first
        | (refine loud_ rfl ?_; refine wpList_plain rfl (fun K hK => ?_); (first | (refine op_box _ _ rfl H (fun b w' H1 => hK _ _ ?_)) | (refine op_alloc _ rfl (zero_of _ _ rfl) H (fun b w' H1 => hK _ _ ?_)) | (refine op_store _ _ _ rfl rfl rfl H (by repeat (first | exact Split.here _ _ | apply Split.there)) (by kernel_rfl) (by kernel_rfl) (by kernel_rfl) (fun w' H1 => hK _ _ ?_)) | (refine op_buildSlice_all _ _ _ rfl (by first | exact elem22 | exact elem60 | exact elem66 | exact elem72 | exact elem74) (by kernel_rfl) (by kernel_rfl) (by kernel_rfl) H (fun b w' H1 => hK _ _ ?_))); clear hK K; replace H := H1; clear H1)); (try clear hc); (try simp only [nrm, splice, Value.cells, Nat.reduceAdd, Act.eval, Act.put] at H); have hc := H.cells; simp only [CellsOf, KnCells, knc, Nat.reduceAdd] at hc))) | go_values | go_skip | go_guarded | go_step | go_upon | go_back | dsimp only)
        have hfin : Hid (∀ x, x ∈ lr ↔ x ∈ l2 ∧ (fun x => x ∈ l) x) := by
          intro x
          rw [hfi.out.1, hall.out]
        have hfl : lr.length ≤ l2.length := by have := hfi.out.2; have := hgl.out; have := setM_size hl2.out; simp at *; omega
        go_ret
        exact ⟨mr, er, cr, lr, ⟨hset.out, Nat.le_trans hfl (Nat.le_add_left _ _), fun x => (hfin.out x).trans And.comm⟩, rfl, H.top1⟩
      · have hc := H.cells; simp only [CellsOf, KnCells, knc, Nat.reduceAdd] at hc
        go_upto_region 10 with (first
    | go_skip
    | (refine wpList_plain rfl (fun K hK => ?_); (refine op_next_more _ rfl rfl H (by repeat (first | exact Split.here _ _ | apply Split.there)) (H.obj (by repeat (first | exact Split.here _ _ | apply Split.there))) hborn (Nat.le_refl _) hlf (fun en w' he H1 => hK _ _ ?_); clear hK K; replace H := H1; clear H1; (try clear hc); (try simp only [nrm, splice, Value.cells, Nat.reduceAdd, Act.eval, Act.put] at H); have hc := H.cells; simp only [CellsOf, KnCells, knc, Nat.reduceAdd] at hc))
    | ((first
        | (refine loud_ rfl ?_; refine wpList_plain rfl (fun K hK => ?_); (first | (refine op_box _ _ rfl H (fun b w' H1 => hK _ _ ?_)) | (refine op_alloc _ rfl (zero_of _ _ rfl) H (fun b w' H1 => hK _ _ ?_)) | (refine op_store _ _ _ rfl rfl rfl H (by repeat (first | exact Split.here _ _ | apply Split.there)) (by kernel_rfl) (by kernel_rfl) (by kernel_rfl) (fun w' H1 => hK _ _ ?_)) | (refine op_buildSlice_all _ _ _ rfl (by first | exact elem22 | exact elem60 | exact elem66 | exact elem72 | exact elem74) (by kernel_rfl) (by kernel_rfl) (by kernel_rfl) H (fun b w' H1 => hK _ _ ?_))); clear hK K; replace H := H1; clear H1)); (try clear hc); (try simp only [nrm, splice, Value.cells, Nat.reduceAdd, Act.eval, Act.put] at H); have hc := H.cells; simp only [CellsOf, KnCells, knc, Nat.reduceAdd] at hc))
        have hlt := Lib.hid (left_shrinks es2 seen en he)
        have hsp := Lib.hid (seen_push hs.out he)
        have hmem := Lib.hid (mem_left he).1
        obtain ⟨sk, hsk⟩ : ∃ k, en.key = ki k := by
          have : en.key ∈ es2.toList.map (·.key) := List.mem_map.2 ⟨en, hmem.out, rfl⟩
          rw [hkeys.out] at this
          obtain ⟨k, _, hk⟩ := List.mem_map.1 this
          exact ⟨k, hk.symm⟩
        clear he
        obtain ⟨ky, vl, bo⟩ := en
        simp only at hsk
        subst hsk
        by_cases hq : sk ∈ l
        · have hd : decide (sk ∈ l) = true := by simp; exact hq
          have hfi2 := Lib.hid (filt_in (v := vl) (b := bo) hfi.out (k := sk) (by exact hq))
          have hq2 := Lib.hid hq
          clear hq
          have hc := H.cells; simp only [CellsOf, KnCells, knc, Nat.reduceAdd] at hc
          repeat' (first | (go_big_may; (first
    | go_skip
    | (refine wpList_plain rfl (fun K hK => ?_); refine op_entry _ rfl rfl H (by repeat (first | exact Split.here _ _ | apply Split.there)) (H.obj (by repeat (first | exact Split.here _ _ | apply Split.there))) hmem.out hnd (hK _ _ ?_); clear hK K)
    | ((first
        | (go_at_call 42; refine Calls.mono (has_calls m clock es l sk hl _ (H.obj (b := m) (by repeat (first | exact Split.here _ _ | apply Split.there)))) ?_; rintro e w' ⟨rfl, H'⟩; replace H := H.of_ext H'; clear H')
        | (go_at_call 38; refine Calls.mono (insert1_calls _ mr _ sk er cr lr hset _ (H.pick (by repeat (first | exact Picks.nil _ | (apply Picks.wr; focus (repeat (first | exact Split.here _ _ | apply Split.there))) | (apply Picks.rd; focus (repeat (first | exact Split.here _ _ | apply Split.there))))))) ?_; rintro e w' ⟨es', clock', hset', rfl, H'⟩; replace H := H.merge (by first | exact Strikes.nil _ | (repeat (first | exact Strikes.nil _ | (apply Strikes.cons; focus (repeat (first | exact Split.here _ _ | apply Split.there)))))) H' rfl; clear H')
        | (refine loud_ rfl ?_; refine wpList_plain rfl (fun K hK => ?_); (first | (refine op_box _ _ rfl H (fun b w' H1 => hK _ _ ?_)) | (refine op_alloc _ rfl (zero_of _ _ rfl) H (fun b w' H1 => hK _ _ ?_)) | (refine op_store _ _ _ rfl rfl rfl H (by repeat (first | exact Split.here _ _ | apply Split.there)) (by kernel_rfl) (by kernel_rfl) (by kernel_rfl) (fun w' H1 => hK _ _ ?_)) | (refine op_buildSlice_all _ _ _ rfl (by first | exact elem22 | exact elem60 | exact elem66 | exact elem72 | exact elem74) (by kernel_rfl) (by kernel_rfl) (by kernel_rfl) H (fun b w' H1 => hK _ _ ?_))); clear hK K; replace H := H1; clear H1)); (try clear hc); (try simp only [nrm, splice, Value.cells, Nat.reduceAdd, Act.eval, Act.put] at H); have hc := H.cells; simp only [CellsOf, KnCells, knc, Nat.reduceAdd] at hc))) | go_values | go_skip | go_guarded | go_step | go_upon | go_back | dsimp only)
          exact ⟨⟨_, _, es', clock', _, hsp.out, hfi2, hset', H.sel (by repeat (first | exact Sel.nil _ | (apply Sel.cons; focus (repeat (first | exact Split.here _ _ | apply Split.there)))))⟩, by have hleft2 := range_left (H.obj (b := m2) (by repeat (first | exact Split.here _ _ | apply Split.there))) (H.obj (b := r) (by repeat (first | exact Split.here _ _ | apply Split.there))); rw [hleft2, hleft.out]; exact hlt.out⟩
        · have hd : decide (sk ∈ l) = false := by simpa using hq
          have hfi2 := Lib.hid (filt_out (v := vl) (b := bo) hfi.out (k := sk) (by exact hq))
          have hq2 := Lib.hid hq
          clear hq
          have hc := H.cells; simp only [CellsOf, KnCells, knc, Nat.reduceAdd] at hc
          repeat' (first | (go_big_may; (first
    | go_skip
    | (refine wpList_plain rfl (fun K hK => ?_); refine op_entry _ rfl rfl H (by repeat (first | exact Split.here _ _ | apply Split.there)) (H.obj (by repeat (first | exact Split.here _ _ | apply Split.there))) hmem.out hnd (hK _ _ ?_); clear hK K)
    | ((first
        | (go_at_call 42; refine Calls.mono (has_calls m clock es l sk hl _ (H.obj (b := m) (by repeat (first | exact Split.here _ _ | apply Split.there)))) ?_; rintro e w' ⟨rfl, H'⟩; replace H := H.of_ext H'; clear H')
        | (refine loud_ rfl ?_; refine wpList_plain rfl (fun K hK => ?_); (first | (refine op_box _ _ rfl H (fun b w' H1 => hK _ _ ?_)) | (refine op_alloc _ rfl (zero_of _ _ rfl) H (fun b w' H1 => hK _ _ ?_)) | (refine op_store _ _ _ rfl rfl rfl H (by repeat (first | exact Split.here _ _ | apply Split.there)) (by kernel_rfl) (by kernel_rfl) (by kernel_rfl) (fun w' H1 => hK _ _ ?_)) | (refine op_buildSlice_all _ _ _ rfl (by first | exact elem22 | exact elem60 | exact elem66 | exact elem72 | exact elem74) (by kernel_rfl) (by kernel_rfl) (by kernel_rfl) H (fun b w' H1 => hK _ _ ?_))); clear hK K; replace H := H1; clear H1)); (try clear hc); (try simp only [nrm, splice, Value.cells, Nat.reduceAdd, Act.eval, Act.put] at H); have hc := H.cells; simp only [CellsOf, KnCells, knc, Nat.reduceAdd] at hc))) | go_values | go_skip | go_guarded | go_step | go_upon | go_back | dsimp only)
          exact ⟨⟨_, _, er, cr, _, hsp.out, hfi2, hset, H.sel (by repeat (first | exact Sel.nil _ | (apply Sel.cons; focus (repeat (first | exact Split.here _ _ | apply Split.there)))))⟩, by have hleft2 := range_left (H.obj (b := m2) (by repeat (first | exact Split.here _ _ | apply Split.there))) (H.obj (b := r) (by repeat (first | exact Split.here _ _ | apply Split.there))); rw [hleft2, hleft.out]; exact hlt.out⟩
end Go.Proofs.YtikaldcoakpfoaaGreatDoor
