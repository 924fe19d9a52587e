import Derived.Test.YtikaldcoakpfoaaGreatDoorCpuB
import Derived.Test.YtikaldcoakpfoaaGreatDoorShelf
-- MORE
-- SUB2
namespace Go.V
set_option linter.unusedVariables false
set_option linter.unusedSimpArgs false
set_option linter.unnecessarySimpa false
open Go Go.RowKit
theorem run_lenMap {P : Program} {t k e ty : TypeId} (ht : P.underlying t = some (.map k e)) {b : Nat} {es : Array MapEntry} {clock : Nat} {w : World} (hb : w.heap[b]? = some (.map es clock)) :
    (Builtin.len_ #[t] ty #[.map (some b)]).run P w = .ok (.int .i64 es.size) w := by
  simp [Builtin.len_, run_underlying ht, MapKept.run_getObj_map hb, goInt]
section
variable {P : Program} {S : List Nat} {w0 w : World} {L : List Ent} {o : Oper} {a : Act} {K : Act → World → Prop} {Q : Exit → Act → World → Prop}
/-- len(m). -/
theorem op_lenMap (m : Operand) (t k e : TypeId) (ho : o.op = .call { callee := .builtin .len, args := #[m], argTypes := #[t] }) (ht : P.underlying t = some (.map k e)) {b : Nat} {es : Array MapEntry} {clock : Nat}
    (hm : a.eval m = .map (some b)) (hb : w.heap[b]? = some (.map es clock)) (h : K (a.put o.dst (.int .i64 es.size)) w) : o.wp P a w K Q := by
  refine op_val ?_ h
  unfold execOp
  rw [ho]
  simp only [resolve, invoke, builtin, Sem.run_bind, Sem.run_pure, Result.andThen_ok, List.map_toArray, List.map_cons, List.map_nil, hm, run_lenMap ht hb]
/-- make([]T, 0, c). -/
theorem op_make0 (t : TypeId) (x y : Operand) (ho : o.op = .makeSlice t x y) {e : TypeId} {size bytes : Nat} {z : Value} (ht : Elem P t e size bytes z) {kl kc : IntKind} {c : Nat}
    (hx : a.eval x = .int kl 0) (hy : a.eval y = .int kc c) (H : St S w0 w L) (hbytes : bytes * c ≤ 281474976710656) (h63 : c ≤ maxLen)
    (h : ∀ b w', St S w0 w' ((true, .row (some b) e size 0 c []) :: L) → K (a.put o.dst (sl (some b) 0 c)) w') : o.wp P a w K Q := by
  obtain ⟨ht1, ht2, ht3⟩ := ht
  obtain ⟨i, hi, hi2⟩ := Option.map_eq_some_iff.1 ht2
  simp only [Prod.mk.injEq] at hi2
  obtain ⟨hz, rfl, rfl⟩ := hi2
  have h63' : (c : Int) ≤ 9223372036854775807 := by simp only [maxLen] at h63; omega
  have hb' : (i.bytes : Int) * (c : Int) ≤ 281474976710656 := by
    have h : ((i.bytes * c : Nat) : Int) ≤ 281474976710656 := by omega
    rwa [Int.natCast_mul] at h
  have hr := run_make (P := P) w t e i z ht1 hi hz kl kc 0 c (by omega) (by omega) hb' h63'
  simp only [Int.toNat_natCast, Int.toNat_zero] at hr
  have H1 := H.alloc (.cells (madeCells z.cells (c * i.size)) e)
  have H2 := H1.replace (k' := .row (some w.heap.size) e i.size 0 c []) (.here _ _) (Ext.refl _ _) ⟨_, heap_alloc_new w _, size_madeCells _ _, Nat.zero_le _, h63, by simp⟩ (by simp [Kn.fp]) (fun b hb => .inl hb)
  refine op_val ?_ (h w.heap.size _ (by simpa using H2))
  unfold execOp
  rw [ho]
  simp only [Sem.run_bind, Sem.run_pure, hx, hy, hr, Result.andThen_ok]
  rfl
end
end Go.V
namespace Go.Proofs.YtikaldcoakpfoaaGreatDoor
set_option linter.unusedVariables false
set_option linter.unusedSimpArgs false
set_option linter.unnecessarySimpa false
open Go Go.RowKit Go.V Go.Lib

def AtUns (w : World) (m r bx clock : Nat) (es : Array MapEntry) (b : Value) (wr : World) : Prop := ∃ (key : Option Nat) (n cap : Nat) (seen : Array Nat) (gs : List MapEntry) (vs : List Value), b = sl key n cap ∧ Hid (SeenIs es seen gs ∧ vs = gs.map (·.key) ∧ n = gs.length) ∧ n ≤ es.size ∧
  St [] w wr [(true, .row key 3 1 n cap vs), (true, .is r (.mapIter (some m) clock seen clock)), (true, .is bx (setObj m)), (false, .is m (.map es clock))]
def intOfV : Value → Int
  | .int _ n => n
  | _ => 0
theorem ints_perm {es : Array MapEntry} {l : List Int} {gs : List MapEntry} (h : es.toList.map (·.key) = l.map ki) (hp : gs.Perm es.toList) : ∃ zs : List Int, gs.map (·.key) = intsN zs ∧ zs.Perm l := by
  have hk : ∀ e ∈ es.toList, ∃ k, e.key = ki k := by
    intro e he
    have : e.key ∈ es.toList.map (·.key) := List.mem_map.2 ⟨e, he, rfl⟩
    rw [h] at this
    obtain ⟨k, _, hk⟩ := List.mem_map.1 this
    exact ⟨k, hk.symm⟩
  refine ⟨gs.map fun e => intOfV e.key, ?_, ?_⟩
  · unfold intsN
    rw [List.map_map]
    apply List.map_congr_left
    intro e he
    obtain ⟨k, hk⟩ := hk e (hp.mem_iff.1 he)
    simp [hk, intOfV]
  · have h1 := (hp.map fun e => intOfV e.key)
    have h2 : es.toList.map (fun e => intOfV e.key) = l := by
      have := congrArg (List.map intOfV) h
      simpa [List.map_map, Function.comp_def, intOfV] using this
    rwa [h2] at h1
set_option maxHeartbeats 400000 in
set_option maxRecDepth 8000 in
theorem unsorted_calls (m clock : Nat) (es : Array MapEntry) (l : List Int) (hl : Hid (SetI es clock l)) (hln : l.length ≤ 100000000) (w : World) (H : St [] w w [(false, .is m (.map es clock))]) :
    Calls Tryz.prog 47 #[setV m] w fun e w' => ∃ key n cap zs, Hid (zs.Perm l ∧ n = zs.length) ∧ e = .returned (sl key n cap) ∧ St [] w w' [(true, .row key 3 1 n cap (intsN zs))] := by
  have hes : es.size ≤ 100000000 := by rw [setM_size hl.out]; exact hln
  go_enter Tryz.func47, Tryz.ntmps47
  repeat' (first | (go_big_may; (first
    | go_skip
    | (refine wpList_plain rfl (fun K hK => ?_); refine op_lenMap _ _ _ _ rfl Tryz.underlying40 rfl (H.obj (b := m) (by repeat (first | exact Split.here _ _ | apply Split.there))) (hK _ _ ?_); clear hK K)
    | (refine wpList_plain rfl (fun K hK => ?_); (refine op_range _ _ _ _ rfl Tryz.underlying40 (es := es) (clock := clock) rfl H (H.obj (b := m) (by repeat (first | exact Split.here _ _ | apply Split.there))) (fun r w' H1 => hK _ _ ?_); clear hK K; replace H := H1; clear H1; (try clear hc); (try simp only [nrm, splice, Value.cells, Nat.reduceAdd, Act.eval, Act.put] at H); have hc := H.cells; simp only [CellsOf, KnCells, knc, Nat.reduceAdd] at hc))
    | ((first
        | (refine loud_ rfl ?_; refine wpList_plain rfl (fun K hK => ?_); (first | (refine op_make0 _ _ _ rfl elem22 rfl rfl H (by omega) (by unfold maxLen; omega) (fun kb w' H1 => hK _ _ ?_)) | (refine op_box _ _ rfl H (fun b w' H1 => hK _ _ ?_)) | (refine op_alloc _ rfl (zero_of _ _ rfl) H (fun b w' H1 => hK _ _ ?_)) | (refine op_store _ _ _ rfl rfl rfl H (by repeat (first | exact Split.here _ _ | apply Split.there)) (by kernel_rfl) (by kernel_rfl) (by kernel_rfl) (fun w' H1 => hK _ _ ?_)) | (refine op_buildSlice_all _ _ _ rfl (by first | exact elem22 | exact elem60 | exact elem66 | exact elem72 | exact elem74) (by kernel_rfl) (by kernel_rfl) (by kernel_rfl) H (fun b w' H1 => hK _ _ ?_))); clear hK K; replace H := H1; clear H1)); (try clear hc); (try simp only [nrm, splice, Value.cells, Nat.reduceAdd, Act.eval, Act.put] at H); have hc := H.cells; simp only [CellsOf, KnCells, knc, Nat.reduceAdd] at hc))) | go_values | go_skip | go_guarded | go_step | go_upon | go_back | dsimp only)
  (try simp only [Act.put, slt])
  obtain ⟨bx, rfl⟩ : ∃ q, q = b := ⟨_, rfl⟩
  have hA0 : AtUns w m r bx clock es (sl (some kb) 0 es.size) w' := ⟨some kb, 0, es.size, #[], [], [], rfl, ⟨seen_nil _, rfl, rfl⟩, Nat.zero_le _, H.sel (by repeat (first | exact Sel.nil _ | (apply Sel.cons; focus (repeat (first | exact Split.here _ _ | apply Split.there)))))⟩
  clear H hc
  go_loopw [3] (AtUns w m r bx clock es) (fun _ wr => wr.rangeLeft m r)
  case atStart => exact hA0
  case round =>
    clear hA0
    obtain ⟨key, n, cap, seen, gs, vs, rfl, hs, hn, H⟩ := hrel
    have hleft := Lib.hid (range_left (H.obj (b := m) (Split.there _ (Split.there _ (Split.there _ (Split.here _ _))))) (H.obj (b := r) (Split.there _ (Split.here _ _))))
    have hborn := hl.out.2.1
    have hnd := hl.out.2.2.1
    have hkeys := Lib.hid (setM_keys hl.out)
    by_cases hlf : (leftOf es seen).size = 0
    · obtain ⟨zs, hz1, hz2⟩ := ints_perm hkeys.out (seen_all hs.out.1 hlf hnd)
      have hv := hs.out.2.1
      rw [hz1] at hv
      subst hv
      have hfin : Hid (zs.Perm l ∧ n = zs.length) := by
        refine ⟨hz2, ?_⟩
        have h1 := congrArg List.length hz1
        rw [List.length_map, intsN_len] at h1
        rw [hs.out.2.2, h1]
      clear hz1 hz2 hs
      have hc := H.cells; simp only [CellsOf, KnCells, knc, Nat.reduceAdd] at hc
      repeat' (first | (go_big_may; (first
    | go_skip
    | (refine wpList_plain rfl (fun K hK => ?_); refine op_next_done _ rfl rfl H (by repeat (first | exact Split.here _ _ | apply Split.there)) (H.obj (by repeat (first | exact Split.here _ _ | apply Split.there))) hborn (Nat.le_refl _) hlf (hK _ _ ?_); clear hK K)
    | ((first
        | (refine loud_ rfl ?_; refine wpList_plain rfl (fun K hK => ?_); (first | (refine op_box _ _ rfl H (fun b w' H1 => hK _ _ ?_)) | (refine op_alloc _ rfl (zero_of _ _ rfl) H (fun b w' H1 => hK _ _ ?_)) | (refine op_store _ _ _ rfl rfl rfl H (by repeat (first | exact Split.here _ _ | apply Split.there)) (by kernel_rfl) (by kernel_rfl) (by kernel_rfl) (fun w' H1 => hK _ _ ?_)) | (refine op_buildSlice_all _ _ _ rfl (by first | exact elem22 | exact elem60 | exact elem66 | exact elem72 | exact elem74) (by kernel_rfl) (by kernel_rfl) (by kernel_rfl) H (fun b w' H1 => hK _ _ ?_))); clear hK K; replace H := H1; clear H1)); (try clear hc); (try simp only [nrm, splice, Value.cells, Nat.reduceAdd, Act.eval, Act.put] at H); have hc := H.cells; simp only [CellsOf, KnCells, knc, Nat.reduceAdd] at hc))) | go_values | go_skip | go_guarded | go_step | go_upon | go_back | dsimp only)
      go_ret
      exact ⟨key, n, cap, zs, hfin, rfl, H.top1⟩
    · have hnum : n + 1 ≤ 100000001 := by omega
      have hc := H.cells; simp only [CellsOf, KnCells, knc, Nat.reduceAdd] at hc
      go_upto_region 4 with (first
    | go_skip
    | (refine wpList_plain rfl (fun K hK => ?_); (refine op_next_more _ rfl rfl H (by repeat (first | exact Split.here _ _ | apply Split.there)) (H.obj (by repeat (first | exact Split.here _ _ | apply Split.there))) hborn (Nat.le_refl _) hlf (fun en w' he H1 => hK _ _ ?_); clear hK K; replace H := H1; clear H1; (try clear hc); (try simp only [nrm, splice, Value.cells, Nat.reduceAdd, Act.eval, Act.put] at H); have hc := H.cells; simp only [CellsOf, KnCells, knc, Nat.reduceAdd] at hc))
    | ((first
        | (refine loud_ rfl ?_; refine wpList_plain rfl (fun K hK => ?_); (first | (refine op_box _ _ rfl H (fun b w' H1 => hK _ _ ?_)) | (refine op_alloc _ rfl (zero_of _ _ rfl) H (fun b w' H1 => hK _ _ ?_)) | (refine op_store _ _ _ rfl rfl rfl H (by repeat (first | exact Split.here _ _ | apply Split.there)) (by kernel_rfl) (by kernel_rfl) (by kernel_rfl) (fun w' H1 => hK _ _ ?_)) | (refine op_buildSlice_all _ _ _ rfl (by first | exact elem22 | exact elem60 | exact elem66 | exact elem72 | exact elem74) (by kernel_rfl) (by kernel_rfl) (by kernel_rfl) H (fun b w' H1 => hK _ _ ?_))); clear hK K; replace H := H1; clear H1)); (try clear hc); (try simp only [nrm, splice, Value.cells, Nat.reduceAdd, Act.eval, Act.put] at H); have hc := H.cells; simp only [CellsOf, KnCells, knc, Nat.reduceAdd] at hc))
      have hlt := Lib.hid (left_shrinks es seen en he)
      have hsp := Lib.hid (seen_push hs.out.1 he)
      have hle := seen_len hsp.out
      have hmem := Lib.hid (mem_left he).1
      obtain ⟨sk, hsk⟩ : ∃ k, en.key = ki k := by
        have : en.key ∈ es.toList.map (·.key) := List.mem_map.2 ⟨en, hmem.out, rfl⟩
        rw [hkeys.out] at this
        obtain ⟨k, _, hk⟩ := List.mem_map.1 this
        exact ⟨k, hk.symm⟩
      clear he
      obtain ⟨ky, vl, bo⟩ := en
      simp only at hsk
      subst hsk
      have hl9 : Hid (n + 1 ≤ es.size ∧ vs ++ [ki sk] = (gs ++ [(⟨ki sk, vl, bo⟩ : MapEntry)]).map (·.key) ∧ n + 1 = (gs ++ [(⟨ki sk, vl, bo⟩ : MapEntry)]).length) := by
        rw [List.length_append] at hle
        have := hs.out.2.2
        refine ⟨by simp at hle; omega, by rw [hs.out.2.1]; simp, by simp; omega⟩
      clear hle
      have hc := H.cells; simp only [CellsOf, KnCells, knc, Nat.reduceAdd] at hc
      repeat' (first | (go_big_may; (first
    | go_skip
    | (refine wpList_plain rfl (fun K hK => ?_); refine op_entry _ rfl rfl H (by repeat (first | exact Split.here _ _ | apply Split.there)) (H.obj (by repeat (first | exact Split.here _ _ | apply Split.there))) hmem.out hnd (hK _ _ ?_); clear hK K)
    | ((first
        | (refine loud_ rfl ?_; refine wpList_plain rfl (fun K hK => ?_); (first | (refine op_append_lit _ _ _ rfl elem22 rfl rfl H (by repeat (first | exact Split.here _ _ | apply Split.there)) (by repeat (first | exact Split.here _ _ | apply Split.there)) (by kernel_rfl) (by kernel_rfl) (by omega) (by unfold maxLen; omega) (fun key cap' w' H1 => hK _ _ ?_)) | (refine op_box _ _ rfl H (fun b w' H1 => hK _ _ ?_)) | (refine op_alloc _ rfl (zero_of _ _ rfl) H (fun b w' H1 => hK _ _ ?_)) | (refine op_store _ _ _ rfl rfl rfl H (by repeat (first | exact Split.here _ _ | apply Split.there)) (by kernel_rfl) (by kernel_rfl) (by kernel_rfl) (fun w' H1 => hK _ _ ?_)) | (refine op_buildSlice_all _ _ _ rfl (by first | exact elem22 | exact elem60 | exact elem66 | exact elem72 | exact elem74) (by kernel_rfl) (by kernel_rfl) (by kernel_rfl) H (fun b w' H1 => hK _ _ ?_))); clear hK K; replace H := H1; clear H1)); (try clear hc); (try simp only [nrm, splice, Value.cells, Nat.reduceAdd, Act.eval, Act.put] at H); have hc := H.cells; simp only [CellsOf, KnCells, knc, Nat.reduceAdd] at hc))) | go_values | go_skip | go_guarded | go_step | go_upon | go_back | dsimp only)
      have hleft2 := range_left (H.obj (b := m) (Split.there _ (Split.there _ (Split.there _ (Split.here _ _))))) (H.obj (b := r) (Split.there _ (Split.here _ _)))
      exact ⟨⟨key, n + 1, cap', _, _, _, rfl, ⟨hsp.out, hl9.out.2.1, hl9.out.2.2⟩, hl9.out.1, H⟩, by rw [hleft2, hleft.out]; exact hlt.out⟩
end Go.Proofs.YtikaldcoakpfoaaGreatDoor
