import Derived.Test.YtfnapcgbjdkpaaaSnpS
import Derived.Laws.IdiomCopy
import Derived.Laws.DeepStrings4
-- MORE
-- SUB2
namespace Go.V
set_option linter.unusedVariables false
set_option linter.unusedSimpArgs false
set_option linter.unnecessarySimpa false
open Go Go.RowKit
theorem run_storeByte {P : Program} {w : World} (t T : TypeId) (b i : Nat) (x : Int) (cs : Array Value) (lo hi : Nat) (hsz : (P.info? t).map (·.size) = some 1) (hg : w.heap[b]? = some (.cells cs T (lo, hi))) (hi' : i < cs.size) (hfz : ¬ (lo ≤ i ∧ i < hi)) :
    (Instr.storeAt t (.pointer (some ⟨b, i, none⟩)) (.int .u8 x)).run P w = .ok () (w.setCell ⟨b, i, none⟩ (.int .u8 x)) := by
  have hst := run_storeCells_cells (P := P) b i [.int .u8 x] 0 w (by
    intro j hj
    obtain rfl : j = 0 := by simpa using hj
    rw [cell_of_row w b (i + 0 + 0) cs T (lo, hi) hg]
    simp [hi']) (by
    intro j hj
    obtain rfl : j = 0 := by simpa using hj
    simp [World.frozen?, hg]
    omega) (by intro v hv; obtain rfl := List.mem_singleton.1 hv; rfl)
  cases hq : P.info? t with
  | none => simp [hq] at hsz
  | some inf =>
    have hi2 : inf.size = 1 := by simpa [hq] using hsz
    simp [Instr.storeAt, Instr.sureAddr, storeVar, sizeOf, typeInfo, hq, hi2, hst, Value.cells]
    rfl
section
variable {P : Program} {S : List Nat} {w0 w : World} {L : List Ent} {o : Oper} {a : Act} {K : Act → World → Prop} {Q : Exit → Act → World → Prop}
theorem setCell_get {w : World} {b i : Nat} {v : Value} {cs : Array Value} {T : TypeId} {fr : Nat × Nat} (h : w.heap[b]? = some (.cells cs T fr)) : (w.setCell ⟨b, i, none⟩ v).heap[b]? = some (.cells (cs.setIfInBounds i v) T fr) := by
  unfold World.setCell
  simp [Array.getElem?_modify, h]
theorem setCell_ext (w : World) (b i : Nat) (v : Value) : Ext [b] w (w.setCell ⟨b, i, none⟩ v) := by
  refine ⟨rfl, rfl, rfl, by simp [World.setCell], fun k _ hk => ?_⟩
  simp only [List.mem_singleton] at hk
  simp [World.setCell, Array.getElem?_modify, Ne.symm hk]
/-- ONE BYTE is written into a block that a conversion made. -/
theorem op_storeByte (t : TypeId) (x y : Operand) (ho : o.op = .store t x y) {b i lo hi : Nat} {T : TypeId} {cs : Array Value} {A B : List Ent} {z : Int}
    (hx : a.eval x = .pointer (some ⟨b, i, none⟩)) (hy : a.eval y = .int .u8 z) (H : St S w0 w L) (hs : Split L (true, .is b (.cells cs T (lo, hi))) A B)
    (hsz : (P.info? t).map (·.size) = some 1) (hi' : i < cs.size) (hfz : ¬ (lo ≤ i ∧ i < hi))
    (h : ∀ w', St S w0 w' (A ++ (true, .is b (.cells (cs.setIfInBounds i (.int .u8 z)) T (lo, hi))) :: B) → K (a.put o.dst undef) w') : o.wp P a w K Q := by
  have hg := H.obj hs
  refine op_none ?_ (h _ (H.turn (k' := .is b (.cells (cs.setIfInBounds i (.int .u8 z)) T (lo, hi))) hs (setCell_ext w b i _) (setCell_get hg) rfl))
  unfold execOp
  rw [ho]
  simp only [Sem.run_bind, Sem.run_pure, hx, hy, run_storeByte t T b i z cs lo hi hsz hg hi' hfz, Result.andThen_ok]
/-- '[]byte(s)', its block. -/
theorem op_convBytes_is (src dst e : TypeId) (x : Operand) (ho : o.op = .convert src dst x) {u : TypeDesc}
    (hs : P.underlying src = some u) (hd : P.underlying dst = some (.slice e)) (he : P.underlying e = some (.int .u8)) (s : ByteArray) (hx : a.eval x = .string s) (H : St S w0 w L)
    (h : ∀ b w' cap (cs : Array Value), s.size ≤ cap → s.size ≤ cs.size → (∀ j, j < s.size → cs[j]? = some (.int .u8 (s.data.toList.getD j 0).toNat)) → St S w0 w' ((true, .is b (.cells cs e (cs.size, cs.size + 1))) :: L) → K (a.put o.dst (.slice (some ⟨b, 0, none⟩) s.size cap)) w') : o.wp P a w K Q := by
  have hE : Ext [] w (Lib.bytesWorld w e s) := by
    have hz := Lib.bytesWorld_size w e s
    refine ⟨?_, ?_, ?_, by omega, fun k hk _ => Lib.bytesWorld_at_old w e s k hk⟩
    all_goals (unfold Lib.bytesWorld World.freeze; split <;> rfl)
  have H' := H.new hE (.is w.heap.size _) (Lib.bytesWorld_at_new w e s) (by simp [Kn.fp]) (by simp [Kn.fp])
  refine op_val ?_ (h _ _ _ (Lib.bytesCells w e s) (grownCap_ge w s.size 0 e) ?_ ?_ H')
  · unfold execOp
    rw [ho]
    simp only [Sem.run_bind, Sem.run_pure, hx, Lib.run_convert_string_bytes w src dst e s hs hd he, Result.andThen_ok]
  · unfold Lib.bytesCells
    simp
  · intro j hj
    have hj' : j < s.data.size := hj
    unfold Lib.bytesCells
    rw [Array.getElem?_append_left (by simpa using hj'), Array.getElem?_map, Array.getElem?_eq_getElem hj']
    simp [List.getD]
    rw [Array.getElem?_eq_getElem hj']
    rfl
end
end Go.V
namespace Go.Proofs.Ytfnapcgbjdkpaaa
open Go Go.RowKit Go.V Go.Lib

def AtFind (w : World) (s t : ByteArray) (p0 : Nat) (i : Value) (wr : World) : Prop := ∃ q : Nat, i = .int .i64 q ∧ p0 ≤ q ∧ q + t.size ≤ s.size ∧ wr = w
set_option maxHeartbeats 400000 in
set_option maxRecDepth 8000 in
/-- The last place lies not ahead of one that is known. -/
theorem lgFind_calls (s t : ByteArray) (p0 : Nat) (h0 : Hid (s.extract p0 (p0 + t.size) = t)) (hp : p0 + t.size ≤ s.size) (hs : s.size ≤ 1000000000) (w : World) :
    Calls Try.prog 9 #[.string s, .string t] w fun e w' => ∃ k : Nat, p0 ≤ k ∧ k + t.size ≤ s.size ∧ e = .returned (.int .i64 k) ∧ Ext [] w w' := by
  have H := St.init [] w
  have hsub : (s.size : Int) - (t.size : Int) = ((s.size - t.size : Nat) : Int) := by omega
  go_enter Try.func9, Try.ntmps9
  repeat' (first | (go_big_may; (first
    | ((first
        | (refine loud_ rfl ?_; refine wpList_plain rfl (fun K hK => ?_); (first | (refine op_box _ _ rfl H (fun b w' H1 => hK _ _ ?_)) | (refine op_alloc _ rfl (zero_of _ _ rfl) H (fun b w' H1 => hK _ _ ?_)) | (refine op_store _ _ _ rfl rfl rfl H (by repeat (first | exact Split.here _ _ | apply Split.there)) (by kernel_rfl) (by kernel_rfl) (by kernel_rfl) (fun w' H1 => hK _ _ ?_)) | (refine op_buildSlice_all _ _ _ rfl (by first | exact elem23 | exact elem34 | exact elem51 | exact elem148) (by kernel_rfl) (by kernel_rfl) (by kernel_rfl) H (fun b w' H1 => hK _ _ ?_))); clear hK K; replace H := H1; clear H1)); (try clear hc); (try simp only [nrm, splice, Value.cells, Nat.reduceAdd, Act.eval, Act.put] at H); have hc := H.cells; simp only [CellsOf, KnCells, knc, Nat.reduceAdd] at hc))) | go_values | go_skip | go_guarded | go_step | go_upon | go_back | dsimp only)
  go_loopw [5] (AtFind w s t p0) (fun i _ => (intOf i).toNat)
  case atStart => exact ⟨s.size - t.size, by first | rfl | rw [hsub], by omega, by omega, rfl⟩
  case round =>
    obtain ⟨q, rfl, hq, hqs, rfl⟩ := hrel
    clear hsub
    obtain ⟨E, hE⟩ : ∃ E, E = q + t.size := ⟨_, rfl⟩
    have hadd : (q : Int) + (t.size : Int) = (E : Int) := by omega
    have hEq : q ≤ E := by omega
    rw [← hE] at hqs
    have hE' := Lib.hid hE
    clear hE
    by_cases hx : ((s.extract q E).toList == t.toList) = true
    · repeat' (first | (go_big_may; (first
    | ((first
        | (refine loud_ rfl ?_; refine wpList_plain rfl (fun K hK => ?_); (first | (refine op_box _ _ rfl H (fun b w' H1 => hK _ _ ?_)) | (refine op_alloc _ rfl (zero_of _ _ rfl) H (fun b w' H1 => hK _ _ ?_)) | (refine op_store _ _ _ rfl rfl rfl H (by repeat (first | exact Split.here _ _ | apply Split.there)) (by kernel_rfl) (by kernel_rfl) (by kernel_rfl) (fun w' H1 => hK _ _ ?_)) | (refine op_buildSlice_all _ _ _ rfl (by first | exact elem23 | exact elem34 | exact elem51 | exact elem148) (by kernel_rfl) (by kernel_rfl) (by kernel_rfl) H (fun b w' H1 => hK _ _ ?_))); clear hK K; replace H := H1; clear H1)); (try clear hc); (try simp only [nrm, splice, Value.cells, Nat.reduceAdd, Act.eval, Act.put] at H); have hc := H.cells; simp only [CellsOf, KnCells, knc, Nat.reduceAdd] at hc))) | go_values | go_skip | go_guarded | go_step | go_upon | go_back | dsimp only)
      go_ret
      exact ⟨q, hq, by rw [← hE'.out]; exact hqs, rfl, Ext.refl _ _⟩
    · have hx' : ((s.extract q E).toList == t.toList) = false := by simpa using hx
      have hne : q ≠ p0 := by
        rintro rfl
        rw [hE'.out, h0.out] at hx
        simp at hx
      clear hx
      repeat' (first | (go_big_may; (first
    | ((first
        | (refine loud_ rfl ?_; refine wpList_plain rfl (fun K hK => ?_); (first | (refine op_box _ _ rfl H (fun b w' H1 => hK _ _ ?_)) | (refine op_alloc _ rfl (zero_of _ _ rfl) H (fun b w' H1 => hK _ _ ?_)) | (refine op_store _ _ _ rfl rfl rfl H (by repeat (first | exact Split.here _ _ | apply Split.there)) (by kernel_rfl) (by kernel_rfl) (by kernel_rfl) (fun w' H1 => hK _ _ ?_)) | (refine op_buildSlice_all _ _ _ rfl (by first | exact elem23 | exact elem34 | exact elem51 | exact elem148) (by kernel_rfl) (by kernel_rfl) (by kernel_rfl) H (fun b w' H1 => hK _ _ ?_))); clear hK K; replace H := H1; clear H1)); (try clear hc); (try simp only [nrm, splice, Value.cells, Nat.reduceAdd, Act.eval, Act.put] at H); have hc := H.cells; simp only [CellsOf, KnCells, knc, Nat.reduceAdd] at hc))) | go_values | go_skip | go_guarded | go_step | go_upon | go_back | dsimp only)

      have hE2 := hE'.out
      exact ⟨⟨q - 1, by congr 1; omega, by omega, by omega, rfl⟩, by simp [intOf]; omega⟩
end Go.Proofs.Ytfnapcgbjdkpaaa
