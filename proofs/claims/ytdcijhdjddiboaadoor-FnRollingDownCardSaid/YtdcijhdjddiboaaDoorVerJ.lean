import Derived.Test.YtdcijhdjddiboaaDoorVerI
import Derived.Laws.BytesArg
-- MORE
namespace Go.Proofs.YtdcijhdjddiboaaDoor
set_option linter.unusedVariables false
set_option linter.unusedSimpArgs false
set_option linter.unnecessarySimpa false
open Go.RowKit Go.V

/-- A slice of one byte as a text. -/
theorem op_oneByte {P : Program} {w : World} {o : Oper} {a : Act} {K : Act → World → Prop} {Q : Exit → Act → World → Prop} (src dst e : TypeId) (x : Operand) (ho : o.op = .convert src dst x)
    (hs : P.underlying src = some (.slice e)) (he : P.underlying e = some (.int .u8)) (hd : P.underlying dst = some .string) {b c : Nat} {m : Int} {T : TypeId} {fr : Nat × Nat} (hx : a.eval x = .slice (some ⟨b, 0, none⟩) 1 c)
    (hb : w.heap[b]? = some (.cells #[.int .u8 m] T fr)) (h : K (a.put o.dst (.string ⟨#[UInt8.ofNat m.toNat]⟩)) w) : o.wp P a w K Q := by
  refine op_val ?_ h
  unfold execOp
  rw [ho]
  have := run_convert_bytes_arg (P := P) w src e hs he b 0 1 c [m] rfl (fun i hi => by
    obtain rfl : i = 0 := by omega
    rw [cell_of_row w b 0 _ _ _ hb]
    rfl) dst hd
  simp only [Sem.run_bind, Sem.run_pure, hx, this, Result.andThen_ok]
  rfl
theorem one_app (c : UInt8) (t : List UInt8) : (⟨#[c]⟩ : ByteArray) ++ ⟨t.toArray⟩ = ⟨(c :: t).toArray⟩ := by
  apply ByteArray.ext
  simp [ByteArray.data_append]
theorem byte_add (m : Nat) : 48 + UInt8.ofNat m = UInt8.ofNat (48 + m) := by
  rw [UInt8.ofNat_add]
  rfl
theorem dec_one (m : Nat) (h : m ≤ 9) : dec m = [UInt8.ofNat (48 + m)] := by
  unfold dec
  rw [if_pos (by omega)]
def AtVN (N : Nat) (w : World) (nv sv : Value) (wr : World) : Prop := ∃ (m : Nat) (t : List UInt8), nv = .int .i64 m ∧ sv = .string ⟨t.toArray⟩ ∧ m ≤ N ∧ Hid (dec N = dec m ++ t) ∧ t.length ≤ 4 ∧ St [] w wr []
set_option maxHeartbeats 4000000 in
set_option maxRecDepth 8000 in
theorem verNumber_calls (N : Nat) (hN : N ≤ 9999) (w : World) :
    Calls Tryd.prog 37 #[.int .i64 N] w fun e w' => e = .returned (.string ⟨(dec N).toArray⟩) ∧ Ext [] w w' := by
  have H := St.init [] w
  go_enter Tryd.func37, Tryd.ntmps37
  go_wp2_with (first
    | ((first
        | (refine loud_ rfl ?_; refine wpList_plain rfl (fun K hK => ?_); (first | (refine op_box _ _ rfl H (fun b w' H1 => hK _ _ ?_)) | (refine op_alloc _ rfl (zero_of _ _ rfl) H (fun b w' H1 => hK _ _ ?_)) | (refine op_store _ _ _ rfl rfl rfl H (by repeat (first | exact Split.here _ _ | apply Split.there)) (by kernel_rfl) (by kernel_rfl) (by kernel_rfl) (fun w' H1 => hK _ _ ?_)) | (refine op_buildSlice_all _ _ _ rfl (by first | exact elem22 | exact elem39 | exact elem76 | exact elem154) (by kernel_rfl) (by kernel_rfl) (by kernel_rfl) H (fun b w' H1 => hK _ _ ?_))); clear hK K; replace H := H1; clear H1)); (try clear hc); (try simp only [nrm, splice, Value.cells, Nat.reduceAdd, Act.eval, Act.put] at H); have hc := H.cells; simp only [CellsOf, KnCells, knc, Nat.reduceAdd] at hc))
  have hA0 : AtVN N w (.int .i64 N) (.string ⟨#[]⟩) w := ⟨N, [], rfl, rfl, Nat.le_refl _, (by show _ = _; simp), by simp, H⟩
  clear H
  go_loopw [0, 3] (AtVN N w) (fun n _ _ => (intOf n).toNat)
  case atStart => exact hA0
  case round =>
    clear hA0
    obtain ⟨m, t, rfl, rfl, hm, ht, hl, H⟩ := hrel
    by_cases h9 : m ≤ 9
    · have hI : ¬ (9 : Int) < m := by omega
      have hc := H.cells; simp only [CellsOf, KnCells, knc, Nat.reduceAdd] at hc
      go_wp2_with (first
    | go_skip
    | (refine wpList_plain rfl (fun K hK => ?_); refine op_oneByte _ _ _ _ rfl Tryd.underlying76 Tryd.underlying5 Tryd.underlying9 rfl (H.obj (by repeat (first | exact Split.here _ _ | apply Split.there))) (hK _ _ ?_); clear hK K)
    | ((first
        | (refine loud_ rfl ?_; refine wpList_plain rfl (fun K hK => ?_); (first | (refine op_box _ _ rfl H (fun b w' H1 => hK _ _ ?_)) | (refine op_alloc _ rfl (zero_of _ _ rfl) H (fun b w' H1 => hK _ _ ?_)) | (refine op_store _ _ _ rfl rfl rfl H (by repeat (first | exact Split.here _ _ | apply Split.there)) (by kernel_rfl) (by kernel_rfl) (by kernel_rfl) (fun w' H1 => hK _ _ ?_)) | (refine op_buildSlice_all _ _ _ rfl (by first | exact elem22 | exact elem39 | exact elem76 | exact elem154) (by kernel_rfl) (by kernel_rfl) (by kernel_rfl) H (fun b w' H1 => hK _ _ ?_))); clear hK K; replace H := H1; clear H1)); (try clear hc); (try simp only [nrm, splice, Value.cells, Nat.reduceAdd, Act.eval, Act.put] at H); have hc := H.cells; simp only [CellsOf, KnCells, knc, Nat.reduceAdd] at hc))
      go_ret
      refine ⟨?_, H.ext⟩
      rw [one_app, byte_add, ht.out, dec_one m h9]
      rfl
    · have hI : (9 : Int) < m := by omega
      have hmN := Lib.hid hm
      have hl' : ¬ (9223372036854775807 : Int) < 1 + t.length := by omega
      have hc := H.cells; simp only [CellsOf, KnCells, knc, Nat.reduceAdd] at hc
      go_wp2_with (first
    | go_skip
    | (refine wpList_plain rfl (fun K hK => ?_); refine op_oneByte _ _ _ _ rfl Tryd.underlying76 Tryd.underlying5 Tryd.underlying9 rfl (H.obj (by repeat (first | exact Split.here _ _ | apply Split.there))) (hK _ _ ?_); clear hK K)
    | ((first
        | (refine loud_ rfl ?_; refine wpList_plain rfl (fun K hK => ?_); (first | (refine op_box _ _ rfl H (fun b w' H1 => hK _ _ ?_)) | (refine op_alloc _ rfl (zero_of _ _ rfl) H (fun b w' H1 => hK _ _ ?_)) | (refine op_store _ _ _ rfl rfl rfl H (by repeat (first | exact Split.here _ _ | apply Split.there)) (by kernel_rfl) (by kernel_rfl) (by kernel_rfl) (fun w' H1 => hK _ _ ?_)) | (refine op_buildSlice_all _ _ _ rfl (by first | exact elem22 | exact elem39 | exact elem76 | exact elem154) (by kernel_rfl) (by kernel_rfl) (by kernel_rfl) H (fun b w' H1 => hK _ _ ?_))); clear hK K; replace H := H1; clear H1)); (try clear hc); (try simp only [nrm, splice, Value.cells, Nat.reduceAdd, Act.eval, Act.put] at H); have hc := H.cells; simp only [CellsOf, KnCells, knc, Nat.reduceAdd] at hc))
      have hdq : dec m = dec (m / 10) ++ [UInt8.ofNat (48 + m % 10)] := by
        have := dec_snoc (m / 10) (m % 10) (by omega) (by omega) (by omega)
        rw [show 10 * (m / 10) + m % 10 = m by omega] at this
        exact this
      have hlen := (dec_len N).2
      rw [ht.out, hdq, List.append_assoc] at hlen
      refine ⟨⟨m / 10, UInt8.ofNat (48 + m % 10) :: t, by go_num, ?_, by omega, ?_, ?_, H.sel (by repeat (first | exact Sel.nil _ | (apply Sel.cons; focus (repeat (first | exact Split.here _ _ | apply Split.there)))))⟩, ?_⟩
      · rw [one_app, byte_add]
      · show dec N = _
        rw [ht.out, hdq, List.append_assoc]
        rfl
      · simp only [List.length_append, List.length_cons, List.length_nil] at hlen ⊢
        omega
      · simp [intOf]
        omega
theorem verNumber_at (n : Int) (h : 0 ≤ n ∧ n ≤ 9999) (A : List UInt8) (hA : Hid (dec n.toNat = A)) (w : World) :
    Calls Tryd.prog 37 #[.int .i64 n] w fun e w' => e = .returned (.string ⟨A.toArray⟩) ∧ Ext [] w w' := by
  obtain rfl := hA.out
  obtain ⟨m, rfl⟩ : ∃ m : Nat, n = m := ⟨n.toNat, by omega⟩
  exact verNumber_calls m (by omega) w
set_option maxRecDepth 8000 in
set_option maxHeartbeats 1000000 in
theorem verText_calls (x : Vr) (h : x.Ok) (w : World) :
    Calls Tryd.prog 18 #[x.val] w fun e w' => e = .returned (.string (vstr x)) ∧ Ext [] w w' := by
  obtain ⟨⟨ha1, ha2⟩, ⟨hb1, hb2⟩, ⟨hc1, hc2⟩⟩ := h
  obtain ⟨x1, x2, x3⟩ := x
  simp only at ha1 ha2 hb1 hb2 hc1 hc2
  have e : vstr ⟨x1, x2, x3⟩ = ⟨(dec x1.toNat ++ 46 :: (dec x2.toNat ++ 46 :: dec x3.toNat)).toArray⟩ := rfl
  rw [e, ← str_join]
  have l1 := (dec_len x1.toNat).2
  have l2 := (dec_len x2.toNat).2
  have l3 := (dec_len x3.toNat).2
  obtain ⟨A, hA⟩ : ∃ A, dec x1.toNat = A := ⟨_, rfl⟩
  obtain ⟨B, hB⟩ : ∃ B, dec x2.toNat = B := ⟨_, rfl⟩
  obtain ⟨C, hC⟩ : ∃ C, dec x3.toNat = C := ⟨_, rfl⟩
  rw [hA, hB, hC]
  rw [hA] at l1
  rw [hB] at l2
  rw [hC] at l3
  have hA := Lib.hid hA
  have hB := Lib.hid hB
  have hC := Lib.hid hC
  clear e
  have H := St.init [] w
  go_enter Tryd.func18, Tryd.ntmps18
  go_wp2_with (first
    | ((first
        | (refine loud_ rfl ?_; refine wpList_plain rfl (fun K hK => ?_); (first | (refine op_box _ _ rfl H (fun b w' H1 => hK _ _ ?_)) | (refine op_alloc _ rfl (zero_of _ _ rfl) H (fun b w' H1 => hK _ _ ?_)) | (refine op_store _ _ _ rfl rfl rfl H (by repeat (first | exact Split.here _ _ | apply Split.there)) (by kernel_rfl) (by kernel_rfl) (by kernel_rfl) (fun w' H1 => hK _ _ ?_)) | (refine op_buildSlice_all _ _ _ rfl (by first | exact elem22 | exact elem39 | exact elem76 | exact elem154) (by kernel_rfl) (by kernel_rfl) (by kernel_rfl) H (fun b w' H1 => hK _ _ ?_))); clear hK K; replace H := H1; clear H1)); (try clear hc); (try simp only [nrm, splice, Value.cells, Nat.reduceAdd, Act.eval, Act.put] at H); have hc := H.cells; simp only [CellsOf, KnCells, knc, Nat.reduceAdd] at hc))
  (try simp only [Act.put, slt])
  refine wp_region_plan (.p [0] (.q [1] (.p [4] (.q [5] (.p [9] (.q [10] (.e 2 (.p [3] (.e 6 (.p [7, 8] (.e 11 (.p [12, 13] .done)))))))))))) [11] (by kernel_rfl) (by kernel_rfl) (fun _ _ d _ _ h => by cases d <;> exact h) H ?_
  clear H
  (try clear hc)
  intro X nX fX wd hcf hS H
  simp only [CellsOf, KnCells, knc, Nat.reduceAdd] at hcf
  have hc := H.cells
  simp only [CellsOf, KnCells, knc, Nat.reduceAdd] at hc
  iterate 1 (refine plan_p (o := ⟨_, _, _, _, _, _⟩) rfl (fun N hN => ?_); go_big_quiet_step (fail); refine wpQuiet_nil (hN _ ?_); clear hN N)
  refine plan_p0 ?_
  iterate 1 (refine plan_q (o := ⟨_, _, _, _, _, _⟩) rfl (fun N hN => ?_); go_big_quiet_step (fail); refine wpQuiet_nil (hN _ ?_); clear hN N)
  refine plan_q0 ?_
  iterate 1 (refine plan_p (o := ⟨_, _, _, _, _, _⟩) rfl (fun N hN => ?_); go_big_quiet_step (fail); refine wpQuiet_nil (hN _ ?_); clear hN N)
  refine plan_p0 ?_
  iterate 1 (refine plan_q (o := ⟨_, _, _, _, _, _⟩) rfl (fun N hN => ?_); go_big_quiet_step (fail); refine wpQuiet_nil (hN _ ?_); clear hN N)
  refine plan_q0 ?_
  iterate 1 (refine plan_p (o := ⟨_, _, _, _, _, _⟩) rfl (fun N hN => ?_); go_big_quiet_step (fail); refine wpQuiet_nil (hN _ ?_); clear hN N)
  refine plan_p0 ?_
  iterate 1 (refine plan_q (o := ⟨_, _, _, _, _, _⟩) rfl (fun N hN => ?_); go_big_quiet_step (fail); refine wpQuiet_nil (hN _ ?_); clear hN N)
  refine plan_q0 ?_
  refine plan_e (o := ⟨_, _, _, _, _, _⟩) rfl rfl (fun K hK => ?_)
  (first | (go_step; refine Calls.mono (verNumber_at _ (by first | exact ⟨ha1, ha2⟩ | exact ⟨hb1, hb2⟩ | exact ⟨hc1, hc2⟩) _ (by first | exact hA | exact hB | exact hC) _) ?_; rintro e w' ⟨rfl, H'⟩; replace H := H.of_ext H'; clear H') | (refine op_box _ _ rfl H (fun b w' H1 => ?_); replace H := H1; clear H1) | (refine op_alloc _ rfl (zero_of _ _ rfl) H (fun b w' H1 => ?_); replace H := H1; clear H1) | (refine op_store _ _ _ rfl rfl rfl H (by repeat (first | exact Split.here _ _ | apply Split.there)) (by kernel_rfl) (by kernel_rfl) (by kernel_rfl) (fun w' H1 => ?_); replace H := H1; clear H1) | (refine op_buildSlice_all _ _ _ rfl (by first | exact elem22 | exact elem39 | exact elem76 | exact elem154) (by kernel_rfl) (by kernel_rfl) (by kernel_rfl) H (fun b w' H1 => ?_); replace H := H1; clear H1)); (try clear hc); (try simp only [nrm, splice, Value.cells, Nat.reduceAdd, Act.eval, Act.put] at H); have hc := H.cells; simp only [CellsOf, KnCells, knc, Nat.reduceAdd] at hc; refine hK _ _ (fun _ _ => hS _ (H.sublist (by repeat (first | exact List.Sublist.refl _ | apply List.Sublist.cons))).all) ?_; clear hK K; (try simp only [Act.put, slt])
  iterate 1 (refine plan_p (o := ⟨_, _, _, _, _, _⟩) rfl (fun N hN => ?_); go_big_quiet_step (fail); refine wpQuiet_nil (hN _ ?_); clear hN N)
  refine plan_p0 ?_
  refine plan_e (o := ⟨_, _, _, _, _, _⟩) rfl rfl (fun K hK => ?_)
  (first | (go_step; refine Calls.mono (verNumber_at _ (by first | exact ⟨ha1, ha2⟩ | exact ⟨hb1, hb2⟩ | exact ⟨hc1, hc2⟩) _ (by first | exact hA | exact hB | exact hC) _) ?_; rintro e w' ⟨rfl, H'⟩; replace H := H.of_ext H'; clear H') | (refine op_box _ _ rfl H (fun b w' H1 => ?_); replace H := H1; clear H1) | (refine op_alloc _ rfl (zero_of _ _ rfl) H (fun b w' H1 => ?_); replace H := H1; clear H1) | (refine op_store _ _ _ rfl rfl rfl H (by repeat (first | exact Split.here _ _ | apply Split.there)) (by kernel_rfl) (by kernel_rfl) (by kernel_rfl) (fun w' H1 => ?_); replace H := H1; clear H1) | (refine op_buildSlice_all _ _ _ rfl (by first | exact elem22 | exact elem39 | exact elem76 | exact elem154) (by kernel_rfl) (by kernel_rfl) (by kernel_rfl) H (fun b w' H1 => ?_); replace H := H1; clear H1)); (try clear hc); (try simp only [nrm, splice, Value.cells, Nat.reduceAdd, Act.eval, Act.put] at H); have hc := H.cells; simp only [CellsOf, KnCells, knc, Nat.reduceAdd] at hc; refine hK _ _ (fun _ _ => hS _ (H.sublist (by repeat (first | exact List.Sublist.refl _ | apply List.Sublist.cons))).all) ?_; clear hK K; (try simp only [Act.put, slt])
  iterate 2 (refine plan_p (o := ⟨_, _, _, _, _, _⟩) rfl (fun N hN => ?_); go_big_quiet_step (fail); refine wpQuiet_nil (hN _ ?_); clear hN N)
  refine plan_p0 ?_
  refine plan_e (o := ⟨_, _, _, _, _, _⟩) rfl rfl (fun K hK => ?_)
  (first | (go_step; refine Calls.mono (verNumber_at _ (by first | exact ⟨ha1, ha2⟩ | exact ⟨hb1, hb2⟩ | exact ⟨hc1, hc2⟩) _ (by first | exact hA | exact hB | exact hC) _) ?_; rintro e w' ⟨rfl, H'⟩; replace H := H.of_ext H'; clear H') | (refine op_box _ _ rfl H (fun b w' H1 => ?_); replace H := H1; clear H1) | (refine op_alloc _ rfl (zero_of _ _ rfl) H (fun b w' H1 => ?_); replace H := H1; clear H1) | (refine op_store _ _ _ rfl rfl rfl H (by repeat (first | exact Split.here _ _ | apply Split.there)) (by kernel_rfl) (by kernel_rfl) (by kernel_rfl) (fun w' H1 => ?_); replace H := H1; clear H1) | (refine op_buildSlice_all _ _ _ rfl (by first | exact elem22 | exact elem39 | exact elem76 | exact elem154) (by kernel_rfl) (by kernel_rfl) (by kernel_rfl) H (fun b w' H1 => ?_); replace H := H1; clear H1)); (try clear hc); (try simp only [nrm, splice, Value.cells, Nat.reduceAdd, Act.eval, Act.put] at H); have hc := H.cells; simp only [CellsOf, KnCells, knc, Nat.reduceAdd] at hc; refine hK _ _ (fun h => (h (by decide)).elim) ?_; clear hK K; (try simp only [Act.put, slt])
  iterate 2 (refine plan_p (o := ⟨_, _, _, _, _, _⟩) rfl (fun N hN => ?_); go_big_quiet_step (fail); refine wpQuiet_nil (hN _ ?_); clear hN N)
  refine plan_p0 ?_
  refine plan_done ?_
  go_wp2_with (first
    | ((first
        | (refine loud_ rfl ?_; refine wpList_plain rfl (fun K hK => ?_); (first | (refine op_box _ _ rfl H (fun b w' H1 => hK _ _ ?_)) | (refine op_alloc _ rfl (zero_of _ _ rfl) H (fun b w' H1 => hK _ _ ?_)) | (refine op_store _ _ _ rfl rfl rfl H (by repeat (first | exact Split.here _ _ | apply Split.there)) (by kernel_rfl) (by kernel_rfl) (by kernel_rfl) (fun w' H1 => hK _ _ ?_)) | (refine op_buildSlice_all _ _ _ rfl (by first | exact elem22 | exact elem39 | exact elem76 | exact elem154) (by kernel_rfl) (by kernel_rfl) (by kernel_rfl) H (fun b w' H1 => hK _ _ ?_))); clear hK K; replace H := H1; clear H1)); (try clear hc); (try simp only [nrm, splice, Value.cells, Nat.reduceAdd, Act.eval, Act.put] at H); have hc := H.cells; simp only [CellsOf, KnCells, knc, Nat.reduceAdd] at hc))
  go_ret
  exact ⟨rfl, H.ext⟩
end Go.Proofs.YtdcijhdjddiboaaDoor
