import Derived.Test.YtikaldcoakpfoaaGreatDoorCpuS
-- MORE
-- SUB2
namespace Go.Proofs.YtikaldcoakpfoaaGreatDoor
set_option linter.unusedVariables false
set_option linter.unusedSimpArgs false
set_option linter.unnecessarySimpa false
open Go Go.RowKit Go.V Go.Lib

theorem cpuParse_none (l : List UInt8) (hl : l.length ≤ 900000) (h : Hid (cpI l = none)) (w : World) (he : ErrEnv w) :
    Calls Tryz.prog 11 #[.string (bs l)] w fun e w' => e = .returned (.tuple #[.slice none 0 0, .bool false]) ∧ Ext [] w w' := by
  refine (cpuParse_calls l hl (fun L hL => by rw [h.out] at hL; cases hL) w he).mono ?_
  intro e w' k
  unfold CPost at k
  rw [h.out] at k
  exact k
theorem cpuParse_some (l : List UInt8) (L zs : List Int) (hl : l.length ≤ 900000) (h : Hid (cpI l = some L)) (hz : Hid (sortI L = zs)) (hL : L.length ≤ 100000000) (w : World) (he : ErrEnv w) :
    Calls Tryz.prog 11 #[.string (bs l)] w fun e w' => ∃ key n cap, Hid (n = zs.length) ∧ e = .returned (.tuple #[sl key n cap, .bool true]) ∧ St [] w w' [(true, .row key 3 1 n cap (intsN zs))] := by
  refine (cpuParse_calls l hl (fun L' hL' => by rw [h.out] at hL'; injection hL' with e; rw [← e]; exact hL) w he).mono ?_
  intro e w' k
  unfold CPost at k
  rw [h.out] at k
  obtain ⟨key, n, cap, hn, he, H⟩ := k
  rw [hz.out] at H
  exact ⟨key, n, cap, by rw [← hz.out, sortI_len]; exact hn, he, H⟩
/-- A row, and numbers that were written down. -/
theorem equal_lit (k1 : Option Nat) (b : Nat) (xs : List Int) (n c d : Nat) (hn : Hid (n = xs.length)) (hnn : n ≤ 1000000000) (w : World) (H : St [] w w [(false, .row k1 3 1 n c (intsN xs)), (false, .is b (.cells (intsN xs).toArray 3 (0, 0)))]) :
    Calls Tryz.prog 7 #[sl k1 n c, .slice (some ⟨b, 0, none⟩) n d] w fun e w' => e = .returned (.bool true) ∧ Ext [] w w' :=
  equal_lies _ _ xs n c d hn hnn w (lies_of_row1 (H.get (Split.here _ _))) (lies_lit (H.get (Split.there _ (Split.here _ _))))
theorem text_lit (b : Nat) (xs : List Int) (n c : Nat) (hn : Hid (xs.length = n)) (hnn : n ≤ 50000) (hb : Hid (∀ y ∈ xs, 0 ≤ y ∧ y ≤ 1099511627776)) (w : World) (ht : TabAt w) (H : St [] w w [(false, .is b (.cells (intsN xs).toArray 3 (0, 0)))]) :
    Calls Tryz.prog 12 #[.slice (some ⟨b, 0, none⟩) n c] w fun e w' => e = .returned (.string (bs (text (rising xs)))) ∧ Ext [] w w' :=
  cpuText_calls _ xs n c hn hnn hb w ht ((St.init [] w).soft (lies_lit (H.get (Split.here _ _))))
theorem live_a : cpI [51, 44, 48, 45, 49] = some [3, 0, 1] := by decide +kernel
theorem live_b : sortI [3, 0, 1] = [0, 1, 3] := sorted_eq (sortI_sorted _) (by decide) ((sortI_perm _).trans (by decide))
theorem live_c : rising [3, 1, 0] = [0, 1, 3] := strict_eq (rising_facts _).1 (by decide) (fun x => by rw [(rising_facts _).2]; simp; omega)
theorem live_d : text [0, 1, 3] = [48, 45, 49, 44, 51] := by
  have h0 : itx 0 = [48] := by rw [itx_dd (by decide)]; exact dd_one (by decide)
  have h1 : itx 1 = [49] := by rw [itx_dd (by decide)]; exact dd_one (by decide)
  have h3 : itx 3 = [51] := by rw [itx_dd (by decide)]; exact dd_one (by decide)
  have hr : runs [0, 1, 3] = [(0, 1), (3, 3)] := by decide
  unfold text
  rw [hr]
  simp [piece, joinc, h0, h1, h3]
set_option maxHeartbeats 1000000 in
set_option maxRecDepth 8000 in
theorem live_calls (w : World) (he : ErrEnv w) (ht : TabAt w) :
    Calls Tryz.prog 5 #[] w fun e w' => e = .returned (.bool true) ∧ Ext [] w w' := by
  have H := St.init [] w
  have he' := Lib.hid he
  have ht' := Lib.hid ht
  clear he ht
  have ha : Hid (cpI [51, 44, 48, 45, 49] = some [3, 0, 1]) := live_a
  have hb : Hid (sortI [3, 0, 1] = [0, 1, 3]) := live_b
  have hbd : Hid (∀ y ∈ ([3, 1, 0] : List Int), 0 ≤ y ∧ y ≤ 1099511627776) := by
    intro y hy
    simp at hy
    omega
  have hx : Hid (text (rising [3, 1, 0]) = [48, 45, 49, 44, 51]) := by show _ = _; rw [live_c, live_d]
  have hp := fun (w : World) (he : ErrEnv w) => cpuParse_some [51, 44, 48, 45, 49] [3, 0, 1] [0, 1, 3] (by decide) ha hb (by decide) w he
  have hq := fun (b : Nat) (w : World) (ht : TabAt w) H => text_lit b [3, 1, 0] 3 3 rfl (by decide) hbd w ht H
  rw [hx.out] at hq
  have hp' := Lib.hid hp
  have hq' := Lib.hid hq
  clear hp hq
  go_enter Tryz.func5, Tryz.ntmps5
  repeat' (first | (go_big_may; (first
    | go_skip
    | ((first
        | (go_at_call 11; refine Calls.mono (hp'.out _ (errEnv_ext he'.out H.ext)) ?_; rintro e w' ⟨key, n, cap, hn, rfl, H'⟩; replace H := H.merge (by first | exact Strikes.nil _ | (repeat (first | exact Strikes.nil _ | (apply Strikes.cons; focus (repeat (first | exact Split.here _ _ | apply Split.there)))))) H' rfl; clear H')
        | (refine loud_ rfl ?_; refine wpList_plain rfl (fun K hK => ?_); (first | (refine op_box _ _ rfl H (fun b w' H1 => hK _ _ ?_)) | (refine op_alloc _ rfl (zero_of _ _ rfl) H (fun b w' H1 => hK _ _ ?_)) | (refine op_store _ _ _ rfl rfl rfl H (by repeat (first | exact Split.here _ _ | apply Split.there)) (by kernel_rfl) (by kernel_rfl) (by kernel_rfl) (fun w' H1 => hK _ _ ?_)) | (refine op_buildSlice_all _ _ _ rfl (by first | exact elem22 | exact elem60 | exact elem66 | exact elem72 | exact elem74) (by kernel_rfl) (by kernel_rfl) (by kernel_rfl) H (fun b w' H1 => hK _ _ ?_))); clear hK K; replace H := H1; clear H1)); (try clear hc); (try simp only [nrm, splice, Value.cells, Nat.reduceAdd, Act.eval, Act.put] at H); have hc := H.cells; simp only [CellsOf, KnCells, knc, Nat.reduceAdd] at hc))) | go_values | go_skip | go_guarded | go_step | go_upon | go_back | dsimp only)
  obtain rfl : n = 3 := hn.out
  replace H := H.alloc (.cells #[ki 0, ki 1, ki 3] 3 (0, 0))
  generalize w'.heap.size = b1 at *
  go_at_call 7
  refine Calls.mono (equal_lit key b1 [0, 1, 3] 3 cap 3 rfl (by decide) _ (H.pick (by repeat (first | exact Picks.nil _ | (apply Picks.wr; focus (repeat (first | exact Split.here _ _ | apply Split.there))) | (apply Picks.rd; focus (repeat (first | exact Split.here _ _ | apply Split.there))))))) ?_
  rintro e w2 ⟨rfl, H'⟩
  replace H := H.of_ext H'
  clear H'
  (try simp only [nrm, splice, Value.cells, Nat.reduceAdd, Act.eval, Act.put] at H); have hc := H.cells; simp only [CellsOf, KnCells, knc, Nat.reduceAdd] at hc
  repeat' (first | (go_big_may; (first
    | ((first
        | (refine loud_ rfl ?_; refine wpList_plain rfl (fun K hK => ?_); (first | (refine op_box _ _ rfl H (fun b w' H1 => hK _ _ ?_)) | (refine op_alloc _ rfl (zero_of _ _ rfl) H (fun b w' H1 => hK _ _ ?_)) | (refine op_store _ _ _ rfl rfl rfl H (by repeat (first | exact Split.here _ _ | apply Split.there)) (by kernel_rfl) (by kernel_rfl) (by kernel_rfl) (fun w' H1 => hK _ _ ?_)) | (refine op_buildSlice_all _ _ _ rfl (by first | exact elem22 | exact elem60 | exact elem66 | exact elem72 | exact elem74) (by kernel_rfl) (by kernel_rfl) (by kernel_rfl) H (fun b w' H1 => hK _ _ ?_))); clear hK K; replace H := H1; clear H1)); (try clear hc); (try simp only [nrm, splice, Value.cells, Nat.reduceAdd, Act.eval, Act.put] at H); have hc := H.cells; simp only [CellsOf, KnCells, knc, Nat.reduceAdd] at hc))) | go_values | go_skip | go_guarded | go_step | go_upon | go_back | dsimp only)
  replace H := H.alloc (.cells #[ki 3, ki 1, ki 0] 3 (0, 0))
  generalize w2.heap.size = b2 at *
  go_at_call 12
  refine Calls.mono (hq'.out b2 _ (tabAt_ext ht'.out H.ext) (H.pick (by repeat (first | exact Picks.nil _ | (apply Picks.wr; focus (repeat (first | exact Split.here _ _ | apply Split.there))) | (apply Picks.rd; focus (repeat (first | exact Split.here _ _ | apply Split.there))))))) ?_
  rintro e w3 ⟨rfl, H'⟩
  replace H := H.of_ext H'
  clear H'
  have hlit : ({ data := #[48, 45, 49, 44, 51] } : ByteArray) = bs [48, 45, 49, 44, 51] := rfl
  (try simp only [nrm, splice, Value.cells, Nat.reduceAdd, Act.eval, Act.put] at H); have hc := H.cells; simp only [CellsOf, KnCells, knc, Nat.reduceAdd] at hc
  repeat' (first | (go_big_may; (first
    | ((first
        | (refine loud_ rfl ?_; refine wpList_plain rfl (fun K hK => ?_); (first | (refine op_box _ _ rfl H (fun b w' H1 => hK _ _ ?_)) | (refine op_alloc _ rfl (zero_of _ _ rfl) H (fun b w' H1 => hK _ _ ?_)) | (refine op_store _ _ _ rfl rfl rfl H (by repeat (first | exact Split.here _ _ | apply Split.there)) (by kernel_rfl) (by kernel_rfl) (by kernel_rfl) (fun w' H1 => hK _ _ ?_)) | (refine op_buildSlice_all _ _ _ rfl (by first | exact elem22 | exact elem60 | exact elem66 | exact elem72 | exact elem74) (by kernel_rfl) (by kernel_rfl) (by kernel_rfl) H (fun b w' H1 => hK _ _ ?_))); clear hK K; replace H := H1; clear H1)); (try clear hc); (try simp only [nrm, splice, Value.cells, Nat.reduceAdd, Act.eval, Act.put] at H); have hc := H.cells; simp only [CellsOf, KnCells, knc, Nat.reduceAdd] at hc))) | go_values | go_skip | go_guarded | go_step | go_upon | go_back | dsimp only)
  go_ret
  exact ⟨rfl, H.ext⟩
end Go.Proofs.YtikaldcoakpfoaaGreatDoor
