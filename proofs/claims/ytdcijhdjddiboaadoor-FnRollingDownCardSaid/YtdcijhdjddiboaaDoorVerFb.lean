import Derived.Test.YtdcijhdjddiboaaDoorVerFa
-- MORE
namespace Go.Proofs.YtdcijhdjddiboaaDoor
set_option linter.unusedVariables false
set_option linter.unusedSimpArgs false
set_option linter.unnecessarySimpa false
open Go.RowKit Go.V

/-- What was made is a piece of memory. -/
theorem st_isArr {S : List Nat} {w0 w : World} {L A B : List Ent} {b : Nat} {cs : Array Value} {T : TypeId} {fr : Nat × Nat} {xs : List Value} (h : St S w0 w L) (hs : Split L (true, .is b (.cells cs T fr)) A B) (hx : cs.toList = xs) : St S w0 w (A ++ (true, .arr (some ⟨b, 0, none⟩) xs) :: B) := by
  subst hx
  have hg := h.get hs
  refine h.turn hs (Ext.refl _ _) ⟨rfl, lt_of_get hg, fun j hj => ?_⟩ rfl
  rw [cell_of_row w b (0 + j) _ _ _ hg, Nat.zero_add]
  simp
def aw1 : ByteArray := ⟨#[51, 46, 54, 46, 49]⟩
def aw2 : ByteArray := ⟨#[51, 46, 55, 46, 48]⟩
abbrev awD (b : Nat) : VD := ⟨⟨#[51, 46, 53, 46, 48]⟩, ⟨#[]⟩, ⟨#[]⟩, false, false, some ⟨b, 0, none⟩, 2, 2⟩
abbrev awE : VD := ⟨⟨#[51, 46, 54, 46, 48]⟩, ⟨#[]⟩, ⟨#[]⟩, false, false, none, 0, 0⟩
theorem aw_seen (b : Nat) : Seen (awD b) [aw1, aw2] := by
  refine ⟨?_, by decide, ?_, ?_, fun h => (by cases h), rfl⟩
  · intro t ht
    simp only [List.mem_cons, List.not_mem_nil, or_false] at ht
    rcases ht with rfl | rfl
    · exact verOf_sound (x := ⟨3, 6, 1⟩) rfl
    · exact verOf_sound (x := ⟨3, 7, 0⟩) rfl
  · exact verOf_sound (x := ⟨3, 5, 0⟩) rfl
  · exact ⟨fun h => absurd (show 0 < (⟨#[]⟩ : ByteArray).size from h) (by decide), show (⟨#[]⟩ : ByteArray).size ≤ 1000 by decide⟩
theorem aw_dec (b : Nat) : decOf (awD b) [aw1, aw2] = ⟨0, ⟨#[51, 46, 54, 46, 48]⟩, ByteArray.empty, false, false, ByteArray.empty⟩ := by
  rfl
set_option maxHeartbeats 2000000 in
set_option maxRecDepth 8000 in
theorem awake_calls (w : World) (H : St [] w w [genv]) :
    Calls Tryd.prog 13 #[] w fun e w' => e = .returned (.bool true) ∧ Ext [] w w' := by
  have hD : ∀ (b : Nat) (w : World), St [] w w [(false, .arr (some ⟨b, 0, none⟩) (strs [aw1, aw2])), genv] → Calls Tryd.prog 11 #[(awD b).val] w fun e w' => e = .returned (.agg #[.int .i64 0, .string ⟨#[51, 46, 54, 46, 48]⟩, .string ⟨#[]⟩, .bool false, .bool false, .string ⟨#[]⟩]) ∧ Ext [] w w' := fun b w H => by
    have := decide_calls (awD b) [aw1, aw2] (aw_seen b) w H
    rw [aw_dec b] at this
    exact this
  have hE : ∀ (w : World), St [] w w [genv] → Calls Tryd.prog 27 #[awE.val, .agg #[.int .i64 3, .int .i64 5, .int .i64 0]] w fun e w' => e = .returned (.agg #[.int .i64 0, .string ⟨#[]⟩, .string ⟨#[]⟩, .bool false, .bool true, .string ⟨#[51, 46, 53, 46, 48]⟩]) ∧ Ext [] w w' := fun w H =>
    downEn_oka awE ⟨3, 5, 0⟩ ⟨3, 6, 0⟩ (Lib.hid (verOf_sound rfl)) (Lib.hid ⟨by decide, by decide, by decide⟩) (Lib.hid rfl) rfl w H
  have hD := Lib.hid hD
  have hE := Lib.hid hE
  have hc := H.cells; simp only [CellsOf, KnCells, knc, Nat.reduceAdd] at hc
  go_enter Tryd.func13, Tryd.ntmps13
  repeat' (first | (go_big_may; (first
    | go_skip
    | ((first
        | (go_at_call 11; have H1 := st_isArr (xs := strs [aw1, aw2]) H (by repeat (first | exact Split.here _ _ | apply Split.there)) rfl; replace H := H1; clear H1; refine Calls.mono (hD.out _ _ (H.pick (by repeat (first | exact Picks.nil _ | (apply Picks.wr; focus (repeat (first | exact Split.here _ _ | apply Split.there))) | (apply Picks.rd; focus (repeat (first | exact Split.here _ _ | apply Split.there))))))) ?_; rintro e w' ⟨rfl, H'⟩; replace H := H.of_ext H'; clear H')
        | (go_at_call 27; refine Calls.mono (hE.out _ (H.pick (by repeat (first | exact Picks.nil _ | (apply Picks.wr; focus (repeat (first | exact Split.here _ _ | apply Split.there))) | (apply Picks.rd; focus (repeat (first | exact Split.here _ _ | apply Split.there))))))) ?_; rintro e w' ⟨rfl, H'⟩; replace H := H.of_ext H'; clear H')
        | (refine loud_ rfl ?_; refine wpList_plain rfl (fun K hK => ?_); (first | (refine op_box _ _ rfl H (fun b w' H1 => hK _ _ ?_)) | (refine op_alloc _ rfl (zero_of _ _ rfl) H (fun b w' H1 => hK _ _ ?_)) | (refine op_store _ _ _ rfl rfl rfl H (by repeat (first | exact Split.here _ _ | apply Split.there)) (by kernel_rfl) (by kernel_rfl) (by kernel_rfl) (fun w' H1 => hK _ _ ?_)) | (refine op_buildSlice_all _ _ _ rfl (by first | exact elem22 | exact elem39 | exact elem76 | exact elem154) (by kernel_rfl) (by kernel_rfl) (by kernel_rfl) H (fun b w' H1 => hK _ _ ?_))); clear hK K; replace H := H1; clear H1)); (try clear hc); (try simp only [nrm, splice, Value.cells, Nat.reduceAdd, Act.eval, Act.put] at H); have hc := H.cells; simp only [CellsOf, KnCells, knc, Nat.reduceAdd] at hc))) | go_values | go_skip | go_guarded | go_step | go_upon | go_back | dsimp only)
  go_ret
  exact ⟨rfl, H.ext⟩
end Go.Proofs.YtdcijhdjddiboaaDoor
