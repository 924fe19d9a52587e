import Derived.Test.YtjohecbcgdeabaaWireE
namespace Go.Proofs.Ytjohecbcgdeabaa
set_option linter.unusedVariables false
set_option linter.unusedSimpArgs false
set_option linter.unnecessarySimpa false
open Go.RowKit Go.V

/-- How many bytes a field of bytes has; an empty one is left out. -/
def tl (n : Nat) : Nat := if n = 0 then 0 else 1 + vl n + n
def kvl (d : KVd) : Nat := tl d.key.size + il d.create + il d.mod + il d.ver + tl d.val.size + il d.lease
def KVd.Short (d : KVd) : Prop := d.key.size ≤ 1000 ∧ d.val.size ≤ 1000
theorem bytesOf_length (s : ByteArray) : (bytesOf s).toList.length = s.size := by
  unfold bytesOf
  rw [Array.length_toList, Array.size_map]
  rfl
theorem bytesOf_one (s : ByteArray) : One (bytesOf s).toList := by
  intro u hu
  simp only [bytesOf, Array.toList_map, List.mem_map] at hu
  obtain ⟨b, _, rfl⟩ := hu
  rfl
theorem holds_bytes {w : World} {b : Nat} {s : ByteArray} {x : Array Value} {T : TypeId} {fr : Nat × Nat} (h : w.heap[b]? = some (.cells (bytesOf s ++ x) T fr)) : holds w (.arr (some ⟨b, 0, none⟩) (bytesOf s).toList) := by
  refine ⟨rfl, lt_of_get h, fun j hj => ?_⟩
  rw [cell_of_row w b (0 + j) _ _ _ h, Nat.zero_add]
  simp only [Array.length_toList] at hj
  rw [Array.getElem?_append_left hj]
  simp

theorem sl_nil {w : World} {key : Option Nat} {T size n cap : Nat} {xs : List Value} (h : holds w (.row key T size n cap xs)) : (key.map fun b => (⟨b, 0, none⟩ : Addr)) = none → n = 0 := by
  cases key with
  | none => exact fun _ => h.1
  | some _ => intro h; cases h

set_option maxHeartbeats 1000000 in
theorem kvPut_calls (b : Nat) (d : KVd) (fp : List Nat) (w : World) (h : KvAt b d fp w) (hd : d.Short) :
    Calls Try.prog 55 #[.pointer (some ⟨b, 0, none⟩)] w fun e w' => ∃ s n c ys, Hid (n = kvl d) ∧ n ≤ 2100 ∧ One ys ∧ ys.length = n ∧ (s = none → n = 0) ∧ e = .returned (.slice s n c) ∧ St [] w w' [(true, .arr s ys)] := by
  obtain ⟨key, val, create, mod, ver, lease⟩ := d
  obtain ⟨bk, bv, ck, cv, xk, xv, fk, fv, rfl, h1, h2, h3, h4, h5⟩ := h
  have H := (((St.init [] w).read (.arr (some ⟨bv, 0, none⟩) _) (holds_bytes h5) (by simp)).read (.arr (some ⟨bk, 0, none⟩) _) (holds_bytes h4) (by simp)).read (.is b _) h3 (by simp)
  clear h3 h4 h5
  obtain ⟨hb1, hb2⟩ := hd
  replace hb1 : key.size ≤ 1000 := hb1
  replace hb2 : val.size ≤ 1000 := hb2
  have hl1 := bytesOf_length key
  have hl2 := bytesOf_length val
  generalize hks : key.size = ks at *
  generalize hvs : val.size = vs at *
  have ho1 := bytesOf_one key
  have ho2 := bytesOf_one val
  generalize (bytesOf key).toList = kys at *
  generalize (bytesOf val).toList = vys at *
  have hc := H.cells; simp only [CellsOf, KnCells] at hc
  replace H := H.nilRow 5 1
  go_enter Try.func55, Try.ntmps55
  rcases Nat.eq_zero_or_pos ks with hk0 | hk0 <;> rcases Nat.eq_zero_or_pos vs with hv0 | hv0
  all_goals
    have c1 : (decide (0 < (ks : Int)) = false) ∨ (decide (0 < (ks : Int)) = true) := by cases decide (0 < (ks : Int)) <;> simp
    rcases c1 with c1 | c1 <;> (first | (have := of_decide_eq_false c1; omega) | (have := of_decide_eq_true c1; omega) | skip)
    have c2 : (decide (0 < (vs : Int)) = false) ∨ (decide (0 < (vs : Int)) = true) := by cases decide (0 < (vs : Int)) <;> simp
    rcases c2 with c2 | c2 <;> (first | (have := of_decide_eq_false c2; omega) | (have := of_decide_eq_true c2; omega) | skip)
    go_wp2_with (first
    | (go_at_call 51; (with_reducible refine gate_args (l := Value.slice none 0 0 :: _) ?_); refine Calls.mono (putInt_calls none 0 0 [] _ _ ⟨by omega, by omega⟩ _ (by omega) _ (H.pick (by repeat (first | exact Picks.nil _ | (apply Picks.wr; focus (repeat (first | exact Split.here _ _ | apply Split.there))) | (apply Picks.rd; focus (repeat (first | exact Split.here _ _ | apply Split.there))))))) ?_; rintro e w' ⟨j, key, cap, ys, hj, hl, h1, rfl, H'⟩; replace H := H.merge (by first | exact Strikes.nil _ | (repeat (first | exact Strikes.nil _ | (apply Strikes.cons; focus (repeat (first | exact Split.here _ _ | apply Split.there)))))) H' rfl; clear H'; (try clear hc); (try simp only [List.nil_append, List.cons_append, List.append_assoc, splice, Value.cells, List.take_succ_cons, List.take_zero, List.drop_succ_cons, List.drop_zero, List.length_cons, List.length_nil, List.size_toArray, Nat.zero_add, Nat.reduceAdd, Act.eval, Array.getD_eq_getD_getElem?, List.getElem?_toArray, List.getElem?_cons_succ, List.getElem?_cons_zero, Option.getD_some, List.flatMap_cons, List.flatMap_nil, List.append_nil, Act.put, List.setIfInBounds_toArray, List.set_cons_succ, List.set_cons_zero] at H); have hc := H.cells; simp only [CellsOf, KnCells] at hc)
    | (go_at_call 49; (with_reducible refine gate_args (l := Value.slice none 0 0 :: _) ?_); refine Calls.mono (putBytes_calls none 0 0 [] _ _ _ _ _ _ _ (H.pick (by repeat (first | exact Picks.nil _ | (apply Picks.wr; focus (repeat (first | exact Split.here _ _ | apply Split.there))) | (apply Picks.rd; focus (repeat (first | exact Split.here _ _ | apply Split.there)))))) ⟨by omega, by omega⟩ (by omega) (by omega) (by assumption) (by assumption) (by first | assumption | simp)) ?_; rintro e w' ⟨j, key, cap, ys, hj, hl, h1, rfl, H'⟩; replace H := H.merge (by first | exact Strikes.nil _ | (repeat (first | exact Strikes.nil _ | (apply Strikes.cons; focus (repeat (first | exact Split.here _ _ | apply Split.there)))))) H' rfl; clear H'; (try clear hc); (try simp only [List.nil_append, List.cons_append, List.append_assoc, splice, Value.cells, List.take_succ_cons, List.take_zero, List.drop_succ_cons, List.drop_zero, List.length_cons, List.length_nil, List.size_toArray, Nat.zero_add, Nat.reduceAdd, Act.eval, Array.getD_eq_getD_getElem?, List.getElem?_toArray, List.getElem?_cons_succ, List.getElem?_cons_zero, Option.getD_some, List.flatMap_cons, List.flatMap_nil, List.append_nil, Act.put, List.setIfInBounds_toArray, List.set_cons_succ, List.set_cons_zero] at H); have hc := H.cells; simp only [CellsOf, KnCells] at hc)
    | (go_at_call 51; refine Calls.mono (putInt_calls _ _ _ _ _ _ ⟨by omega, by omega⟩ _ (by omega) _ (H.pick (by repeat (first | exact Picks.nil _ | (apply Picks.wr; focus (repeat (first | exact Split.here _ _ | apply Split.there))) | (apply Picks.rd; focus (repeat (first | exact Split.here _ _ | apply Split.there))))))) ?_; rintro e w' ⟨j, key, cap, ys, hj, hl, h1, rfl, H'⟩; replace H := H.merge (by first | exact Strikes.nil _ | (repeat (first | exact Strikes.nil _ | (apply Strikes.cons; focus (repeat (first | exact Split.here _ _ | apply Split.there)))))) H' rfl; clear H'; (try clear hc); (try simp only [List.nil_append, List.cons_append, List.append_assoc, splice, Value.cells, List.take_succ_cons, List.take_zero, List.drop_succ_cons, List.drop_zero, List.length_cons, List.length_nil, List.size_toArray, Nat.zero_add, Nat.reduceAdd, Act.eval, Array.getD_eq_getD_getElem?, List.getElem?_toArray, List.getElem?_cons_succ, List.getElem?_cons_zero, Option.getD_some, List.flatMap_cons, List.flatMap_nil, List.append_nil, Act.put, List.setIfInBounds_toArray, List.set_cons_succ, List.set_cons_zero] at H); have hc := H.cells; simp only [CellsOf, KnCells] at hc)
    | (go_at_call 49; refine Calls.mono (putBytes_calls _ _ _ _ _ _ _ _ _ _ _ (H.pick (by repeat (first | exact Picks.nil _ | (apply Picks.wr; focus (repeat (first | exact Split.here _ _ | apply Split.there))) | (apply Picks.rd; focus (repeat (first | exact Split.here _ _ | apply Split.there)))))) ⟨by omega, by omega⟩ (by omega) (by omega) (by assumption) (by assumption) (by first | assumption | simp)) ?_; rintro e w' ⟨j, key, cap, ys, hj, hl, h1, rfl, H'⟩; replace H := H.merge (by first | exact Strikes.nil _ | (repeat (first | exact Strikes.nil _ | (apply Strikes.cons; focus (repeat (first | exact Split.here _ _ | apply Split.there)))))) H' rfl; clear H'; (try clear hc); (try simp only [List.nil_append, List.cons_append, List.append_assoc, splice, Value.cells, List.take_succ_cons, List.take_zero, List.drop_succ_cons, List.drop_zero, List.length_cons, List.length_nil, List.size_toArray, Nat.zero_add, Nat.reduceAdd, Act.eval, Array.getD_eq_getD_getElem?, List.getElem?_toArray, List.getElem?_cons_succ, List.getElem?_cons_zero, Option.getD_some, List.flatMap_cons, List.flatMap_nil, List.append_nil, Act.put, List.setIfInBounds_toArray, List.set_cons_succ, List.set_cons_zero] at H); have hc := H.cells; simp only [CellsOf, KnCells] at hc)
    | (refine loud_ rfl ?_; refine wpList_plain rfl (fun K hK => ?_); first
      | (refine op_box _ _ rfl H (fun b w' H1 => hK _ _ ?_); clear hK K; replace H := H1; clear H1; (try clear hc); (try simp only [List.nil_append, List.cons_append, List.append_assoc, splice, Value.cells, List.take_succ_cons, List.take_zero, List.drop_succ_cons, List.drop_zero, List.length_cons, List.length_nil, List.size_toArray, Nat.zero_add, Nat.reduceAdd, Act.eval, Array.getD_eq_getD_getElem?, List.getElem?_toArray, List.getElem?_cons_succ, List.getElem?_cons_zero, Option.getD_some, List.flatMap_cons, List.flatMap_nil, List.append_nil, Act.put, List.setIfInBounds_toArray, List.set_cons_succ, List.set_cons_zero] at H); have hc := H.cells; simp only [CellsOf, KnCells] at hc)
      | (refine op_alloc _ rfl (zero_of _ _ rfl) H (fun b w' H1 => hK _ _ ?_); clear hK K; replace H := H1; clear H1; (try clear hc); (try simp only [List.nil_append, List.cons_append, List.append_assoc, splice, Value.cells, List.take_succ_cons, List.take_zero, List.drop_succ_cons, List.drop_zero, List.length_cons, List.length_nil, List.size_toArray, Nat.zero_add, Nat.reduceAdd, Act.eval, Array.getD_eq_getD_getElem?, List.getElem?_toArray, List.getElem?_cons_succ, List.getElem?_cons_zero, Option.getD_some, List.flatMap_cons, List.flatMap_nil, List.append_nil, Act.put, List.setIfInBounds_toArray, List.set_cons_succ, List.set_cons_zero] at H); have hc := H.cells; simp only [CellsOf, KnCells] at hc)
      | (refine op_store _ _ _ rfl rfl rfl H (by repeat (first | exact Split.here _ _ | apply Split.there)) (by kernel_rfl) (by kernel_rfl) (by kernel_rfl) (fun w' H1 => hK _ _ ?_); clear hK K; replace H := H1; clear H1; (try clear hc); (try simp only [List.nil_append, List.cons_append, List.append_assoc, splice, Value.cells, List.take_succ_cons, List.take_zero, List.drop_succ_cons, List.drop_zero, List.length_cons, List.length_nil, List.size_toArray, Nat.zero_add, Nat.reduceAdd, Act.eval, Array.getD_eq_getD_getElem?, List.getElem?_toArray, List.getElem?_cons_succ, List.getElem?_cons_zero, Option.getD_some, List.flatMap_cons, List.flatMap_nil, List.append_nil, Act.put, List.setIfInBounds_toArray, List.set_cons_succ, List.set_cons_zero] at H); have hc := H.cells; simp only [CellsOf, KnCells] at hc)
      | (refine op_buildSlice_all _ _ _ rfl (by first | exact elem22 | exact elem28 | exact elem44 | exact elem53 | exact elem59) (by kernel_rfl) (by kernel_rfl) (by kernel_rfl) H (fun b w' H1 => hK _ _ ?_); clear hK K; replace H := H1; clear H1; (try clear hc); (try simp only [List.nil_append, List.cons_append, List.append_assoc, splice, Value.cells, List.take_succ_cons, List.take_zero, List.drop_succ_cons, List.drop_zero, List.length_cons, List.length_nil, List.size_toArray, Nat.zero_add, Nat.reduceAdd, Act.eval, Array.getD_eq_getD_getElem?, List.getElem?_toArray, List.getElem?_cons_succ, List.getElem?_cons_zero, Option.getD_some, List.flatMap_cons, List.flatMap_nil, List.append_nil, Act.put, List.setIfInBounds_toArray, List.set_cons_succ, List.set_cons_zero] at H); have hc := H.cells; simp only [CellsOf, KnCells] at hc)))
    go_ret
    refine ⟨_, _, _, _, ?_, by omega, ?_, by have := row_length (H.get (Split.here _ _)); omega, sl_nil (H.get (Split.here _ _)), rfl, (H.asArr (Split.here _ _)).top1⟩
    · unfold Hid at *
      simp only [kvl, tl, hks, hvs]
      repeat' split
      all_goals omega
    · repeat (first | assumption | refine One.append (by assumption) ?_)
end Go.Proofs.Ytjohecbcgdeabaa
