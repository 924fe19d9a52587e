import Derived.Test.YtlikpgidjdjgnaaRingV
import Derived.Test.YtlikpgidjdjgnaaRingZ
import Derived.Deep.DeepCutAuto
-- MORE
namespace Go.Proofs.Ytlikpgidjdjgnaa
set_option linter.unusedVariables false
set_option linter.unusedSimpArgs false
set_option linter.unnecessarySimpa false
open Go.RowKit Go.V

def toOp (r : Row Int) : ROp := ⟨1, r.at', r.cap, r.list⟩
def wops (rs : List (Row Int)) : List Value := (rs.map toOp).flatMap ROp.cells
def alls (rs : List (Row Int)) : List Int := rs.flatMap Row.list
theorem wops_snoc {rs : List (Row Int)} {r : Row Int} {k : Nat} (h : rs.take (k + 1) = rs.take k ++ [r]) : wops (rs.take (k + 1)) = wops (rs.take k) ++ (toOp r).cells := by
  rw [h, wops, wops]
  simp
theorem alls_snoc {rs : List (Row Int)} {r : Row Int} {k : Nat} (h : rs.take (k + 1) = rs.take k ++ [r]) : alls (rs.take (k + 1)) = alls (rs.take k) ++ r.list := by
  rw [h, alls, alls]
  simp

theorem alls_eq (rs : List (Row Int)) : (rs.map toOp).flatMap ROp.vals = alls rs := by
  rw [List.flatMap_map]
  rfl

/-- How far the law's loop is. -/
def AtJ (rs : List (Row Int)) (s : Option Addr) (w wr : World) (j : Nat) (ops all : Value) : Prop :=
  ∃ key1 cap1 key2 m cap2, ops = sl key1 j cap1 ∧ all = sl key2 m cap2 ∧ Hid ((alls (rs.take j)).length = m) ∧ m ≤ 400 * j ∧ Hid (∀ r ∈ rs.take j, r.list.length ≤ 400) ∧
    St [] w wr [(true, .row key1 28 2 j cap1 (wops (rs.take j))), (true, .row key2 3 1 m cap2 (ints (alls (rs.take j)))), (false, soft s (rvals rs))]

set_option maxRecDepth 4000 in
set_option maxHeartbeats 4000000 in
theorem ringFixed_calls (places : Int) (hp0 : -9223372036854775808 ≤ places) (s : Option Addr) (c : Nat) (rs : List (Row Int)) (n : Nat) (w : World) (hn : Hid (rs.length = n)) (hs : Hid (∀ r ∈ rs, Lies w r.at' (ints r.list) ∧ (r.at' = none → r.list.length = 0))) (H : St [] w w [(false, soft s (rvals rs))]) :
    Calls Try.prog 3 #[.int .i64 places, .slice s n c] w fun e w' => e = .returned (.bool true) ∧ St [] w w' [] := by
  have hp0' := Lib.hid hp0
  clear hp0
  go_enter Try.func3, Try.ntmps3
  go_wp2_with (first
    | (go_at_call 5; refine Calls.mono (fits30_calls _ _ rs _ _ hn (H.pick (by repeat (first | exact Picks.nil _ | (apply Picks.wr; focus (repeat (first | exact Split.here _ _ | apply Split.there))) | (apply Picks.rd; focus (repeat (first | exact Split.here _ _ | apply Split.there))))))) ?_; rintro e w' ⟨t, rfl, H'⟩; replace H := H.merge (by first | exact Strikes.nil _ | (repeat (first | exact Strikes.nil _ | (apply Strikes.cons; focus (repeat (first | exact Split.here _ _ | apply Split.there)))))) H' rfl; clear H'; (try clear hc); (try simp only [List.nil_append, List.cons_append, List.append_assoc, splice, Value.cells, List.take_succ_cons, List.take_zero, List.drop_succ_cons, List.drop_zero, List.length_cons, List.length_nil, List.size_toArray, Nat.zero_add, Nat.reduceAdd, Act.eval, Array.getD_eq_getD_getElem?, List.getElem?_toArray, List.getElem?_cons_succ, List.getElem?_cons_zero, Option.getD_some, List.flatMap_cons, List.flatMap_nil, List.append_nil, Act.put, List.setIfInBounds_toArray, List.set_cons_succ, List.set_cons_zero] at H); have hc := H.cells; simp only [CellsOf, KnCells, arr_lit, knAt_cons, knAt_nil, Nat.zero_add, Nat.add_zero, Nat.reduceAdd] at hc; (cases t))
    | (go_at_call 6; refine Calls.mono (rgLive_calls _) ?_; rintro e w' ⟨rfl, H'⟩; replace H := H.of_ext H'; clear H'; (try clear hc); (try simp only [List.nil_append, List.cons_append, List.append_assoc, splice, Value.cells, List.take_succ_cons, List.take_zero, List.drop_succ_cons, List.drop_zero, List.length_cons, List.length_nil, List.size_toArray, Nat.zero_add, Nat.reduceAdd, Act.eval, Array.getD_eq_getD_getElem?, List.getElem?_toArray, List.getElem?_cons_succ, List.getElem?_cons_zero, Option.getD_some, List.flatMap_cons, List.flatMap_nil, List.append_nil, Act.put, List.setIfInBounds_toArray, List.set_cons_succ, List.set_cons_zero] at H); have hc := H.cells; simp only [CellsOf, KnCells, arr_lit, knAt_cons, knAt_nil, Nat.zero_add, Nat.add_zero, Nat.reduceAdd] at hc)
    | (refine loud_ rfl ?_; refine wpList_plain rfl (fun K hK => ?_); first
      | (refine op_box _ _ rfl H (fun b w' H1 => hK _ _ ?_); clear hK K; replace H := H1; clear H1; (try clear hc); (try simp only [List.nil_append, List.cons_append, List.append_assoc, splice, Value.cells, List.take_succ_cons, List.take_zero, List.drop_succ_cons, List.drop_zero, List.length_cons, List.length_nil, List.size_toArray, Nat.zero_add, Nat.reduceAdd, Act.eval, Array.getD_eq_getD_getElem?, List.getElem?_toArray, List.getElem?_cons_succ, List.getElem?_cons_zero, Option.getD_some, List.flatMap_cons, List.flatMap_nil, List.append_nil, Act.put, List.setIfInBounds_toArray, List.set_cons_succ, List.set_cons_zero] at H); have hc := H.cells; simp only [CellsOf, KnCells, arr_lit, knAt_cons, knAt_nil, Nat.zero_add, Nat.add_zero, Nat.reduceAdd] at hc)
      | (refine op_alloc _ rfl (zero_of _ _ rfl) H (fun b w' H1 => hK _ _ ?_); clear hK K; replace H := H1; clear H1; (try clear hc); (try simp only [List.nil_append, List.cons_append, List.append_assoc, splice, Value.cells, List.take_succ_cons, List.take_zero, List.drop_succ_cons, List.drop_zero, List.length_cons, List.length_nil, List.size_toArray, Nat.zero_add, Nat.reduceAdd, Act.eval, Array.getD_eq_getD_getElem?, List.getElem?_toArray, List.getElem?_cons_succ, List.getElem?_cons_zero, Option.getD_some, List.flatMap_cons, List.flatMap_nil, List.append_nil, Act.put, List.setIfInBounds_toArray, List.set_cons_succ, List.set_cons_zero] at H); have hc := H.cells; simp only [CellsOf, KnCells, arr_lit, knAt_cons, knAt_nil, Nat.zero_add, Nat.add_zero, Nat.reduceAdd] at hc)
      | (refine op_store _ _ _ rfl rfl rfl H (by repeat (first | exact Split.here _ _ | apply Split.there)) (by kernel_rfl) (by kernel_rfl) (by kernel_rfl) (fun w' H1 => hK _ _ ?_); clear hK K; replace H := H1; clear H1; (try clear hc); (try simp only [List.nil_append, List.cons_append, List.append_assoc, splice, Value.cells, List.take_succ_cons, List.take_zero, List.drop_succ_cons, List.drop_zero, List.length_cons, List.length_nil, List.size_toArray, Nat.zero_add, Nat.reduceAdd, Act.eval, Array.getD_eq_getD_getElem?, List.getElem?_toArray, List.getElem?_cons_succ, List.getElem?_cons_zero, Option.getD_some, List.flatMap_cons, List.flatMap_nil, List.append_nil, Act.put, List.setIfInBounds_toArray, List.set_cons_succ, List.set_cons_zero] at H); have hc := H.cells; simp only [CellsOf, KnCells, arr_lit, knAt_cons, knAt_nil, Nat.zero_add, Nat.add_zero, Nat.reduceAdd] at hc)
      | (refine op_buildSlice_all _ _ _ rfl (by first | exact elem22 | exact elem25 | exact elem26 | exact elem29) (by kernel_rfl) (by kernel_rfl) (by kernel_rfl) H (fun b w' H1 => hK _ _ ?_); clear hK K; replace H := H1; clear H1; (try clear hc); (try simp only [List.nil_append, List.cons_append, List.append_assoc, splice, Value.cells, List.take_succ_cons, List.take_zero, List.drop_succ_cons, List.drop_zero, List.length_cons, List.length_nil, List.size_toArray, Nat.zero_add, Nat.reduceAdd, Act.eval, Array.getD_eq_getD_getElem?, List.getElem?_toArray, List.getElem?_cons_succ, List.getElem?_cons_zero, Option.getD_some, List.flatMap_cons, List.flatMap_nil, List.append_nil, Act.put, List.setIfInBounds_toArray, List.set_cons_succ, List.set_cons_zero] at H); have hc := H.cells; simp only [CellsOf, KnCells, arr_lit, knAt_cons, knAt_nil, Nat.zero_add, Nat.add_zero, Nat.reduceAdd] at hc)))
  · go_ret
    exact ⟨rfl, H.top0⟩
  · go_ret
    exact ⟨rfl, H.top0⟩
  · have hp3 : places ≤ 300 := by omega
    have hn6 : n ≤ 60 := by omega
    have e1 : decide (300 < places) = false := decide_eq_false (by omega)
    have e2 : decide ((60 : Int) < n) = false := decide_eq_false (by omega)
    simp only [e1, e2, Bool.or_false]
    clear e1 e2
    have hL : AtJ rs s w w' 0 (.slice none 0 0) (.slice none 0 0) := ⟨none, 0, none, 0, 0, rfl, rfl, rfl, Nat.zero_le _, Lib.hid (by simp), ((H.nilRow 3 1).nilRow 28 2).sel (by repeat (first | exact Sel.nil _ | (apply Sel.cons; focus (repeat (first | exact Split.here _ _ | apply Split.there)))))⟩
    clear H hc
    go_loopw [5, 6, 26] (fun ops all i wr => ∃ j : Nat, j ≤ n ∧ i = .int .i64 j ∧ AtJ rs s w wr j ops all) (fun _ _ i _ => n - (intOf i).toNat)
    case atStart => exact ⟨0, Nat.zero_le _, rfl, hL⟩
    case round =>
      clear hL
      obtain ⟨j, hj, rfl, key1, cap1, key2, m, cap2, rfl, rfl, hm, hmj, hq, H⟩ := hrel
      by_cases hlt : j < n
      · have hlk : j < rs.length := by rw [hn.out]; exact hlt
        obtain ⟨b1, o1, rfl, H1⟩ := H.cellOf (Split.there _ (Split.there _ (Split.here _ _))) (rvals_at rs j hlk)
        clear H
        have H := H1
        clear H1
        obtain ⟨hso1, hso2⟩ := hs.out _ (List.getElem_mem hlk)
        have hcat : Hid (rs.take (j + 1) = rs.take j ++ [rs[j]]) := (List.take_append_getElem hlk).symm
        generalize rs[j] = r at *
        clear hlk
        obtain ⟨at', cap, list⟩ := r
        simp only at H hso1 hso2
        replace H := H.soft hso1
        obtain ⟨q, hlq⟩ : ∃ q, list.length = q := ⟨_, rfl⟩
        rw [hlq] at H hso2
        have hlq' := Lib.hid hlq
        have hso2' := Lib.hid hso2
        clear hlq hso1 hso2
        by_cases hq4 : q ≤ 400
        · have hc := H.cells; simp only [CellsOf, KnCells, arr_lit, knAt_cons, knAt_nil, Nat.zero_add, Nat.add_zero, Nat.reduceAdd] at hc
          repeat' (first | (go_big_may; (first
    | (refine loud_ rfl ?_; refine wpList_plain rfl (fun K hK => ?_); first
      | (refine op_append_lit _ _ _ rfl elem25 rfl rfl H (by repeat (first | exact Split.here _ _ | apply Split.there)) (by repeat (first | exact Split.here _ _ | apply Split.there)) (by kernel_rfl) (by kernel_rfl) (by omega) (by unfold maxLen; omega) (fun key cap' w' H1 => hK _ _ ?_); clear hK K; replace H := H1; clear H1; (try clear hc); (try simp only [List.nil_append, List.cons_append, List.append_assoc, splice, Value.cells, List.take_succ_cons, List.take_zero, List.drop_succ_cons, List.drop_zero, List.length_cons, List.length_nil, List.size_toArray, Nat.zero_add, Nat.reduceAdd, Act.eval, Array.getD_eq_getD_getElem?, List.getElem?_toArray, List.getElem?_cons_succ, List.getElem?_cons_zero, Option.getD_some, List.flatMap_cons, List.flatMap_nil, List.append_nil, Act.put, List.setIfInBounds_toArray, List.set_cons_succ, List.set_cons_zero] at H); have hc := H.cells; simp only [CellsOf, KnCells, arr_lit, knAt_cons, knAt_nil, Nat.zero_add, Nat.add_zero, Nat.reduceAdd] at hc)
      | (refine op_append_lies _ _ _ rfl elem26 rfl rfl H (by repeat (first | exact Split.here _ _ | apply Split.there)) (H.lies (by repeat (first | exact Split.here _ _ | apply Split.there))) (by rw [ints_len, hlq'.out]; omega) hso2'.out (one_ints _) (by omega) (by unfold maxLen; omega) (fun key4 cap4 w' H1 => hK _ _ ?_); clear hK K; replace H := H1; clear H1; (try clear hc); (try simp only [List.nil_append, List.cons_append, List.append_assoc, splice, Value.cells, List.take_succ_cons, List.take_zero, List.drop_succ_cons, List.drop_zero, List.length_cons, List.length_nil, List.size_toArray, Nat.zero_add, Nat.reduceAdd, Act.eval, Array.getD_eq_getD_getElem?, List.getElem?_toArray, List.getElem?_cons_succ, List.getElem?_cons_zero, Option.getD_some, List.flatMap_cons, List.flatMap_nil, List.append_nil, Act.put, List.setIfInBounds_toArray, List.set_cons_succ, List.set_cons_zero] at H); have hc := H.cells; simp only [CellsOf, KnCells, arr_lit, knAt_cons, knAt_nil, Nat.zero_add, Nat.add_zero, Nat.reduceAdd] at hc)
      | (refine op_box _ _ rfl H (fun b w' H1 => hK _ _ ?_); clear hK K; replace H := H1; clear H1; (try clear hc); (try simp only [List.nil_append, List.cons_append, List.append_assoc, splice, Value.cells, List.take_succ_cons, List.take_zero, List.drop_succ_cons, List.drop_zero, List.length_cons, List.length_nil, List.size_toArray, Nat.zero_add, Nat.reduceAdd, Act.eval, Array.getD_eq_getD_getElem?, List.getElem?_toArray, List.getElem?_cons_succ, List.getElem?_cons_zero, Option.getD_some, List.flatMap_cons, List.flatMap_nil, List.append_nil, Act.put, List.setIfInBounds_toArray, List.set_cons_succ, List.set_cons_zero] at H); have hc := H.cells; simp only [CellsOf, KnCells, arr_lit, knAt_cons, knAt_nil, Nat.zero_add, Nat.add_zero, Nat.reduceAdd] at hc)
      | (refine op_alloc _ rfl (zero_of _ _ rfl) H (fun b w' H1 => hK _ _ ?_); clear hK K; replace H := H1; clear H1; (try clear hc); (try simp only [List.nil_append, List.cons_append, List.append_assoc, splice, Value.cells, List.take_succ_cons, List.take_zero, List.drop_succ_cons, List.drop_zero, List.length_cons, List.length_nil, List.size_toArray, Nat.zero_add, Nat.reduceAdd, Act.eval, Array.getD_eq_getD_getElem?, List.getElem?_toArray, List.getElem?_cons_succ, List.getElem?_cons_zero, Option.getD_some, List.flatMap_cons, List.flatMap_nil, List.append_nil, Act.put, List.setIfInBounds_toArray, List.set_cons_succ, List.set_cons_zero] at H); have hc := H.cells; simp only [CellsOf, KnCells, arr_lit, knAt_cons, knAt_nil, Nat.zero_add, Nat.add_zero, Nat.reduceAdd] at hc)
      | (refine op_store _ _ _ rfl rfl rfl H (by repeat (first | exact Split.here _ _ | apply Split.there)) (by kernel_rfl) (by kernel_rfl) (by kernel_rfl) (fun w' H1 => hK _ _ ?_); clear hK K; replace H := H1; clear H1; (try clear hc); (try simp only [List.nil_append, List.cons_append, List.append_assoc, splice, Value.cells, List.take_succ_cons, List.take_zero, List.drop_succ_cons, List.drop_zero, List.length_cons, List.length_nil, List.size_toArray, Nat.zero_add, Nat.reduceAdd, Act.eval, Array.getD_eq_getD_getElem?, List.getElem?_toArray, List.getElem?_cons_succ, List.getElem?_cons_zero, Option.getD_some, List.flatMap_cons, List.flatMap_nil, List.append_nil, Act.put, List.setIfInBounds_toArray, List.set_cons_succ, List.set_cons_zero] at H); have hc := H.cells; simp only [CellsOf, KnCells, arr_lit, knAt_cons, knAt_nil, Nat.zero_add, Nat.add_zero, Nat.reduceAdd] at hc)
      | (refine op_buildSlice_all _ _ _ rfl (by first | exact elem22 | exact elem25 | exact elem26 | exact elem29) (by kernel_rfl) (by kernel_rfl) (by kernel_rfl) H (fun b w' H1 => hK _ _ ?_); clear hK K; replace H := H1; clear H1; (try clear hc); (try simp only [List.nil_append, List.cons_append, List.append_assoc, splice, Value.cells, List.take_succ_cons, List.take_zero, List.drop_succ_cons, List.drop_zero, List.length_cons, List.length_nil, List.size_toArray, Nat.zero_add, Nat.reduceAdd, Act.eval, Array.getD_eq_getD_getElem?, List.getElem?_toArray, List.getElem?_cons_succ, List.getElem?_cons_zero, Option.getD_some, List.flatMap_cons, List.flatMap_nil, List.append_nil, Act.put, List.setIfInBounds_toArray, List.set_cons_succ, List.set_cons_zero] at H); have hc := H.cells; simp only [CellsOf, KnCells, arr_lit, knAt_cons, knAt_nil, Nat.zero_add, Nat.add_zero, Nat.reduceAdd] at hc)))) | go_values | go_skip | go_guarded | go_step | go_upon | go_back | dsimp only)
          refine ⟨⟨j + 1, by omega, by go_num, key, cap', key4, m + q, cap4, rfl, rfl, ?_, by omega, ?_, ?_⟩, by simp [intOf]; omega⟩
          · show _ = _
            rw [alls_snoc hcat.out, List.length_append, hm.out, hlq'.out]
          · show ∀ r ∈ _, _
            rw [hcat.out]
            intro r hr
            rcases List.mem_append.1 hr with hr | hr
            · exact hq.out r hr
            · rw [List.mem_singleton] at hr
              subst hr
              rw [hlq'.out]
              exact hq4
          · have e1 : (toOp ⟨at', cap, list⟩).cells = [.int .i64 1, .slice at' q cap] := by rw [← hlq'.out]; rfl
            rw [wops_snoc hcat.out, alls_snoc hcat.out, ints_app, e1]
            exact H.sel (by repeat (first | exact Sel.nil _ | (apply Sel.cons; focus (repeat (first | exact Split.here _ _ | apply Split.there)))))
        · have hc := H.cells; simp only [CellsOf, KnCells, arr_lit, knAt_cons, knAt_nil, Nat.zero_add, Nat.add_zero, Nat.reduceAdd] at hc
          repeat' (first | (go_big_may; (first
    | (go_at_call 6; refine Calls.mono (rgLive_calls _) ?_; rintro e w' ⟨rfl, H'⟩; replace H := H.of_ext H'; clear H'; (try clear hc); (try simp only [List.nil_append, List.cons_append, List.append_assoc, splice, Value.cells, List.take_succ_cons, List.take_zero, List.drop_succ_cons, List.drop_zero, List.length_cons, List.length_nil, List.size_toArray, Nat.zero_add, Nat.reduceAdd, Act.eval, Array.getD_eq_getD_getElem?, List.getElem?_toArray, List.getElem?_cons_succ, List.getElem?_cons_zero, Option.getD_some, List.flatMap_cons, List.flatMap_nil, List.append_nil, Act.put, List.setIfInBounds_toArray, List.set_cons_succ, List.set_cons_zero] at H); have hc := H.cells; simp only [CellsOf, KnCells, arr_lit, knAt_cons, knAt_nil, Nat.zero_add, Nat.add_zero, Nat.reduceAdd] at hc)
    | (refine loud_ rfl ?_; refine wpList_plain rfl (fun K hK => ?_); first
      | (refine op_box _ _ rfl H (fun b w' H1 => hK _ _ ?_); clear hK K; replace H := H1; clear H1; (try clear hc); (try simp only [List.nil_append, List.cons_append, List.append_assoc, splice, Value.cells, List.take_succ_cons, List.take_zero, List.drop_succ_cons, List.drop_zero, List.length_cons, List.length_nil, List.size_toArray, Nat.zero_add, Nat.reduceAdd, Act.eval, Array.getD_eq_getD_getElem?, List.getElem?_toArray, List.getElem?_cons_succ, List.getElem?_cons_zero, Option.getD_some, List.flatMap_cons, List.flatMap_nil, List.append_nil, Act.put, List.setIfInBounds_toArray, List.set_cons_succ, List.set_cons_zero] at H); have hc := H.cells; simp only [CellsOf, KnCells, arr_lit, knAt_cons, knAt_nil, Nat.zero_add, Nat.add_zero, Nat.reduceAdd] at hc)
      | (refine op_alloc _ rfl (zero_of _ _ rfl) H (fun b w' H1 => hK _ _ ?_); clear hK K; replace H := H1; clear H1; (try clear hc); (try simp only [List.nil_append, List.cons_append, List.append_assoc, splice, Value.cells, List.take_succ_cons, List.take_zero, List.drop_succ_cons, List.drop_zero, List.length_cons, List.length_nil, List.size_toArray, Nat.zero_add, Nat.reduceAdd, Act.eval, Array.getD_eq_getD_getElem?, List.getElem?_toArray, List.getElem?_cons_succ, List.getElem?_cons_zero, Option.getD_some, List.flatMap_cons, List.flatMap_nil, List.append_nil, Act.put, List.setIfInBounds_toArray, List.set_cons_succ, List.set_cons_zero] at H); have hc := H.cells; simp only [CellsOf, KnCells, arr_lit, knAt_cons, knAt_nil, Nat.zero_add, Nat.add_zero, Nat.reduceAdd] at hc)
      | (refine op_store _ _ _ rfl rfl rfl H (by repeat (first | exact Split.here _ _ | apply Split.there)) (by kernel_rfl) (by kernel_rfl) (by kernel_rfl) (fun w' H1 => hK _ _ ?_); clear hK K; replace H := H1; clear H1; (try clear hc); (try simp only [List.nil_append, List.cons_append, List.append_assoc, splice, Value.cells, List.take_succ_cons, List.take_zero, List.drop_succ_cons, List.drop_zero, List.length_cons, List.length_nil, List.size_toArray, Nat.zero_add, Nat.reduceAdd, Act.eval, Array.getD_eq_getD_getElem?, List.getElem?_toArray, List.getElem?_cons_succ, List.getElem?_cons_zero, Option.getD_some, List.flatMap_cons, List.flatMap_nil, List.append_nil, Act.put, List.setIfInBounds_toArray, List.set_cons_succ, List.set_cons_zero] at H); have hc := H.cells; simp only [CellsOf, KnCells, arr_lit, knAt_cons, knAt_nil, Nat.zero_add, Nat.add_zero, Nat.reduceAdd] at hc)
      | (refine op_buildSlice_all _ _ _ rfl (by first | exact elem22 | exact elem25 | exact elem26 | exact elem29) (by kernel_rfl) (by kernel_rfl) (by kernel_rfl) H (fun b w' H1 => hK _ _ ?_); clear hK K; replace H := H1; clear H1; (try clear hc); (try simp only [List.nil_append, List.cons_append, List.append_assoc, splice, Value.cells, List.take_succ_cons, List.take_zero, List.drop_succ_cons, List.drop_zero, List.length_cons, List.length_nil, List.size_toArray, Nat.zero_add, Nat.reduceAdd, Act.eval, Array.getD_eq_getD_getElem?, List.getElem?_toArray, List.getElem?_cons_succ, List.getElem?_cons_zero, Option.getD_some, List.flatMap_cons, List.flatMap_nil, List.append_nil, Act.put, List.setIfInBounds_toArray, List.set_cons_succ, List.set_cons_zero] at H); have hc := H.cells; simp only [CellsOf, KnCells, arr_lit, knAt_cons, knAt_nil, Nat.zero_add, Nat.add_zero, Nat.reduceAdd] at hc)))) | go_values | go_skip | go_guarded | go_step | go_upon | go_back | dsimp only)
          go_ret
          exact ⟨rfl, H.top0⟩
      · obtain rfl : j = n := by omega
        rw [List.take_of_length_le (by rw [hn.out]; omega)] at hm hq H
        go_upto_region 16 with (first
    | (refine loud_ rfl ?_; refine wpList_plain rfl (fun K hK => ?_); first
      | (refine op_append_lit _ _ _ rfl elem25 rfl rfl H (by repeat (first | exact Split.here _ _ | apply Split.there)) (by repeat (first | exact Split.here _ _ | apply Split.there)) (by kernel_rfl) (by kernel_rfl) (by omega) (by unfold maxLen; omega) (fun key cap' w' H1 => hK _ _ ?_); clear hK K; replace H := H1; clear H1; (try clear hc); (try simp only [List.nil_append, List.cons_append, List.append_assoc, splice, Value.cells, List.take_succ_cons, List.take_zero, List.drop_succ_cons, List.drop_zero, List.length_cons, List.length_nil, List.size_toArray, Nat.zero_add, Nat.reduceAdd, Act.eval, Array.getD_eq_getD_getElem?, List.getElem?_toArray, List.getElem?_cons_succ, List.getElem?_cons_zero, Option.getD_some, List.flatMap_cons, List.flatMap_nil, List.append_nil, Act.put, List.setIfInBounds_toArray, List.set_cons_succ, List.set_cons_zero] at H); have hc := H.cells; simp only [CellsOf, KnCells, arr_lit, knAt_cons, knAt_nil, Nat.zero_add, Nat.add_zero, Nat.reduceAdd] at hc)
      | (refine op_box _ _ rfl H (fun b w' H1 => hK _ _ ?_); clear hK K; replace H := H1; clear H1; (try clear hc); (try simp only [List.nil_append, List.cons_append, List.append_assoc, splice, Value.cells, List.take_succ_cons, List.take_zero, List.drop_succ_cons, List.drop_zero, List.length_cons, List.length_nil, List.size_toArray, Nat.zero_add, Nat.reduceAdd, Act.eval, Array.getD_eq_getD_getElem?, List.getElem?_toArray, List.getElem?_cons_succ, List.getElem?_cons_zero, Option.getD_some, List.flatMap_cons, List.flatMap_nil, List.append_nil, Act.put, List.setIfInBounds_toArray, List.set_cons_succ, List.set_cons_zero] at H); have hc := H.cells; simp only [CellsOf, KnCells, arr_lit, knAt_cons, knAt_nil, Nat.zero_add, Nat.add_zero, Nat.reduceAdd] at hc)
      | (refine op_alloc _ rfl (zero_of _ _ rfl) H (fun b w' H1 => hK _ _ ?_); clear hK K; replace H := H1; clear H1; (try clear hc); (try simp only [List.nil_append, List.cons_append, List.append_assoc, splice, Value.cells, List.take_succ_cons, List.take_zero, List.drop_succ_cons, List.drop_zero, List.length_cons, List.length_nil, List.size_toArray, Nat.zero_add, Nat.reduceAdd, Act.eval, Array.getD_eq_getD_getElem?, List.getElem?_toArray, List.getElem?_cons_succ, List.getElem?_cons_zero, Option.getD_some, List.flatMap_cons, List.flatMap_nil, List.append_nil, Act.put, List.setIfInBounds_toArray, List.set_cons_succ, List.set_cons_zero] at H); have hc := H.cells; simp only [CellsOf, KnCells, arr_lit, knAt_cons, knAt_nil, Nat.zero_add, Nat.add_zero, Nat.reduceAdd] at hc)
      | (refine op_store _ _ _ rfl rfl rfl H (by repeat (first | exact Split.here _ _ | apply Split.there)) (by kernel_rfl) (by kernel_rfl) (by kernel_rfl) (fun w' H1 => hK _ _ ?_); clear hK K; replace H := H1; clear H1; (try clear hc); (try simp only [List.nil_append, List.cons_append, List.append_assoc, splice, Value.cells, List.take_succ_cons, List.take_zero, List.drop_succ_cons, List.drop_zero, List.length_cons, List.length_nil, List.size_toArray, Nat.zero_add, Nat.reduceAdd, Act.eval, Array.getD_eq_getD_getElem?, List.getElem?_toArray, List.getElem?_cons_succ, List.getElem?_cons_zero, Option.getD_some, List.flatMap_cons, List.flatMap_nil, List.append_nil, Act.put, List.setIfInBounds_toArray, List.set_cons_succ, List.set_cons_zero] at H); have hc := H.cells; simp only [CellsOf, KnCells, arr_lit, knAt_cons, knAt_nil, Nat.zero_add, Nat.add_zero, Nat.reduceAdd] at hc)
      | (refine op_buildSlice_all _ _ _ rfl (by first | exact elem22 | exact elem25 | exact elem26 | exact elem29) (by kernel_rfl) (by kernel_rfl) (by kernel_rfl) H (fun b w' H1 => hK _ _ ?_); clear hK K; replace H := H1; clear H1; (try clear hc); (try simp only [List.nil_append, List.cons_append, List.append_assoc, splice, Value.cells, List.take_succ_cons, List.take_zero, List.drop_succ_cons, List.drop_zero, List.length_cons, List.length_nil, List.size_toArray, Nat.zero_add, Nat.reduceAdd, Act.eval, Array.getD_eq_getD_getElem?, List.getElem?_toArray, List.getElem?_cons_succ, List.getElem?_cons_zero, Option.getD_some, List.flatMap_cons, List.flatMap_nil, List.append_nil, Act.put, List.setIfInBounds_toArray, List.set_cons_succ, List.set_cons_zero] at H); have hc := H.cells; simp only [CellsOf, KnCells, arr_lit, knAt_cons, knAt_nil, Nat.zero_add, Nat.add_zero, Nat.reduceAdd] at hc)))
        by_cases hp1 : places < 1
        · repeat' (first | (go_big_may; (first
    | (go_at_call 7; refine Calls.mono (ringNo_calls places _ _ (by omega) hp0'.out) ?_; rintro e w' ⟨rfl, H'⟩; replace H := H.of_ext H'; clear H'; (try clear hc); (try simp only [List.nil_append, List.cons_append, List.append_assoc, splice, Value.cells, List.take_succ_cons, List.take_zero, List.drop_succ_cons, List.drop_zero, List.length_cons, List.length_nil, List.size_toArray, Nat.zero_add, Nat.reduceAdd, Act.eval, Array.getD_eq_getD_getElem?, List.getElem?_toArray, List.getElem?_cons_succ, List.getElem?_cons_zero, Option.getD_some, List.flatMap_cons, List.flatMap_nil, List.append_nil, Act.put, List.setIfInBounds_toArray, List.set_cons_succ, List.set_cons_zero] at H); have hc := H.cells; simp only [CellsOf, KnCells, arr_lit, knAt_cons, knAt_nil, Nat.zero_add, Nat.add_zero, Nat.reduceAdd] at hc)
    | (go_at_call 6; refine Calls.mono (rgLive_calls _) ?_; rintro e w' ⟨rfl, H'⟩; replace H := H.of_ext H'; clear H'; (try clear hc); (try simp only [List.nil_append, List.cons_append, List.append_assoc, splice, Value.cells, List.take_succ_cons, List.take_zero, List.drop_succ_cons, List.drop_zero, List.length_cons, List.length_nil, List.size_toArray, Nat.zero_add, Nat.reduceAdd, Act.eval, Array.getD_eq_getD_getElem?, List.getElem?_toArray, List.getElem?_cons_succ, List.getElem?_cons_zero, Option.getD_some, List.flatMap_cons, List.flatMap_nil, List.append_nil, Act.put, List.setIfInBounds_toArray, List.set_cons_succ, List.set_cons_zero] at H); have hc := H.cells; simp only [CellsOf, KnCells, arr_lit, knAt_cons, knAt_nil, Nat.zero_add, Nat.add_zero, Nat.reduceAdd] at hc)
    | (refine loud_ rfl ?_; refine wpList_plain rfl (fun K hK => ?_); first
      | (refine op_box _ _ rfl H (fun b w' H1 => hK _ _ ?_); clear hK K; replace H := H1; clear H1; (try clear hc); (try simp only [List.nil_append, List.cons_append, List.append_assoc, splice, Value.cells, List.take_succ_cons, List.take_zero, List.drop_succ_cons, List.drop_zero, List.length_cons, List.length_nil, List.size_toArray, Nat.zero_add, Nat.reduceAdd, Act.eval, Array.getD_eq_getD_getElem?, List.getElem?_toArray, List.getElem?_cons_succ, List.getElem?_cons_zero, Option.getD_some, List.flatMap_cons, List.flatMap_nil, List.append_nil, Act.put, List.setIfInBounds_toArray, List.set_cons_succ, List.set_cons_zero] at H); have hc := H.cells; simp only [CellsOf, KnCells, arr_lit, knAt_cons, knAt_nil, Nat.zero_add, Nat.add_zero, Nat.reduceAdd] at hc)
      | (refine op_alloc _ rfl (zero_of _ _ rfl) H (fun b w' H1 => hK _ _ ?_); clear hK K; replace H := H1; clear H1; (try clear hc); (try simp only [List.nil_append, List.cons_append, List.append_assoc, splice, Value.cells, List.take_succ_cons, List.take_zero, List.drop_succ_cons, List.drop_zero, List.length_cons, List.length_nil, List.size_toArray, Nat.zero_add, Nat.reduceAdd, Act.eval, Array.getD_eq_getD_getElem?, List.getElem?_toArray, List.getElem?_cons_succ, List.getElem?_cons_zero, Option.getD_some, List.flatMap_cons, List.flatMap_nil, List.append_nil, Act.put, List.setIfInBounds_toArray, List.set_cons_succ, List.set_cons_zero] at H); have hc := H.cells; simp only [CellsOf, KnCells, arr_lit, knAt_cons, knAt_nil, Nat.zero_add, Nat.add_zero, Nat.reduceAdd] at hc)
      | (refine op_store _ _ _ rfl rfl rfl H (by repeat (first | exact Split.here _ _ | apply Split.there)) (by kernel_rfl) (by kernel_rfl) (by kernel_rfl) (fun w' H1 => hK _ _ ?_); clear hK K; replace H := H1; clear H1; (try clear hc); (try simp only [List.nil_append, List.cons_append, List.append_assoc, splice, Value.cells, List.take_succ_cons, List.take_zero, List.drop_succ_cons, List.drop_zero, List.length_cons, List.length_nil, List.size_toArray, Nat.zero_add, Nat.reduceAdd, Act.eval, Array.getD_eq_getD_getElem?, List.getElem?_toArray, List.getElem?_cons_succ, List.getElem?_cons_zero, Option.getD_some, List.flatMap_cons, List.flatMap_nil, List.append_nil, Act.put, List.setIfInBounds_toArray, List.set_cons_succ, List.set_cons_zero] at H); have hc := H.cells; simp only [CellsOf, KnCells, arr_lit, knAt_cons, knAt_nil, Nat.zero_add, Nat.add_zero, Nat.reduceAdd] at hc)
      | (refine op_buildSlice_all _ _ _ rfl (by first | exact elem22 | exact elem25 | exact elem26 | exact elem29) (by kernel_rfl) (by kernel_rfl) (by kernel_rfl) H (fun b w' H1 => hK _ _ ?_); clear hK K; replace H := H1; clear H1; (try clear hc); (try simp only [List.nil_append, List.cons_append, List.append_assoc, splice, Value.cells, List.take_succ_cons, List.take_zero, List.drop_succ_cons, List.drop_zero, List.length_cons, List.length_nil, List.size_toArray, Nat.zero_add, Nat.reduceAdd, Act.eval, Array.getD_eq_getD_getElem?, List.getElem?_toArray, List.getElem?_cons_succ, List.getElem?_cons_zero, Option.getD_some, List.flatMap_cons, List.flatMap_nil, List.append_nil, Act.put, List.setIfInBounds_toArray, List.set_cons_succ, List.set_cons_zero] at H); have hc := H.cells; simp only [CellsOf, KnCells, arr_lit, knAt_cons, knAt_nil, Nat.zero_add, Nat.add_zero, Nat.reduceAdd] at hc)))) | go_values | go_skip | go_guarded | go_step | go_upon | go_back | dsimp only)
          go_ret
          exact ⟨rfl, H.top0⟩
        · obtain ⟨P, rfl⟩ : ∃ P : Nat, places = P := ⟨places.toNat, by omega⟩
          cases key with
          | none => exact absurd (H.get (Split.here _ _)).1 (by omega)
          | some kb =>
            rw [show sl (some kb) (j + 4) cap' = .slice (some ⟨kb, 0, none⟩) (j + 4) cap' from rfl]
            obtain ⟨ops, hops⟩ : ∃ ops : List ROp, ops = rs.map toOp ++ [⟨5, none, 0, []⟩, ⟨3, none, 0, []⟩, ⟨6, none, 0, []⟩, ⟨4, none, 0, []⟩] := ⟨_, rfl⟩
            have hcells : ops.flatMap ROp.cells = wops rs ++ [.int .i64 5, .slice none 0 0, .int .i64 3, .slice none 0 0, .int .i64 6, .slice none 0 0, .int .i64 4, .slice none 0 0] := by
              rw [hops, List.flatMap_append]
              rfl
            rw [← hcells] at H
            replace H := H.roArr (Split.here _ _)
            simp only [List.nil_append, Option.map_some] at H
            have hlen : Hid (ops.length = j + 4) := by show _ = _; rw [hops, List.length_append, List.length_map, hn.out]; rfl
            have hv : Hid (∀ o ∈ ops, o.vals.length ≤ 1000000) := by
              show ∀ o ∈ ops, _
              rw [hops]
              intro o ho
              rcases List.mem_append.1 ho with ho | ho
              · obtain ⟨r, hr, rfl⟩ := List.mem_map.1 ho
                have := hq.out r hr
                show r.list.length ≤ _
                omega
              · simp only [List.mem_cons, List.not_mem_nil, or_false] at ho
                rcases ho with rfl | rfl | rfl | rfl <;> simp
            have hls : ∀ w', Ext [] w w' → Hid (∀ o ∈ ops, Lies w' o.at' (ints o.vals) ∧ (o.at' = none → o.vals.length = 0)) := by
              intro w' hx
              show ∀ o ∈ ops, _
              rw [hops]
              intro o ho
              rcases List.mem_append.1 ho with ho | ho
              · obtain ⟨r, hr, rfl⟩ := List.mem_map.1 ho
                obtain ⟨g1, g2⟩ := hs.out r hr
                exact ⟨lies_same g1 (fun b hb => hx.block b (soft_lt g1 b hb) (by simp)), g2⟩
              · simp only [List.mem_cons, List.not_mem_nil, or_false] at ho
                rcases ho with rfl | rfl | rfl | rfl <;> exact ⟨⟨fun _ => rfl, fun _ h => by cases h⟩, fun _ => rfl⟩
            obtain ⟨off, hoff⟩ : ∃ off, m - P = off := ⟨_, rfl⟩
            obtain ⟨q, rfl⟩ : ∃ q, m = off + q := ⟨m - off, by omega⟩
            obtain ⟨want, hw⟩ : ∃ want, (alls rs).drop off = want := ⟨_, rfl⟩
            have hwl : Hid (want.length = q) := by show _ = _; rw [← hw, List.length_drop, hm.out]; omega
            have hans := last_answers P (by omega) (by omega) (rs.map toOp) ⟨5, none, 0, []⟩ ⟨3, none, 0, []⟩ ⟨6, none, 0, []⟩ ⟨4, none, 0, []⟩ (by simp [toOp]) (by rw [alls_eq, hm.out]; omega) rfl rfl rfl rfl
            rw [← hops, alls_eq, hm.out, hoff, hw, show min (off + q) P = q by omega] at hans
            have hans' := Lib.hid hans
            have hw' := Lib.hid hw
            clear hops hcells hans hw
            go_upto_region 17 with (first
    | (go_at_call 7; refine Calls.mono (ring2_at _ P rfl (by omega) (by omega) ops (j + 4) kb cap' _ hlen (by omega) hv (hls _ H.ext) (H.pick (by repeat (first | exact Picks.nil _ | (apply Picks.wr; focus (repeat (first | exact Split.here _ _ | apply Split.there))) | (apply Picks.rd; focus (repeat (first | exact Split.here _ _ | apply Split.there))))))) ?_; rintro e w' ⟨key3, cap3, la, fp, hrs, rfl, H'⟩; replace H := H.merge (by first | exact Strikes.nil _ | (repeat (first | exact Strikes.nil _ | (apply Strikes.cons; focus (repeat (first | exact Split.here _ _ | apply Split.there)))))) H' rfl; clear H'; (try clear hc); (try simp only [List.nil_append, List.cons_append, List.append_assoc, splice, Value.cells, List.take_succ_cons, List.take_zero, List.drop_succ_cons, List.drop_zero, List.length_cons, List.length_nil, List.size_toArray, Nat.zero_add, Nat.reduceAdd, Act.eval, Array.getD_eq_getD_getElem?, List.getElem?_toArray, List.getElem?_cons_succ, List.getElem?_cons_zero, Option.getD_some, List.flatMap_cons, List.flatMap_nil, List.append_nil, Act.put, List.setIfInBounds_toArray, List.set_cons_succ, List.set_cons_zero] at H); have hc := H.cells; simp only [CellsOf, KnCells, arr_lit, knAt_cons, knAt_nil, Nat.zero_add, Nat.add_zero, Nat.reduceAdd] at hc)
    | (refine loud_ rfl ?_; refine wpList_plain rfl (fun K hK => ?_); first
      | (refine op_box _ _ rfl H (fun b w' H1 => hK _ _ ?_); clear hK K; replace H := H1; clear H1; (try clear hc); (try simp only [List.nil_append, List.cons_append, List.append_assoc, splice, Value.cells, List.take_succ_cons, List.take_zero, List.drop_succ_cons, List.drop_zero, List.length_cons, List.length_nil, List.size_toArray, Nat.zero_add, Nat.reduceAdd, Act.eval, Array.getD_eq_getD_getElem?, List.getElem?_toArray, List.getElem?_cons_succ, List.getElem?_cons_zero, Option.getD_some, List.flatMap_cons, List.flatMap_nil, List.append_nil, Act.put, List.setIfInBounds_toArray, List.set_cons_succ, List.set_cons_zero] at H); have hc := H.cells; simp only [CellsOf, KnCells, arr_lit, knAt_cons, knAt_nil, Nat.zero_add, Nat.add_zero, Nat.reduceAdd] at hc)
      | (refine op_alloc _ rfl (zero_of _ _ rfl) H (fun b w' H1 => hK _ _ ?_); clear hK K; replace H := H1; clear H1; (try clear hc); (try simp only [List.nil_append, List.cons_append, List.append_assoc, splice, Value.cells, List.take_succ_cons, List.take_zero, List.drop_succ_cons, List.drop_zero, List.length_cons, List.length_nil, List.size_toArray, Nat.zero_add, Nat.reduceAdd, Act.eval, Array.getD_eq_getD_getElem?, List.getElem?_toArray, List.getElem?_cons_succ, List.getElem?_cons_zero, Option.getD_some, List.flatMap_cons, List.flatMap_nil, List.append_nil, Act.put, List.setIfInBounds_toArray, List.set_cons_succ, List.set_cons_zero] at H); have hc := H.cells; simp only [CellsOf, KnCells, arr_lit, knAt_cons, knAt_nil, Nat.zero_add, Nat.add_zero, Nat.reduceAdd] at hc)
      | (refine op_store _ _ _ rfl rfl rfl H (by repeat (first | exact Split.here _ _ | apply Split.there)) (by kernel_rfl) (by kernel_rfl) (by kernel_rfl) (fun w' H1 => hK _ _ ?_); clear hK K; replace H := H1; clear H1; (try clear hc); (try simp only [List.nil_append, List.cons_append, List.append_assoc, splice, Value.cells, List.take_succ_cons, List.take_zero, List.drop_succ_cons, List.drop_zero, List.length_cons, List.length_nil, List.size_toArray, Nat.zero_add, Nat.reduceAdd, Act.eval, Array.getD_eq_getD_getElem?, List.getElem?_toArray, List.getElem?_cons_succ, List.getElem?_cons_zero, Option.getD_some, List.flatMap_cons, List.flatMap_nil, List.append_nil, Act.put, List.setIfInBounds_toArray, List.set_cons_succ, List.set_cons_zero] at H); have hc := H.cells; simp only [CellsOf, KnCells, arr_lit, knAt_cons, knAt_nil, Nat.zero_add, Nat.add_zero, Nat.reduceAdd] at hc)
      | (refine op_buildSlice_all _ _ _ rfl (by first | exact elem22 | exact elem25 | exact elem26 | exact elem29) (by kernel_rfl) (by kernel_rfl) (by kernel_rfl) H (fun b w' H1 => hK _ _ ?_); clear hK K; replace H := H1; clear H1; (try clear hc); (try simp only [List.nil_append, List.cons_append, List.append_assoc, splice, Value.cells, List.take_succ_cons, List.take_zero, List.drop_succ_cons, List.drop_zero, List.length_cons, List.length_nil, List.size_toArray, Nat.zero_add, Nat.reduceAdd, Act.eval, Array.getD_eq_getD_getElem?, List.getElem?_toArray, List.getElem?_cons_succ, List.getElem?_cons_zero, Option.getD_some, List.flatMap_cons, List.flatMap_nil, List.append_nil, Act.put, List.setIfInBounds_toArray, List.set_cons_succ, List.set_cons_zero] at H); have hc := H.cells; simp only [CellsOf, KnCells, arr_lit, knAt_cons, knAt_nil, Nat.zero_add, Nat.add_zero, Nat.reduceAdd] at hc)))
            cases key3 with
            | none => exact absurd (H.get (Split.here _ _)).1 (by omega)
            | some gb =>
              rw [show sl (some gb) (j + 4) cap3 = .slice (some ⟨gb, 0, none⟩) (j + 4) cap3 from rfl]
              obtain ⟨A, a0, a1, a2, a3, hla, hA, t0, t1, t2, t3⟩ := last_four (hrs.out.trans hans'.out)
              rw [FR.tells_len, List.length_map, hn.out] at hA
              have i0 := ra_at la j a0 (by rw [hla, List.getElem?_append_right (by omega), show j - A.length = 0 by omega]; rfl)
              have i1 := ra_at la (j + 1) a1 (by rw [hla, List.getElem?_append_right (by omega), show j + 1 - A.length = 1 by omega]; rfl)
              have i2 := ra_at la (j + 2) a2 (by rw [hla, List.getElem?_append_right (by omega), show j + 2 - A.length = 2 by omega]; rfl)
              have i3 := ra_at la (j + 3) a3 (by rw [hla, List.getElem?_append_right (by omega), show j + 3 - A.length = 3 by omega]; rfl)
              obtain ⟨hm0, H1⟩ := H.ansRow (Split.there _ (Split.here _ _)) a0 (by rw [hla]; simp)
              clear H hrs hans' hla hA
              simp only [List.cons_append, List.nil_append] at H1
              have H := H1.roArr (Split.there _ (Split.here _ _))
              clear H1
              simp only [List.cons_append, List.nil_append, Option.map_some] at H
              replace H := H.elem (Split.there _ (Split.here _ _)) _ _ i0.1 i0.2
              replace H := H.elem (Split.there _ (Split.there _ (Split.here _ _))) _ _ i1.1 i1.2
              replace H := H.elem (Split.there _ (Split.there _ (Split.there _ (Split.here _ _)))) _ _ i2.1 i2.2
              replace H := H.elem (Split.there _ (Split.there _ (Split.there _ (Split.there _ (Split.here _ _))))) _ _ i3.1 i3.2
              clear i0 i1 i2 i3
              obtain ⟨k0, m0, c0, ok0, n0, l0⟩ := a0
              obtain ⟨k1, m1, c1, ok1, n1, l1⟩ := a1
              obtain ⟨k2, m2, c2, ok2, n2, l2⟩ := a2
              obtain ⟨k3, m3, c3, ok3, n3, l3⟩ := a3
              simp only [RA.tell, Prod.mk.injEq] at t0 t1 t2 t3
              obtain ⟨rfl, rfl, rfl⟩ := t0
              obtain ⟨rfl, rfl, -⟩ := t1
              obtain ⟨rfl, rfl, -⟩ := t2
              obtain ⟨rfl, rfl, -⟩ := t3
              simp only at hm0
              rw [hwl.out] at hm0
              subst hm0
              simp only [RA.cells, Nat.zero_add] at H
              rw [show sl k0 m0 c0 = .slice (k0.map fun b => ⟨b, 0, none⟩) m0 c0 from rfl] at H
              generalize k0.map (fun b => (⟨b, 0, none⟩ : Addr)) = s0 at H
              have hsel : (if (P : Int) < (off : Int) + (m0 : Int) then (off : Int) + (m0 : Int) - (P : Int) else 0) = (off : Int) := by split <;> omega
              have H2 := H.cutSoft (Split.there _ (Split.there _ (Split.there _ (Split.there _ (Split.there _ (Split.there _ (Split.there _ (Split.there _ (Split.here _ _))))))))) off _ hw'.out hm.out (by omega)
              clear H hls hlen hv
              have H := H2
              clear H2
              simp only [List.cons_append, List.nil_append] at H
              have hc := H.cells; simp only [CellsOf, KnCells, arr_lit, knAt_cons, knAt_nil, Nat.zero_add, Nat.add_zero, Nat.reduceAdd] at hc
              repeat' (first | (go_big_may; (first
    | (go_at_call 8; refine Calls.mono (equal_calls s0 _ c0 _ l0 m0 _ (by omega) hwl (H.pick (by repeat (first | exact Picks.nil _ | (apply Picks.wr; focus (repeat (first | exact Split.here _ _ | apply Split.there))) | (apply Picks.rd; focus (repeat (first | exact Split.here _ _ | apply Split.there))))))) ?_; rintro e w' ⟨rfl, H'⟩; replace H := H.of_ext H'; clear H'; (try clear hc); (try simp only [List.nil_append, List.cons_append, List.append_assoc, splice, Value.cells, List.take_succ_cons, List.take_zero, List.drop_succ_cons, List.drop_zero, List.length_cons, List.length_nil, List.size_toArray, Nat.zero_add, Nat.reduceAdd, Act.eval, Array.getD_eq_getD_getElem?, List.getElem?_toArray, List.getElem?_cons_succ, List.getElem?_cons_zero, Option.getD_some, List.flatMap_cons, List.flatMap_nil, List.append_nil, Act.put, List.setIfInBounds_toArray, List.set_cons_succ, List.set_cons_zero] at H); have hc := H.cells; simp only [CellsOf, KnCells, arr_lit, knAt_cons, knAt_nil, Nat.zero_add, Nat.add_zero, Nat.reduceAdd] at hc)
    | (go_at_call 6; refine Calls.mono (rgLive_calls _) ?_; rintro e w' ⟨rfl, H'⟩; replace H := H.of_ext H'; clear H'; (try clear hc); (try simp only [List.nil_append, List.cons_append, List.append_assoc, splice, Value.cells, List.take_succ_cons, List.take_zero, List.drop_succ_cons, List.drop_zero, List.length_cons, List.length_nil, List.size_toArray, Nat.zero_add, Nat.reduceAdd, Act.eval, Array.getD_eq_getD_getElem?, List.getElem?_toArray, List.getElem?_cons_succ, List.getElem?_cons_zero, Option.getD_some, List.flatMap_cons, List.flatMap_nil, List.append_nil, Act.put, List.setIfInBounds_toArray, List.set_cons_succ, List.set_cons_zero] at H); have hc := H.cells; simp only [CellsOf, KnCells, arr_lit, knAt_cons, knAt_nil, Nat.zero_add, Nat.add_zero, Nat.reduceAdd] at hc)
    | (refine loud_ rfl ?_; refine wpList_plain rfl (fun K hK => ?_); first
      | (refine op_box _ _ rfl H (fun b w' H1 => hK _ _ ?_); clear hK K; replace H := H1; clear H1; (try clear hc); (try simp only [List.nil_append, List.cons_append, List.append_assoc, splice, Value.cells, List.take_succ_cons, List.take_zero, List.drop_succ_cons, List.drop_zero, List.length_cons, List.length_nil, List.size_toArray, Nat.zero_add, Nat.reduceAdd, Act.eval, Array.getD_eq_getD_getElem?, List.getElem?_toArray, List.getElem?_cons_succ, List.getElem?_cons_zero, Option.getD_some, List.flatMap_cons, List.flatMap_nil, List.append_nil, Act.put, List.setIfInBounds_toArray, List.set_cons_succ, List.set_cons_zero] at H); have hc := H.cells; simp only [CellsOf, KnCells, arr_lit, knAt_cons, knAt_nil, Nat.zero_add, Nat.add_zero, Nat.reduceAdd] at hc)
      | (refine op_alloc _ rfl (zero_of _ _ rfl) H (fun b w' H1 => hK _ _ ?_); clear hK K; replace H := H1; clear H1; (try clear hc); (try simp only [List.nil_append, List.cons_append, List.append_assoc, splice, Value.cells, List.take_succ_cons, List.take_zero, List.drop_succ_cons, List.drop_zero, List.length_cons, List.length_nil, List.size_toArray, Nat.zero_add, Nat.reduceAdd, Act.eval, Array.getD_eq_getD_getElem?, List.getElem?_toArray, List.getElem?_cons_succ, List.getElem?_cons_zero, Option.getD_some, List.flatMap_cons, List.flatMap_nil, List.append_nil, Act.put, List.setIfInBounds_toArray, List.set_cons_succ, List.set_cons_zero] at H); have hc := H.cells; simp only [CellsOf, KnCells, arr_lit, knAt_cons, knAt_nil, Nat.zero_add, Nat.add_zero, Nat.reduceAdd] at hc)
      | (refine op_store _ _ _ rfl rfl rfl H (by repeat (first | exact Split.here _ _ | apply Split.there)) (by kernel_rfl) (by kernel_rfl) (by kernel_rfl) (fun w' H1 => hK _ _ ?_); clear hK K; replace H := H1; clear H1; (try clear hc); (try simp only [List.nil_append, List.cons_append, List.append_assoc, splice, Value.cells, List.take_succ_cons, List.take_zero, List.drop_succ_cons, List.drop_zero, List.length_cons, List.length_nil, List.size_toArray, Nat.zero_add, Nat.reduceAdd, Act.eval, Array.getD_eq_getD_getElem?, List.getElem?_toArray, List.getElem?_cons_succ, List.getElem?_cons_zero, Option.getD_some, List.flatMap_cons, List.flatMap_nil, List.append_nil, Act.put, List.setIfInBounds_toArray, List.set_cons_succ, List.set_cons_zero] at H); have hc := H.cells; simp only [CellsOf, KnCells, arr_lit, knAt_cons, knAt_nil, Nat.zero_add, Nat.add_zero, Nat.reduceAdd] at hc)
      | (refine op_buildSlice_all _ _ _ rfl (by first | exact elem22 | exact elem25 | exact elem26 | exact elem29) (by kernel_rfl) (by kernel_rfl) (by kernel_rfl) H (fun b w' H1 => hK _ _ ?_); clear hK K; replace H := H1; clear H1; (try clear hc); (try simp only [List.nil_append, List.cons_append, List.append_assoc, splice, Value.cells, List.take_succ_cons, List.take_zero, List.drop_succ_cons, List.drop_zero, List.length_cons, List.length_nil, List.size_toArray, Nat.zero_add, Nat.reduceAdd, Act.eval, Array.getD_eq_getD_getElem?, List.getElem?_toArray, List.getElem?_cons_succ, List.getElem?_cons_zero, Option.getD_some, List.flatMap_cons, List.flatMap_nil, List.append_nil, Act.put, List.setIfInBounds_toArray, List.set_cons_succ, List.set_cons_zero] at H); have hc := H.cells; simp only [CellsOf, KnCells, arr_lit, knAt_cons, knAt_nil, Nat.zero_add, Nat.add_zero, Nat.reduceAdd] at hc)))) | go_values | go_skip | go_guarded | go_step | go_upon | go_back | dsimp only)
              go_ret
              exact ⟨rfl, H.top0⟩
  · go_ret
    exact ⟨rfl, H.top0⟩
end Go.Proofs.Ytlikpgidjdjgnaa
