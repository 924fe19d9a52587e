import Derived.Test.YtjohecbcgdeabaaWireC
namespace Go.Proofs.Ytjohecbcgdeabaa
set_option linter.unusedVariables false
set_option linter.unusedSimpArgs false
set_option linter.unnecessarySimpa false
open Go.RowKit Go.V

/-- How many bytes a number has in pieces of seven bits. -/
def vl (n : Nat) : Nat := if n < 128 then 1 else vl (n / 128) + 1
theorem vl_small {n : Nat} (h : n < 128) : vl n = 1 := by rw [vl, if_pos h]
theorem vl_big {n : Nat} (h : ¬ n < 128) : vl n = vl (n / 128) + 1 := by rw [vl, if_neg h]
theorem vl_le : ∀ (k n : Nat), n < 128 ^ (k + 1) → vl n ≤ k + 1
  | 0, n, h => by rw [vl_small (by simpa using h)]; omega
  | k + 1, n, h => by
    by_cases hn : n < 128
    · rw [vl_small hn]; omega
    · rw [vl_big hn]
      have := vl_le k (n / 128) (by rw [Nat.div_lt_iff_lt_mul (by omega)]; simpa [Nat.pow_succ] using h)
      omega
theorem vl_ten {n : Nat} (h : n < 18446744073709551616) : vl n ≤ 10 := vl_le 9 n (Nat.lt_of_lt_of_le h (by decide))

set_option maxHeartbeats 1000000 in
theorem putVarint_calls (key : Option Nat) (k cap : Nat) (xs : List Value) (S : List Nat) (n : Nat) (hn : n < 18446744073709551616) (hk : k ≤ 1000000000) (w : World) (H : St S w w [(true, .row key 5 1 k cap xs)]) :
    Calls Try.prog 54 #[sl key k cap, .int .u64 n] w fun e w' => ∃ key cap ys, One ys ∧ e = .returned (sl key (k + vl n) cap) ∧ St S w w' [(true, .row key 5 1 (k + vl n) cap (xs ++ ys))] := by
  go_enter Try.func54, Try.ntmps54
  go_wp2_with (first
    | (refine loud_ rfl ?_; refine wpList_plain rfl (fun K hK => ?_); first
      | (refine op_box _ _ rfl H (fun b w' H1 => hK _ _ ?_); clear hK K; replace H := H1; clear H1; (try clear hc); (try simp only [List.nil_append, List.cons_append, List.append_assoc, splice, Value.cells, List.take_succ_cons, List.take_zero, List.drop_succ_cons, List.drop_zero, List.length_cons, List.length_nil, List.size_toArray, Nat.zero_add, Nat.reduceAdd, Act.eval, Array.getD_eq_getD_getElem?, List.getElem?_toArray, List.getElem?_cons_succ, List.getElem?_cons_zero, Option.getD_some, List.flatMap_cons, List.flatMap_nil, List.append_nil, Act.put, List.setIfInBounds_toArray, List.set_cons_succ, List.set_cons_zero] at H); have hc := H.cells; simp only [CellsOf, KnCells] at hc)
      | (refine op_alloc _ rfl (zero_of _ _ rfl) H (fun b w' H1 => hK _ _ ?_); clear hK K; replace H := H1; clear H1; (try clear hc); (try simp only [List.nil_append, List.cons_append, List.append_assoc, splice, Value.cells, List.take_succ_cons, List.take_zero, List.drop_succ_cons, List.drop_zero, List.length_cons, List.length_nil, List.size_toArray, Nat.zero_add, Nat.reduceAdd, Act.eval, Array.getD_eq_getD_getElem?, List.getElem?_toArray, List.getElem?_cons_succ, List.getElem?_cons_zero, Option.getD_some, List.flatMap_cons, List.flatMap_nil, List.append_nil, Act.put, List.setIfInBounds_toArray, List.set_cons_succ, List.set_cons_zero] at H); have hc := H.cells; simp only [CellsOf, KnCells] at hc)
      | (refine op_store _ _ _ rfl rfl rfl H (by repeat (first | exact Split.here _ _ | apply Split.there)) (by kernel_rfl) (by kernel_rfl) (by kernel_rfl) (fun w' H1 => hK _ _ ?_); clear hK K; replace H := H1; clear H1; (try clear hc); (try simp only [List.nil_append, List.cons_append, List.append_assoc, splice, Value.cells, List.take_succ_cons, List.take_zero, List.drop_succ_cons, List.drop_zero, List.length_cons, List.length_nil, List.size_toArray, Nat.zero_add, Nat.reduceAdd, Act.eval, Array.getD_eq_getD_getElem?, List.getElem?_toArray, List.getElem?_cons_succ, List.getElem?_cons_zero, Option.getD_some, List.flatMap_cons, List.flatMap_nil, List.append_nil, Act.put, List.setIfInBounds_toArray, List.set_cons_succ, List.set_cons_zero] at H); have hc := H.cells; simp only [CellsOf, KnCells] at hc)
      | (refine op_buildSlice_all _ _ _ rfl (by first | exact elem22 | exact elem28 | exact elem44 | exact elem53 | exact elem59) (by kernel_rfl) (by kernel_rfl) (by kernel_rfl) H (fun b w' H1 => hK _ _ ?_); clear hK K; replace H := H1; clear H1; (try clear hc); (try simp only [List.nil_append, List.cons_append, List.append_assoc, splice, Value.cells, List.take_succ_cons, List.take_zero, List.drop_succ_cons, List.drop_zero, List.length_cons, List.length_nil, List.size_toArray, Nat.zero_add, Nat.reduceAdd, Act.eval, Array.getD_eq_getD_getElem?, List.getElem?_toArray, List.getElem?_cons_succ, List.getElem?_cons_zero, Option.getD_some, List.flatMap_cons, List.flatMap_nil, List.append_nil, Act.put, List.setIfInBounds_toArray, List.set_cons_succ, List.set_cons_zero] at H); have hc := H.cells; simp only [CellsOf, KnCells] at hc)))
  go_loopw [0, 1] (fun b i wr => ∃ (key : Option Nat) (j cap m : Nat) (ys : List Value), b = sl key j cap ∧ i = .int .u64 m ∧ j + vl m = k + vl n ∧ m < 18446744073709551616 ∧ vl m ≤ vl n ∧ One ys ∧
      St S w wr [(true, .row key 5 1 j cap (xs ++ ys))])
    (fun _ i _ => (intOf i).toNat)
  case atStart => exact ⟨key, k, cap, n, [], rfl, rfl, rfl, hn, Nat.le_refl _, One.nil, by simpa using H⟩
  case round =>
    clear H
    obtain ⟨key, j, cap, m, ys, rfl, rfl, hj, hm, hl, h1, H⟩ := hrel
    have h10 := vl_ten hn
    by_cases hlt : m < 128
    · rw [vl_small hlt] at hj
      have hb : j + 1 ≤ 2000000000 := by omega
      clear hm hl h10 hn
      have c0 : decide (128 ≤ (m : Int)) = false := decide_eq_false (by omega)
      clear hlt
      go_wp2_with (first
    | (refine loud_ rfl ?_; refine wpList_plain rfl (fun K hK => ?_); first
      | (refine op_append_lit _ _ _ rfl elem53 rfl rfl H (by repeat (first | exact Split.here _ _ | apply Split.there)) (by repeat (first | exact Split.here _ _ | apply Split.there)) (by kernel_rfl) (by kernel_rfl) (by omega) (by unfold maxLen; omega) (fun key cap' w' H1 => hK _ _ ?_); clear hK K; replace H := H1; clear H1; (try clear hc); (try simp only [List.nil_append, List.cons_append, List.append_assoc, splice, Value.cells, List.take_succ_cons, List.take_zero, List.drop_succ_cons, List.drop_zero, List.length_cons, List.length_nil, List.size_toArray, Nat.zero_add, Nat.reduceAdd, Act.eval, Array.getD_eq_getD_getElem?, List.getElem?_toArray, List.getElem?_cons_succ, List.getElem?_cons_zero, Option.getD_some, List.flatMap_cons, List.flatMap_nil, List.append_nil, Act.put, List.setIfInBounds_toArray, List.set_cons_succ, List.set_cons_zero] at H); have hc := H.cells; simp only [CellsOf, KnCells] at hc)
      | (refine op_box _ _ rfl H (fun b w' H1 => hK _ _ ?_); clear hK K; replace H := H1; clear H1; (try clear hc); (try simp only [List.nil_append, List.cons_append, List.append_assoc, splice, Value.cells, List.take_succ_cons, List.take_zero, List.drop_succ_cons, List.drop_zero, List.length_cons, List.length_nil, List.size_toArray, Nat.zero_add, Nat.reduceAdd, Act.eval, Array.getD_eq_getD_getElem?, List.getElem?_toArray, List.getElem?_cons_succ, List.getElem?_cons_zero, Option.getD_some, List.flatMap_cons, List.flatMap_nil, List.append_nil, Act.put, List.setIfInBounds_toArray, List.set_cons_succ, List.set_cons_zero] at H); have hc := H.cells; simp only [CellsOf, KnCells] at hc)
      | (refine op_alloc _ rfl (zero_of _ _ rfl) H (fun b w' H1 => hK _ _ ?_); clear hK K; replace H := H1; clear H1; (try clear hc); (try simp only [List.nil_append, List.cons_append, List.append_assoc, splice, Value.cells, List.take_succ_cons, List.take_zero, List.drop_succ_cons, List.drop_zero, List.length_cons, List.length_nil, List.size_toArray, Nat.zero_add, Nat.reduceAdd, Act.eval, Array.getD_eq_getD_getElem?, List.getElem?_toArray, List.getElem?_cons_succ, List.getElem?_cons_zero, Option.getD_some, List.flatMap_cons, List.flatMap_nil, List.append_nil, Act.put, List.setIfInBounds_toArray, List.set_cons_succ, List.set_cons_zero] at H); have hc := H.cells; simp only [CellsOf, KnCells] at hc)
      | (refine op_store _ _ _ rfl rfl rfl H (by repeat (first | exact Split.here _ _ | apply Split.there)) (by kernel_rfl) (by kernel_rfl) (by kernel_rfl) (fun w' H1 => hK _ _ ?_); clear hK K; replace H := H1; clear H1; (try clear hc); (try simp only [List.nil_append, List.cons_append, List.append_assoc, splice, Value.cells, List.take_succ_cons, List.take_zero, List.drop_succ_cons, List.drop_zero, List.length_cons, List.length_nil, List.size_toArray, Nat.zero_add, Nat.reduceAdd, Act.eval, Array.getD_eq_getD_getElem?, List.getElem?_toArray, List.getElem?_cons_succ, List.getElem?_cons_zero, Option.getD_some, List.flatMap_cons, List.flatMap_nil, List.append_nil, Act.put, List.setIfInBounds_toArray, List.set_cons_succ, List.set_cons_zero] at H); have hc := H.cells; simp only [CellsOf, KnCells] at hc)
      | (refine op_buildSlice_all _ _ _ rfl (by first | exact elem22 | exact elem28 | exact elem44 | exact elem53 | exact elem59) (by kernel_rfl) (by kernel_rfl) (by kernel_rfl) H (fun b w' H1 => hK _ _ ?_); clear hK K; replace H := H1; clear H1; (try clear hc); (try simp only [List.nil_append, List.cons_append, List.append_assoc, splice, Value.cells, List.take_succ_cons, List.take_zero, List.drop_succ_cons, List.drop_zero, List.length_cons, List.length_nil, List.size_toArray, Nat.zero_add, Nat.reduceAdd, Act.eval, Array.getD_eq_getD_getElem?, List.getElem?_toArray, List.getElem?_cons_succ, List.getElem?_cons_zero, Option.getD_some, List.flatMap_cons, List.flatMap_nil, List.append_nil, Act.put, List.setIfInBounds_toArray, List.set_cons_succ, List.set_cons_zero] at H); have hc := H.cells; simp only [CellsOf, KnCells] at hc)))
      go_ret
      rw [← hj]
      exact ⟨_, _, _, h1.append (One.cons rfl One.nil), rfl, by simpa using H.top1⟩
    · rw [vl_big hlt] at hj
      have c0 : decide (128 ≤ (m : Int)) = true := decide_eq_true (by omega)
      have hb : j + 1 ≤ 2000000000 := by omega
      have hk' : Hid (m / 128 < 18446744073709551616 ∧ vl (m / 128) ≤ vl n ∧ m / 128 < m) := by rw [vl_big hlt] at hl; exact (by omega : m / 128 < 18446744073709551616 ∧ vl (m / 128) ≤ vl n ∧ m / 128 < m)
      clear hm hl h10 hn hlt
      go_wp2_with (first
    | (refine loud_ rfl ?_; refine wpList_plain rfl (fun K hK => ?_); first
      | (refine op_append_lit _ _ _ rfl elem53 rfl rfl H (by repeat (first | exact Split.here _ _ | apply Split.there)) (by repeat (first | exact Split.here _ _ | apply Split.there)) (by kernel_rfl) (by kernel_rfl) (by omega) (by unfold maxLen; omega) (fun key cap' w' H1 => hK _ _ ?_); clear hK K; replace H := H1; clear H1; (try clear hc); (try simp only [List.nil_append, List.cons_append, List.append_assoc, splice, Value.cells, List.take_succ_cons, List.take_zero, List.drop_succ_cons, List.drop_zero, List.length_cons, List.length_nil, List.size_toArray, Nat.zero_add, Nat.reduceAdd, Act.eval, Array.getD_eq_getD_getElem?, List.getElem?_toArray, List.getElem?_cons_succ, List.getElem?_cons_zero, Option.getD_some, List.flatMap_cons, List.flatMap_nil, List.append_nil, Act.put, List.setIfInBounds_toArray, List.set_cons_succ, List.set_cons_zero] at H); have hc := H.cells; simp only [CellsOf, KnCells] at hc)
      | (refine op_box _ _ rfl H (fun b w' H1 => hK _ _ ?_); clear hK K; replace H := H1; clear H1; (try clear hc); (try simp only [List.nil_append, List.cons_append, List.append_assoc, splice, Value.cells, List.take_succ_cons, List.take_zero, List.drop_succ_cons, List.drop_zero, List.length_cons, List.length_nil, List.size_toArray, Nat.zero_add, Nat.reduceAdd, Act.eval, Array.getD_eq_getD_getElem?, List.getElem?_toArray, List.getElem?_cons_succ, List.getElem?_cons_zero, Option.getD_some, List.flatMap_cons, List.flatMap_nil, List.append_nil, Act.put, List.setIfInBounds_toArray, List.set_cons_succ, List.set_cons_zero] at H); have hc := H.cells; simp only [CellsOf, KnCells] at hc)
      | (refine op_alloc _ rfl (zero_of _ _ rfl) H (fun b w' H1 => hK _ _ ?_); clear hK K; replace H := H1; clear H1; (try clear hc); (try simp only [List.nil_append, List.cons_append, List.append_assoc, splice, Value.cells, List.take_succ_cons, List.take_zero, List.drop_succ_cons, List.drop_zero, List.length_cons, List.length_nil, List.size_toArray, Nat.zero_add, Nat.reduceAdd, Act.eval, Array.getD_eq_getD_getElem?, List.getElem?_toArray, List.getElem?_cons_succ, List.getElem?_cons_zero, Option.getD_some, List.flatMap_cons, List.flatMap_nil, List.append_nil, Act.put, List.setIfInBounds_toArray, List.set_cons_succ, List.set_cons_zero] at H); have hc := H.cells; simp only [CellsOf, KnCells] at hc)
      | (refine op_store _ _ _ rfl rfl rfl H (by repeat (first | exact Split.here _ _ | apply Split.there)) (by kernel_rfl) (by kernel_rfl) (by kernel_rfl) (fun w' H1 => hK _ _ ?_); clear hK K; replace H := H1; clear H1; (try clear hc); (try simp only [List.nil_append, List.cons_append, List.append_assoc, splice, Value.cells, List.take_succ_cons, List.take_zero, List.drop_succ_cons, List.drop_zero, List.length_cons, List.length_nil, List.size_toArray, Nat.zero_add, Nat.reduceAdd, Act.eval, Array.getD_eq_getD_getElem?, List.getElem?_toArray, List.getElem?_cons_succ, List.getElem?_cons_zero, Option.getD_some, List.flatMap_cons, List.flatMap_nil, List.append_nil, Act.put, List.setIfInBounds_toArray, List.set_cons_succ, List.set_cons_zero] at H); have hc := H.cells; simp only [CellsOf, KnCells] at hc)
      | (refine op_buildSlice_all _ _ _ rfl (by first | exact elem22 | exact elem28 | exact elem44 | exact elem53 | exact elem59) (by kernel_rfl) (by kernel_rfl) (by kernel_rfl) H (fun b w' H1 => hK _ _ ?_); clear hK K; replace H := H1; clear H1; (try clear hc); (try simp only [List.nil_append, List.cons_append, List.append_assoc, splice, Value.cells, List.take_succ_cons, List.take_zero, List.drop_succ_cons, List.drop_zero, List.length_cons, List.length_nil, List.size_toArray, Nat.zero_add, Nat.reduceAdd, Act.eval, Array.getD_eq_getD_getElem?, List.getElem?_toArray, List.getElem?_cons_succ, List.getElem?_cons_zero, Option.getD_some, List.flatMap_cons, List.flatMap_nil, List.append_nil, Act.put, List.setIfInBounds_toArray, List.set_cons_succ, List.set_cons_zero] at H); have hc := H.cells; simp only [CellsOf, KnCells] at hc)))
      refine ⟨⟨key, j + 1, cap', m / 128, _, rfl, by go_num, by omega, hk'.1, hk'.2.1, h1.append (One.cons rfl One.nil), by simpa using H.top1⟩, ?_⟩
      have := hk'.2.2
      simp [intOf]
      omega
theorem putVarint_calls' (key : Option Nat) (k cap : Nat) (xs : List Value) (S : List Nat) (n : Int) (hn : 0 ≤ n ∧ n < 18446744073709551616) (hk : k ≤ 1000000000) (w : World) (H : St S w w [(true, .row key 5 1 k cap xs)]) :
    Calls Try.prog 54 #[sl key k cap, .int .u64 n] w fun e w' => ∃ j key cap ys, Hid (j = k + vl n.toNat) ∧ j ≤ k + 10 ∧ One ys ∧ e = .returned (sl key j cap) ∧ St S w w' [(true, .row key 5 1 j cap (xs ++ ys))] := by
  obtain ⟨m, rfl⟩ : ∃ m : Nat, n = m := ⟨n.toNat, by omega⟩
  refine (putVarint_calls key k cap xs S m (by omega) hk w H).mono ?_
  rintro e w' ⟨key, cap, ys, h1, rfl, H'⟩
  have := vl_ten (n := m) (by omega)
  exact ⟨_, key, cap, ys, rfl, by simp only [Int.toNat_natCast]; omega, h1, rfl, H'⟩
theorem putTag_calls (key : Option Nat) (k cap : Nat) (xs : List Value) (S : List Nat) (n : Int) (hn : 0 ≤ n ∧ n < 128) (hk : k ≤ 1000000000) (w : World) (H : St S w w [(true, .row key 5 1 k cap xs)]) :
    Calls Try.prog 54 #[sl key k cap, .int .u64 n] w fun e w' => ∃ key cap ys, One ys ∧ e = .returned (sl key (k + 1) cap) ∧ St S w w' [(true, .row key 5 1 (k + 1) cap (xs ++ ys))] := by
  refine (putVarint_calls' key k cap xs S n (by omega) hk w H).mono ?_
  rintro e w' ⟨j, key, cap, ys, hj, _, h1, rfl, H'⟩
  rw [vl_small (by omega)] at hj
  cases hj
  exact ⟨_, _, _, h1, rfl, H'⟩

/-- How many bytes a field with a number has. -/
def il (n : Int) : Nat := if n = 0 then 0 else 1 + vl (IntKind.u64.wrap n).toNat
theorem u64_range (n : Int) : 0 ≤ IntKind.u64.wrap n ∧ IntKind.u64.wrap n < 18446744073709551616 := by
  simp only [IntKind.wrap, IntKind.bits, IntKind.signed]
  simp
  omega
theorem il_le (n : Int) : il n ≤ 11 := by
  unfold il
  split
  · omega
  · have h := u64_range n
    have := vl_ten (n := (IntKind.u64.wrap n).toNat) (by omega)
    omega
end Go.Proofs.Ytjohecbcgdeabaa
